import PyProof.Rows.All
import Wide.All
import OpenK.AllK
import Wide.FinOn
import PySem.Challenge.RW_pd0169_01
open PySem PySem.W PyProof.Rows PySem.Calls
set_option Elab.async false
set_option maxRecDepth 100000
set_option maxHeartbeats 8000000
set_option linter.unusedVariables false
set_option linter.unusedSectionVars false
set_option compiler.extract_closed false
namespace Mine
section
set_option maxRecDepth 100000 in
set_option maxHeartbeats 8000000 in
open_top hd for PySem.Challenge.rw_pd0169_01
end
section
/-- a frame stands over a heap that kept all -/
theorem fr_keep {h₀ h h' : Heap} {L : Addr} {m : Str → Option Value} (F : Fr h₀ L h m) (k : ∀ b o, h.get? b = some o → h'.get? b = some o) : Fr h₀ L h' m :=
  ⟨F.ns.at' fun o e => k _ o e, fun b o e => k b o (F.keep b o e), F.above⟩
theorem news_keep {h₀ h h' : Heap} {L : Addr} {news : List (Addr × Obj)} (N : News h₀ L h news) (k : ∀ b o, h.get? b = some o → h'.get? b = some o) : News h₀ L h' news :=
  fun p hp => ⟨k _ _ (N p hp).1, (N p hp).2⟩
theorem news_new {h₀ h h' : Heap} {L : Addr} {m : Str → Option Value} {news : List (Addr × Obj)} {l : Addr} {o : Obj} (F : Fr h₀ L h m) (N : News h₀ L h news) (k : ∀ b o, h.get? b = some o → h'.get? b = some o)
    (hl : h.get? l = none) (ho : h'.get? l = some o) : News h₀ L h' ((l, o) :: news) := by
  intro p hp
  rcases List.mem_cons.mp hp with rfl | hp
  · refine ⟨ho, ?_, ?_⟩
    · rintro rfl
      obtain ⟨_, _, _, hL, _⟩ := F.ns
      rw [hL] at hl; cases hl
    · cases q : h₀.get? l with
      | none => rfl
      | some o' => rw [F.keep _ _ q] at hl; cases hl
  · exact news_keep N k p hp

/-- a call of a def of the text: its body over a frame of its own -/
theorem enter {prog : Program} {w : World} {A : Around} {s : Shared} {K : Frag} {p : Program} {loose : List Str} {mean : ExcName → Option Value} {mg mb : Str → Option Value} {Q E : Value → Shared → Prop}
    {name qual : Str} {params : Arguments} {body : List Stmt} {scope : Scope} {dV kV doc pm cdv ct oc : Value} {an od : Option Addr} {osl : Array (Option Value)} {f : Addr} {vs : List Value} {binds : List (Str × Value)}
    (X : K.In s.heap) (T : Top p loose mean mg mb s.heap)
    (ho : K.lookup f = some ⟨oc, od, .func (fnOf name qual params body scope dV kV doc pm an cdv ct), osl⟩) (hcd : codeIn K cdv qual = true) (hroom : A.depth < recursionLimit)
    (hbind : BindsTo s (fnOf name qual params body scope dV kV doc pm an cdv ct) ⟨vs, []⟩ binds) (hloc : ∀ y ∈ binds, scope.names.lookup y.1 = some .local)
    (h : ∀ L' h₁, Fr s.heap L' h₁ (fun y => binds.reverse.lookup y) → News s.heap L' h₁ [] →
      wpAny (model prog w) (A.deeper (envOf qual scope L' f cdv)) (execs body (envOf qual scope L' f cdv))
        (fun fl s' => Q (match fl with | .ret v => v | _ => .none) s') (fun _ _ => False) { s with heap := h₁, toks := s.toks + binds.length })
    (hco : scope.isCoroutine = false) (hgen : scope.isGenerator = false) (hk : scope.kind = .function) (hcell : ∀ x ∈ scope.names, x.2 ≠ .cell) :
    wpAny (model prog w) A (call (.ref f) vs) Q E s := by
  refine wpAny_call (codeAny_call_def (fd := fnOf name qual params body scope dV kV doc pm an cdv ct) (body := body) (binds := binds) hroom (X _ _ ho) rfl T.nolimit (codeRec_of X hcd) rfl hbind hcell hloc (fun h₁ hns hk₁ => ?_) hco hgen hk)
  exact wpAny_mono (h s.heap.objs.size h₁ ⟨hns, hk₁, Nat.le_refl _⟩ News.nil) (fun _ _ x => x) fun _ _ x => x.elim

/-- where a def's call stands -/
noncomputable abbrev Ar (dp un : Nat) (fr : Option (List Env)) (gd : Option (List Code)) : Around := { handled := none, depth := dp, frames := fr, guards := gd, units := un }

theorem code_function_meets {prog : Program} {w : World} {A : Around} {s : Shared} {id : String} {B : Builtin} {args : List Value} {S : PySem.Spec} {R : Result → Shared → Prop} (kind : builtinKind id = none) (plain : plainId id = true)
    (entry : entryFor table id = some B) (ok : argsOk id ⟨args, []⟩) (g : Meets (B ⟨args, []⟩) S) (h : S A R s) : codeAny (model prog w) A (.call (.builtin id) ⟨args, []⟩) R s := by
  refine codeAny_call_builtin plain entry ?_
  have hfin := g prog w A R s h
  simp only [checkBuiltinCall, kind]
  cases hsig : Manifest.signature? id with
  | none => exact wpAny_pure hfin
  | some sig =>
    simp only [argsOk, hsig] at ok
    have h2 : Bind.checkArgs id sig ⟨args, []⟩ = pure () := ok
    show wpAny _ _ (Bind.checkArgs id sig ⟨args, []⟩) _ _ s
    rw [h2]; exact wpAny_pure hfin

theorem kind_isub : builtinKind "issubclass.nested" = none := by decide +kernel
theorem plain_isub : plainId "issubclass.nested" = true := by decide +kernel
theorem args_isub (a b c : Value) : argsOk "issubclass.nested" ⟨[a, b, c], []⟩ := by unfold argsOk; kernel_rfl
theorem isub_self (dep : Int) (tk : Tok) : Meets (Builtin.«issubclass.nested» ⟨[.type "str", .type "str", .int dep tk], []⟩) (fun _ R s => R (.ok (.ret (.bool true))) s) := by
  intro prog w A R s hs
  have e2 : isSubtype (.type "str") (.type "str") = pure true := by rw [isSubtype_type]; kernel_rfl
  repeat (any_goals (first | assumption | wp_step))

theorem issub_str {prog : Program} {w : World} {A : Around} {E Q : Value → Shared → Prop} {s : Shared} {D : Addr}
    (ho : s.heap.get? D = some { cls := .type "tuple", data := .seq #[.type "str", .type "bytes"] }) (h : Q (.bool true) s) :
    wpAny (model prog w) A (call (.builtin "issubclass") [.type "str", .ref D]) Q E s := by
  refine call_issubclass (S := fun _ R s => s.heap.get? D = some { cls := .type "tuple", data := .seq #[.type "str", .type "bytes"] } ∧ R (.ok (.ret (.bool true))) s) ?_ ⟨ho, h⟩
  intro prog w A R s hs
  obtain ⟨ho, h⟩ := hs
  refine issubclass_outer ?_
  unfold Builtin.«issubclass.nested»
  have e1 : isSubtype (.type "tuple") (.type "tuple") = pure true := by rw [isSubtype_type]; kernel_rfl
  repeat (any_goals (first | assumption | wp_step))
  refine code_function_meets kind_isub plain_isub F.entry_issubclass_nested (args_isub _ _ _) (isub_self _ _) ?_
  dsimp only
  repeat (any_goals (first | assumption | wp_step))
end
section
noncomputable abbrev Kp (h h' : Heap) : Prop := ∀ b o, h.get? b = some o → h'.get? b = some o
local macro_rules | `(tactic| walk_at "call builtin:issubclass") => `(tactic| (k_here; with_unfolding_all refine' issub_str (by exact News.get (by k_asm) (by k_mem)) ?_))
local macro_rules | `(tactic| walk_at "mine enter") => `(tactic| (k_dflt (refine' enter (by k_asm) (by k_asm) (by k_is) (by k_is) (by (dsimp only; omega)) (by exact BindsTo.of_eq rfl) (by exact locs rfl) ?_ (by exact rfl) (by exact rfl) (by exact rfl) (by decide); k_whole); intro L' h' F' N'; (try dsimp only); (try k_fold)))

section
variable {w : World} {mean : ExcName → Option Value} {mg mb : Str → Option Value} {dp un : Nat} {fr : Option (List Env)} {gd : Option (List Code)} {s : Shared} {Q E : Value → Shared → Prop}
    (X : (Mine.hd.heap_39 w.params).In s.heap) (T : Top Mine.hd.view_39 (looseW Mine.hd.view_39 [Str.ofString "IPV4_RE"]) mean mg mb s.heap)
include X T
theorem fspath_ok (hdp : dp + 2 < recursionLimit) (x : Str) (t : Tok) (ret : ∀ h' tk', Kp s.heap h' → Q (.str x t) { s with heap := h', toks := tk' }) :
    wpAny (model PySem.Challenge.rw_pd0169_01.row.prog w) (Ar dp un fr gd) (call (.ref 130) [.str x t]) Q E s := by
  w_on
  (revert X; k_fill; intro X)
  walk_at "mine enter"
  k_steps
  all_goals exact ret _ _ (Fr.keep (by assumption))

theorem getsep_ok (hdp : dp + 2 < recursionLimit) (x : Str) (t : Tok) (ret : ∀ t' h' tk', Kp s.heap h' → Q (.str "/" t') { s with heap := h', toks := tk' }) :
    wpAny (model PySem.Challenge.rw_pd0169_01.row.prog w) (Ar dp un fr gd) (call (.ref 144) [.str x t]) Q E s := by
  w_on
  walk_at "mine enter"
  k_steps
  all_goals exact ret _ _ _ (Fr.keep (by assumption))
end
end
section
theorem at_list {h₀ h : Heap} {L l : Addr} {news : List (Addr × Obj)} {its : Array Value} {n : Nat} (N : News h₀ L h news) (hm : (l, listOf its n) ∈ news) : h.IsList l its := ⟨_, (N _ hm).1, rfl, _, rfl⟩
theorem pick_from (vs : List Value) (k : Nat) : kms_pick vs (some (k : Int)) none = vs.drop k := by
  unfold kms_pick kms_lo kms_hi
  have h : ¬ ((k : Int) < 0) := by omega
  simp only [h, if_false, Int.toNat_natCast]
  rcases Nat.le_total k vs.length with q | q
  · rw [Nat.min_eq_left q, List.take_of_length_le (by simp)]
  · rw [Nat.min_eq_right q]; simp [List.drop_of_length_le q]
theorem pick_to (vs : List Value) (k : Nat) : kms_pick vs none (some (k : Int)) = vs.take k := by
  unfold kms_pick kms_lo kms_hi
  have h : ¬ ((k : Int) < 0) := by omega
  simp only [h, if_false, Int.toNat_natCast, List.drop_zero, Nat.sub_zero]
  rcases Nat.le_total k vs.length with q | q
  · rw [Nat.min_eq_left q]
  · rw [Nat.min_eq_right q, List.take_of_length_le (Nat.le_refl _), List.take_of_length_le q]
theorem strsAre_len {vs : List Value} {xs : List Str} (h : StrsAre vs xs) : vs.length = xs.length := by
  induction h with
  | nil => rfl
  | cons _ _ _ ih => simp [ih]
theorem strsAre_drop {vs : List Value} {xs : List Str} (h : StrsAre vs xs) : ∀ k, StrsAre (vs.drop k) (xs.drop k) := by
  induction h with
  | nil => intro k; simpa using StrsAre.nil
  | cons y t h ih =>
    intro k
    cases k with
    | zero => exact .cons y t h
    | succ k => simpa using ih k
theorem strsAre_take {vs : List Value} {xs : List Str} (h : StrsAre vs xs) : ∀ k, StrsAre (vs.take k) (xs.take k) := by
  induction h with
  | nil => intro k; simpa using StrsAre.nil
  | cons y t h ih =>
    intro k
    cases k with
    | zero => simpa using StrsAre.nil
    | succ k => simpa using StrsAre.cons y t (ih k)
theorem strsAre_append {vs ws : List Value} {xs ys : List Str} (h : StrsAre vs xs) (k : StrsAre ws ys) : StrsAre (vs ++ ws) (xs ++ ys) := by
  induction h with
  | nil => exact k
  | cons y t h ih => exact .cons y t ih
theorem strsAre_reverse {vs : List Value} {xs : List Str} (h : StrsAre vs xs) : StrsAre vs.reverse xs.reverse := by
  induction h with
  | nil => exact .nil
  | cons y t h ih => simpa using strsAre_append ih (.cons y t .nil)
theorem strsAre_get {vs : List Value} {xs : List Str} (h : StrsAre vs xs) : ∀ (i : Nat) (v : Value), vs[i]? = some v → ∃ y t, v = .str y t ∧ xs[i]? = some y := by
  induction h with
  | nil => intro i v e; simp at e
  | cons y t h ih =>
    intro i v e
    cases i with
    | zero => simp at e; exact ⟨y, t, e.symm, rfl⟩
    | succ i => simpa using ih i v (by simpa using e)
theorem strsAre_get' {vs : List Value} {xs : List Str} (h : StrsAre vs xs) : ∀ (i : Nat) (y : Str), xs[i]? = some y → ∃ t, vs[i]? = some (.str y t) := by
  induction h with
  | nil => intro i v e; simp at e
  | cons y t h ih =>
    intro i v e
    cases i with
    | zero => simp at e; subst e; exact ⟨t, rfl⟩
    | succ i => simpa using ih i v (by simpa using e)
section
variable {prog : Program} {w : World} {A : Around} {E : Value → Shared → Prop} {s : Shared} {h₀ : Heap} {L l : Addr} {m : Str → Option Value} {news : List (Addr × Obj)} {x y : Str} {t u : Tok} {Q : Value → Shared → Prop}
/-- a text split: a list of texts -/
theorem split_t (hF : Fr h₀ L s.heap m) (hN : News h₀ L s.heap news) (hy : (y.length == 0) = false)
    (h : ∀ D vs h' k, StrsAre vs (Txt.split x y) → Fr h₀ L h' m → News h₀ L h' ((D, listOf (List.toArray vs) 0) :: news) → (∀ p ∈ news, p.1 < D) → Q (.ref D) { s with heap := h', toks := k }) (hsz : x.length + 2 ≤ sizeLine) :
    wpAny (model prog w) A (call (.builtin "str.split") [.str x t, .str y u]) Q E s :=
  KSpl.split1 hF hN hy (fun D l h' k e a F N l1 => h D (strValues l) h' k (e ▸ a) F N l1) hsz
/-- a list turned round -/
theorem rev_t {value slice : PySem.Expr} {vs : List Value} {xs : List Str} {n : Nat} {vk : Value} {ops : List Value} (F : Fr h₀ L s.heap m) (N : News h₀ L s.heap news) (hm : (l, listOf (List.toArray vs) n) ∈ news) (hv : StrsAre vs xs) (pk : IsPart vk (some (-1)))
    (h : ∀ D ws h', StrsAre ws xs.reverse → Fr h₀ L h' m → News h₀ L h' ((D, listOf (List.toArray ws) 0) :: news) → (∀ p ∈ news, p.1 < D) → Q (.ref D) { s with heap := h' })
    (hs : subscripted slice false (.ref l) (.ref s.heap.objs.size) = operate ops (getItem (.ref l) (.ref s.heap.objs.size))) (ht : ∀ r, letTemporaryGo value (.ref l) r = pure ()) (hz : xs.length ≤ sizeLine) :
    wpAny (model prog w) A (subscriptTail value slice (.ref l) (.ref s.heap.objs.size)) Q E { s with heap := s.heap.push { cls := .type "slice", data := .fields #[.none, .none, vk] } } :=
  krv_lit (its := vs.toArray) (zs := vs.reverse) F N (at_list N hm) pk rfl (fun D h' F N l1 => h D vs.reverse h' (strsAre_reverse hv) F N l1) hs ht (by rw [List.size_toArray, strsAre_len hv]; exact hz)
/-- a list of texts from a place on -/
theorem from_t {value slice : PySem.Expr} {vs : List Value} {xs : List Str} {n : Nat} {tk : Tok} (k : Nat) (F : Fr h₀ L s.heap m) (N : News h₀ L s.heap news) (hm : (l, listOf (List.toArray vs) n) ∈ news) (hv : StrsAre vs xs)
    (h : ∀ D ws h', StrsAre ws (xs.drop k) → Fr h₀ L h' m → News h₀ L h' ((D, listOf (List.toArray ws) 0) :: news) → (∀ p ∈ news, p.1 < D) → Q (.ref D) { s with heap := h' })
    (hs : subscripted slice false (.ref l) (.ref s.heap.objs.size) = operate [.ref s.heap.objs.size, .ref l] (getItem (.ref l) (.ref s.heap.objs.size))) (ht : ∀ r, letTemporaryGo value (.ref l) r = pure ()) (hz : xs.length ≤ sizeLine) :
    wpAny (model prog w) A (subscriptTail value slice (.ref l) (.ref s.heap.objs.size)) Q E { s with heap := s.heap.push { cls := .type "slice", data := .fields #[.int (k : Int) tk, .none, .none] } } :=
  kms_slice_lit (its := vs.toArray) (zs := vs.drop k) F N (at_list N hm) (.int _ _) .none (pick_from vs k) (fun D h' F N l1 => h D (vs.drop k) h' (strsAre_drop hv k) F N l1) hs ht (by rw [List.size_toArray, strsAre_len hv]; exact hz)
/-- a list of texts up to a place -/
theorem to_t {value slice : PySem.Expr} {vs : List Value} {xs : List Str} {n : Nat} {tk : Tok} (k : Nat) (F : Fr h₀ L s.heap m) (N : News h₀ L s.heap news) (hm : (l, listOf (List.toArray vs) n) ∈ news) (hv : StrsAre vs xs)
    (h : ∀ D ws h', StrsAre ws (xs.take k) → Fr h₀ L h' m → News h₀ L h' ((D, listOf (List.toArray ws) 0) :: news) → (∀ p ∈ news, p.1 < D) → Q (.ref D) { s with heap := h' })
    (hs : subscripted slice false (.ref l) (.ref s.heap.objs.size) = operate [.ref s.heap.objs.size, .ref l] (getItem (.ref l) (.ref s.heap.objs.size))) (ht : ∀ r, letTemporaryGo value (.ref l) r = pure ()) (hz : xs.length ≤ sizeLine) :
    wpAny (model prog w) A (subscriptTail value slice (.ref l) (.ref s.heap.objs.size)) Q E { s with heap := s.heap.push { cls := .type "slice", data := .fields #[.none, .int (k : Int) tk, .none] } } :=
  kms_slice_lit (its := vs.toArray) (zs := vs.take k) F N (at_list N hm) .none (.int _ _) (pick_to vs k) (fun D h' F N l1 => h D (vs.take k) h' (strsAre_take hv k) F N l1) hs ht (by rw [List.size_toArray, strsAre_len hv]; exact hz)
/-- texts joined -/
theorem join_t {vs : List Value} {xs : List Str} {n : Nat} (F : Fr h₀ L s.heap m) (N : News h₀ L s.heap news) (hm : (l, listOf (List.toArray vs) n) ∈ news) (hv : StrsAre vs xs) (hsep : x.length ≤ 16) (hw : (xs.map (·.length)).sum + xs.length ≤ 1048576)
    (h : ∀ t' k, Q (.str (Txt.join x xs) t') { s with toks := k }) : wpAny (model prog w) A (call (.builtin "str.join") [.str x t, .ref l]) Q E s :=
  join_listW (at_list N hm) (by simpa using hv) hsep hw h
end

section
variable {w : World} {mean : ExcName → Option Value} {mg mb : Str → Option Value} {dp un : Nat} {fr : Option (List Env)} {gd : Option (List Code)} {s : Shared} {Q E : Value → Shared → Prop}
  {h₀ : Heap} {L : Addr} {m : Str → Option Value} {news : List (Addr × Obj)}
    (F : Fr h₀ L s.heap m) (N : News h₀ L s.heap news) (X : (Mine.hd.heap_39 w.params).In h₀) (T : Top Mine.hd.view_39 (looseW Mine.hd.view_39 [Str.ofString "IPV4_RE"]) mean mg mb h₀)
include F N X T
theorem fspath_at (hdp : dp + 2 < recursionLimit) {x : Str} {t : Tok} (ret : ∀ h' tk', Fr h₀ L h' m → News h₀ L h' news → Q (.str x t) { s with heap := h', toks := tk' }) :
    wpAny (model PySem.Challenge.rw_pd0169_01.row.prog w) (Ar dp un fr gd) (call (.ref 130) [.str x t]) Q E s :=
  fspath_ok (X.keeps F.keep) (T.keeps F.keep) hdp x t fun h' tk' k => ret h' tk' (fr_keep F k) (news_keep N k)
theorem getsep_at (hdp : dp + 2 < recursionLimit) {x : Str} {t : Tok} (ret : ∀ t' h' tk', Fr h₀ L h' m → News h₀ L h' news → Q (.str "/" t') { s with heap := h', toks := tk' }) :
    wpAny (model PySem.Challenge.rw_pd0169_01.row.prog w) (Ar dp un fr gd) (call (.ref 144) [.str x t]) Q E s :=
  getsep_ok (X.keeps F.keep) (T.keeps F.keep) hdp x t fun t' h' tk' k => ret t' h' tk' (fr_keep F k) (news_keep N k)
end

local macro_rules | `(tactic| walk_at "call builtin:issubclass") => `(tactic| (k_here; with_unfolding_all refine' issub_str (by exact News.get (by k_asm) (by k_mem)) ?_))
local macro_rules | `(tactic| walk_at "call builtin:str.split") => `(tactic| (k_here; k_dflt (refine' split_t (by k_asm) (by k_asm) (by decide) ?_ (by (rw [sizeLine_eq]; omega)); k_whole); intro D' vs' h' k' a' F' N' l1; (try dsimp only)))
local macro_rules | `(tactic| walk_at "subscriptTail Name Slice ref ref") => `(tactic| (k_here; (with_reducible show wpAny _ _ (subscriptTail _ (Expr.Slice none none (some _) _) _ _) _ _ _); k_dflt (refine' rev_t (by k_asm) (by k_asm) (by k_mem) (by k_asm) (by exact .int _ _) ?_ (by with_unfolding_all rfl) (by intro _; with_unfolding_all rfl) (by (rw [sizeLine_eq]; (try simp only [List.length_drop, List.length_reverse]); omega)); k_whole); intro D' ws' h' a' F' N' l1; (try dsimp only)))
local macro_rules | `(tactic| walk_at "subscriptTail Name Slice ref ref") => `(tactic| (k_here; (with_reducible show wpAny _ _ (subscriptTail _ (Expr.Slice (some _) none none _) _ _) _ _ _); k_dflt (refine' from_t 1 (by k_asm) (by k_asm) (by k_mem) (by k_asm) ?_ (by with_unfolding_all rfl) (by intro _; with_unfolding_all rfl) (by (rw [sizeLine_eq]; (try simp only [List.length_drop, List.length_reverse]); omega)); k_whole); intro D' ws' h' a' F' N' l1; (try dsimp only)))
local macro_rules | `(tactic| walk_at "call builtin:str.join") => `(tactic| (k_here; k_dflt (refine' join_t (by k_asm) (by k_asm) (by k_mem) (by k_asm) (by decide) (by first | assumption | omega) ?_; k_whole); intro t' k'; (try dsimp only)))

local macro_rules | `(tactic| walk_at "call ref") => `(tactic| (k_here; (with_reducible show wpAny _ _ (call (Value.ref 130) _) _ _ _); k_dflt (refine' fspath_at (by k_asm) (by k_asm) (by k_asm) (by k_asm) (by (dsimp only [Ar, Around.deeper, Around.in1]; omega)) ?_; k_whole); intro h' tk' F' N'; (try dsimp only); (try k_sweep)))
local macro_rules | `(tactic| walk_at "call ref") => `(tactic| (k_here; (with_reducible show wpAny _ _ (call (Value.ref 144) _) _ _ _); k_dflt (refine' getsep_at (by k_asm) (by k_asm) (by k_asm) (by k_asm) (by (dsimp only [Ar, Around.deeper, Around.in1]; omega)) ?_; k_whole); intro t' h' tk' F' N'; (try dsimp only); (try k_sweep)))

noncomputable def zoneF (x : Str) : Str := Str.ofString "." ++ Txt.join (Str.ofString ".") ((Txt.split x (Str.ofString "/")).drop 1).reverse
noncomputable def dirF (x : Str) : Str :=
  if ((Txt.slice x none (some (Txt.rfind x (Str.ofString "/") + 1))).length : Int) = 0 then Txt.slice x none (some (Txt.rfind x (Str.ofString "/") + 1))
  else if (Txt.slice x none (some (Txt.rfind x (Str.ofString "/") + 1)) != Txt.mul (Str.ofString "/") ((Txt.slice x none (some (Txt.rfind x (Str.ofString "/") + 1))).length : Int)) = true then Txt.rstripChars (Txt.slice x none (some (Txt.rfind x (Str.ofString "/") + 1))) (Str.ofString "/")
  else Txt.slice x none (some (Txt.rfind x (Str.ofString "/") + 1))
theorem dirF_1 {x : Str} (h1 : ((Txt.slice x none (some (Txt.rfind x (Str.ofString "/") + 1))).length : Int) = 0) : dirF x = Txt.slice x none (some (Txt.rfind x (Str.ofString "/") + 1)) := by
  unfold dirF; rw [if_pos h1]
theorem dirF_2 {x : Str} (h1 : ((Txt.slice x none (some (Txt.rfind x (Str.ofString "/") + 1))).length : Int) ≠ 0)
    (h2 : (Txt.slice x none (some (Txt.rfind x (Str.ofString "/") + 1)) != Txt.mul (Str.ofString "/") ((Txt.slice x none (some (Txt.rfind x (Str.ofString "/") + 1))).length : Int)) = true) : dirF x = Txt.rstripChars (Txt.slice x none (some (Txt.rfind x (Str.ofString "/") + 1))) (Str.ofString "/") := by
  unfold dirF; rw [if_neg h1, if_pos h2]
theorem dirF_3 {x : Str} (h1 : ((Txt.slice x none (some (Txt.rfind x (Str.ofString "/") + 1))).length : Int) ≠ 0)
    (h2 : (Txt.slice x none (some (Txt.rfind x (Str.ofString "/") + 1)) != Txt.mul (Str.ofString "/") ((Txt.slice x none (some (Txt.rfind x (Str.ofString "/") + 1))).length : Int)) = false) : dirF x = Txt.slice x none (some (Txt.rfind x (Str.ofString "/") + 1)) := by
  unfold dirF; rw [if_neg h1, if_neg (by rw [h2]; exact Bool.false_ne_true)]
theorem ret_str {Q : Value → Shared → Prop} {s : Shared} {V W : Str} {t : Tok} (e : W = V) (h : Q (.str W t) s) : Q (.str V t) s := e ▸ h
theorem ret_bool {Q : Value → Shared → Prop} {s : Shared} {V W : Bool} (e : W = V) (h : Q (.bool W) s) : Q (.bool V) s := e ▸ h
section
variable {w : World} {mean : ExcName → Option Value} {mg mb : Str → Option Value} {dp un : Nat} {fr : Option (List Env)} {gd : Option (List Code)} {s : Shared} {Q E : Value → Shared → Prop}
    (X : (Mine.hd.heap_39 w.params).In s.heap) (T : Top Mine.hd.view_39 (looseW Mine.hd.view_39 [Str.ofString "IPV4_RE"]) mean mg mb s.heap)
include X T
theorem zone_ok (hdp : dp + 4 < recursionLimit) (x : Str) (t : Tok) (hx : x.length ≤ 1000) (hw : (((Txt.split x (Str.ofString "/")).drop 1).reverse.map (·.length)).sum + ((Txt.split x (Str.ofString "/")).drop 1).reverse.length ≤ 1000) (hl : (Txt.split x (Str.ofString "/")).length ≤ 1000) (hz : (Txt.join (Str.ofString ".") ((Txt.split x (Str.ofString "/")).drop 1).reverse).length ≤ 1000)
    (ret : ∀ t' h' tk', Kp s.heap h' → Q (.str (zoneF x) t') { s with heap := h', toks := tk' }) :
    wpAny (model PySem.Challenge.rw_pd0169_01.row.prog w) (Ar dp un fr gd) (call (.ref 184) [.str x t]) Q E s := by
  w_on
  (revert X; k_fill; intro X)
  k_dflt (refine' enter (binds := [(Str.ofString "path", .str x t)]) ?k1 ?k2 ?k3 ?k4 ?k5 ?k6 ?k7 ?_ ?c2 ?c3 ?c4 ?c5; (case k1 => k_asm); (case k2 => k_asm); (case k3 => k_is); (case k4 => k_is); (case k5 => (dsimp only [Ar, Around.deeper, Around.in1]; omega)); (case k6 => exact BindsTo.of_eq rfl); (case k7 => exact locs rfl); (case c2 => exact rfl); (case c3 => exact rfl); (case c4 => exact rfl); (case c5 => decide); k_whole)
  intro L' h' F' N'
  (try dsimp only)
  (try k_fold)
  k_steps
  all_goals exact ret _ _ _ (Fr.keep (by assumption))

theorem dirname_ok (hdp : dp + 4 < recursionLimit) (x : Str) (t : Tok) (hx : x.length ≤ 1000) (ret : ∀ t' h' tk', Kp s.heap h' → Q (.str (dirF x) t') { s with heap := h', toks := tk' }) :
    wpAny (model PySem.Challenge.rw_pd0169_01.row.prog w) (Ar dp un fr gd) (call (.ref 158) [.str x t]) Q E s := by
  w_on
  (revert X; k_fill; intro X)
  k_dflt (refine' enter (binds := [(Str.ofString "p", .str x t)]) ?k1 ?k2 ?k3 ?k4 ?k5 ?k6 ?k7 ?_ ?c2 ?c3 ?c4 ?c5; (case k1 => k_asm); (case k2 => k_asm); (case k3 => k_is); (case k4 => k_is); (case k5 => (dsimp only [Ar, Around.deeper, Around.in1]; omega)); (case k6 => exact BindsTo.of_eq rfl); (case k7 => exact locs rfl); (case c2 => exact rfl); (case c3 => exact rfl); (case c4 => exact rfl); (case c5 => decide); k_whole)
  intro L' h' F' N'
  (try dsimp only)
  (try k_fold)
  k_steps
  all_goals first
    | (have e := dirF_2 (x := x) (by assumption) (by assumption); rw [e] at ret; exact ret _ _ _ (Fr.keep (by assumption)))
    | (have e := dirF_3 (x := x) (by assumption) (by assumption); rw [e] at ret; exact ret _ _ _ (Fr.keep (by assumption)))
    | (have e := dirF_1 (x := x) (by assumption); rw [e] at ret; exact ret _ _ _ (Fr.keep (by assumption)))
end
end
section
/-- a tree that only says rules on its way -/
noncomputable def skim {α : Type} : Sem α → Option α
  | .pure a => some a
  | .rule _ k => skim (k ())
  | _ => none
theorem wpAny_skim {α : Type} {M : Model} {A : Around} {Q : α → Shared → Prop} {E : Value → Shared → Prop} {s : Shared} {r : α} (q : Q r s) : ∀ t : Sem α, skim t = some r → wpAny M A t Q E s := by
  intro t
  induction t with
  | pure b => intro e; cases e; exact wpAny_pure q
  | rule tag k ih => intro e; exact fun Γ p hΓ => ih () e Γ p hΓ
  | _ => intro e; cases e

theorem plainAttrs_pat : PlainAttrs "re.Pattern" :=
  ⟨⟨"object.__getattribute__", by rw [typeLookup_type, builtinLookup_eq_fast]; kernel_rfl, by decide +kernel⟩, by rw [typeLookup_type, builtinLookup_eq_fast]; kernel_rfl⟩
theorem slot_search : Slot "re.Pattern" "search" "re.Pattern.search" :=
  .of (owner := "re.Pattern") (n := "search") (by rw [typeLookup_type, builtinLookup_eq_fast]; kernel_rfl) (by decide +kernel) (by decide +kernel) (by decide +kernel)
    (by first | exact .inl (by decide +kernel) | exact .inr (by decide +kernel)) (by rw [isSubtype_type]; kernel_rfl)
theorem entry_search : entryFor table "re.Pattern.search" = some Builtin.«re.Pattern.search» := entryFor_of_tree (by kernel_rfl)
theorem args_search (a b : Value) : argsOk "re.Pattern.search" ⟨[a, b], []⟩ := by unfold argsOk; kernel_rfl
theorem type_search : typeOf (.builtin "re.Pattern.search") = pure (.type "method_descriptor") := by kernel_rfl

noncomputable def reCode : Array Nat := #[14, 8, 1, 2, 4294967295, 1, 1, 46, 0, 16, 46, 24, 9, 1, 4294967295, 13, 4, 8, 0, 0, 1, 6, 5, 1]
/-- the search's own run over a text -/
noncomputable def reRun (x : Str) : Option (Option Sre.M) := skim (Builtin.Re.reRunToEnd (Sre.forSearch reCode x.cps 0 0 x.cps.size false))
noncomputable abbrev codeObj : Obj := { cls := Value.type "tuple", data := Data.seq #[Value.int 14 0, Value.int 8 0, Value.int 1 0, Value.int 2 0, Value.int 4294967295 0, Value.int 1 0,
              Value.int 1 0, Value.int 46 0, Value.int 0 0, Value.int 16 0, Value.int 46 0, Value.int 24 0,
              Value.int 9 0, Value.int 1 0, Value.int 4294967295 0, Value.int 13 0, Value.int 4 0, Value.int 8 0,
              Value.int 0 0, Value.int 0 0, Value.int 1 0, Value.int 6 0, Value.int 5 0, Value.int 1 0] }
noncomputable abbrev patObj : Obj := { cls := Value.type "re.Pattern", data := Data.fields #[Value.str (Str.ofString "\\.\\d+$") 292, Value.int 256 319, Value.int 0 0, Value.none, Value.none, Value.ref 42, Value.int 0 0] }
noncomputable def tgt (x : Str) (t : Tok) : Builtin.Re.ReTarget := { pattern := .ref 43, string := .str x t, code := reCode, text := x.cps, kind := 0, groups := 0, pos := 0, lim := x.cps.size }
theorem target_t {M : Model} {A : Around} {E : Value → Shared → Prop} {s : Shared} {x : Str} {t : Tok} {Q : Builtin.Re.ReTarget → Shared → Prop} (h43 : s.heap.get? 43 = some patObj) (h42 : s.heap.get? 42 = some codeObj) (hx : x.length < 1000) (h : Q (tgt x t) s) :
    wpAny M A (Builtin.Re.reTarget "re.Pattern.search" "search" ⟨[.ref 43, .str x t], []⟩) Q E s := by
  unfold Builtin.Re.reTarget
  unfold patObj at h43
  unfold codeObj at h42
  repeat (any_goals (first | assumption | wp_step))
  refine cast (congrArg (fun r => Q r s) ?_) h
  have e : min ((2 ^ 63 - 1 : Int).toNat) x.cps.size = x.cps.size := by
    have : x.cps.size < 1000 := hx
    have e2 : (2 ^ 63 - 1 : Int).toNat = 9223372036854775807 := by decide
    rw [e2]; omega
  show tgt x t = { pattern := .ref 43, string := .str x t, code := _, text := x.cps, kind := 0, groups := _, pos := min (0 : Int).toNat x.cps.size, lim := min ((2 ^ 63 - 1 : Int).toNat) x.cps.size }
  rw [e]
  show tgt x t = { pattern := .ref 43, string := .str x t, code := _, text := x.cps, kind := 0, groups := _, pos := min 0 x.cps.size, lim := x.cps.size }
  rw [Nat.zero_min]
  unfold tgt
  congr 1
  decide +kernel
theorem fresh_get {h : Heap} {a : Addr} (ha : h.objs.size ≤ a) : h.get? a = none := by
  cases e : h.get? a with
  | none => rfl
  | some o => exact absurd (Heap.lt_size e) (Nat.not_lt.mpr ha)
theorem search_none {x : Str} {t : Tok} (hr : reRun x = some none) (hx : x.length < 1000) :
    Meets (Builtin.«re.Pattern.search» ⟨[.ref 43, .str x t], []⟩) (fun _ R s => s.heap.get? 43 = some patObj ∧ s.heap.get? 42 = some codeObj ∧ R (.ok (.ret .none)) s) := by
  intro prog w A R s hs
  obtain ⟨h43, h42, hR⟩ := hs
  unfold Builtin.«re.Pattern.search»
  refine wpAny_bind (target_t h43 h42 hx ?_)
  unfold Builtin.Re.reAnswer
  refine wpAny_bind (wpAny_skim ?_ _ hr)
  exact wpAny_pure hR
theorem search_some {x : Str} {t : Tok} {m : Sre.M} (hr : reRun x = some (some m)) (hx : x.length < 1000) :
    Meets (Builtin.«re.Pattern.search» ⟨[.ref 43, .str x t], []⟩) (fun _ R s => s.heap.get? 43 = some patObj ∧ s.heap.get? 42 = some codeObj ∧
      ∀ D h' vs, (∀ b o, s.heap.get? b = some o → h'.get? b = some o) → s.heap.get? D = none → h'.get? D = some { cls := .type "re.Match", data := .fields vs } → R (.ok (.ret (.ref D))) { s with heap := h' }) := by
  intro prog w A R s hs
  obtain ⟨h43, h42, hR⟩ := hs
  unfold Builtin.«re.Pattern.search»
  refine wpAny_bind (target_t h43 h42 hx ?_)
  unfold Builtin.Re.reAnswer
  refine wpAny_bind (wpAny_skim ?_ _ hr)
  refine wpAny_bind ?_
  unfold Builtin.Re.reNewMatch
  repeat (any_goals (first | assumption | wp_step))
  exact hR _ _ _ (fun b o e => Heap.get?_push_of_some _ (Heap.get?_push_of_some _ e)) (fresh_get (by rw [Heap.size_push]; exact Nat.le_succ _)) (Heap.get?_push_size _ rfl)
/-- a match is true -/
theorem truthy_match {M : Model} {A : Around} {E : Value → Shared → Prop} {s : Shared} {D : Addr} {vs : Array Value} {Q : Bool → Shared → Prop} (hD : s.heap.get? D = some { cls := .type "re.Match", data := .fields vs }) (h : Q true s) : wpAny M A (truthy (.ref D)) Q E s := by
  have hT : s.TypeIs (.ref D) "re.Match" := ⟨_, hD, rfl⟩
  have e1 : typeLookup (.type "re.Match") "__bool__" = pure none := by rw [typeLookup_type, builtinLookup_eq_fast]; kernel_rfl
  have e2 : typeLookup (.type "re.Match") "__len__" = pure none := by rw [typeLookup_type, builtinLookup_eq_fast]; kernel_rfl
  unfold truthy
  repeat (any_goals (first | assumption | wp_step))
end
section
theorem pat_of {w : World} {h : Heap} (X : (Mine.hd.heap_39 w.params).In h) : h.get? 43 = some patObj := X 43 patObj rfl
theorem code_of {w : World} {h : Heap} (X : (Mine.hd.heap_39 w.params).In h) : h.get? 42 = some codeObj := X 42 codeObj rfl
section
variable {prog : Program} {w : World} {A : Around} {E : Value → Shared → Prop} {s : Shared} {h₀ : Heap} {L l : Addr} {m : Str → Option Value} {news : List (Addr × Obj)} {x y : Str} {t u : Tok} {Q : Value → Shared → Prop}
theorem getMethod_pat {pl : Sem Bool} {Q : Value × List Value → Shared → Prop} (F : Fr h₀ L s.heap m) (X : (Mine.hd.heap_39 w.params).In h₀) (h : Q (.builtin "re.Pattern.search", [.ref 43]) s) : wpAny (model prog w) A (getMethod (.ref 43) (Str.ofString "search") pl) Q E s :=
  getMethod_builtin ⟨_, F.keep _ _ (pat_of X), rfl⟩ plainAttrs_pat slot_search type_search (fun a e => by cases e; exact ⟨_, F.keep _ _ (pat_of X), rfl⟩) h
theorem search_none_at (F : Fr h₀ L s.heap m) (X : (Mine.hd.heap_39 w.params).In h₀) (hr : reRun x = some none) (hx : x.length < 1000) (h : Q .none s) :
    wpAny (model prog w) A (call (.builtin "re.Pattern.search") [.ref 43, .str x t]) Q E s :=
  call_meets slot_search ⟨_, F.keep _ _ (pat_of X), rfl⟩ entry_search (args_search _ _) (search_none hr hx) ⟨F.keep _ _ (pat_of X), F.keep _ _ (code_of X), h⟩
theorem search_some_at {r : Sre.M} (F : Fr h₀ L s.heap m) (N : News h₀ L s.heap news) (X : (Mine.hd.heap_39 w.params).In h₀) (hr : reRun x = some (some r)) (hx : x.length < 1000)
    (h : ∀ D h' vs, Fr h₀ L h' m → News h₀ L h' ((D, { cls := .type "re.Match", data := .fields vs }) :: news) → Q (.ref D) { s with heap := h' }) :
    wpAny (model prog w) A (call (.builtin "re.Pattern.search") [.ref 43, .str x t]) Q E s :=
  call_meets slot_search ⟨_, F.keep _ _ (pat_of X), rfl⟩ entry_search (args_search _ _) (search_some hr hx) ⟨F.keep _ _ (pat_of X), F.keep _ _ (code_of X), fun D h' vs k hn ho => h D h' vs (fr_keep F k) (news_new F N k hn ho)⟩
end
noncomputable def hitF (x : Str) : Bool := match reRun x with | some (some _) => true | _ => false



local macro_rules | `(tactic| walk_at "getMethod ref") => `(tactic| (k_here; (with_reducible show wpAny _ _ (getMethod (Value.ref 43) _ _) _ _ _); k_dflt (refine' getMethod_pat (by k_asm) (by k_asm) ?_; k_whole); (try dsimp only)))
local macro_rules | `(tactic| walk_at "call builtin:re.Pattern.search") => `(tactic| (k_here; k_dflt (refine' search_none_at (by k_asm) (by k_asm) (by k_asm) (by omega) ?_; k_whole)))
local macro_rules | `(tactic| walk_at "call builtin:re.Pattern.search") => `(tactic| (k_here; k_dflt (refine' search_some_at (by k_asm) (by k_asm) (by k_asm) (by k_asm) (by omega) ?_; k_whole); intro D' h' vs' F' N'; (try dsimp only)))
local macro_rules | `(tactic| walk_at "truthy ref") => `(tactic| (k_here; k_dflt (refine' truthy_match (by exact News.get (by k_asm) (by k_mem)) ?_; k_whole)))
section
variable {w : World} {mean : ExcName → Option Value} {mg mb : Str → Option Value} {dp un : Nat} {fr : Option (List Env)} {gd : Option (List Code)} {s : Shared} {Q E : Value → Shared → Prop}
    (X : (Mine.hd.heap_39 w.params).In s.heap) (T : Top Mine.hd.view_39 (looseW Mine.hd.view_39 [Str.ofString "IPV4_RE"]) mean mg mb s.heap)
include X T
theorem hdn_ok (hdp : dp + 2 < recursionLimit) (x : Str) (t : Tok) (hx : x.length < 1000) (hr : (reRun x).isSome = true) (ret : ∀ h' tk', Kp s.heap h' → Q (.bool (!hitF x)) { s with heap := h', toks := tk' }) :
    wpAny (model PySem.Challenge.rw_pd0169_01.row.prog w) (Ar dp un fr gd) (call (.ref 50) [.str x t]) Q E s := by
  w_on
  (revert X; k_fill; intro X)
  obtain ⟨r, hr⟩ := Option.isSome_iff_exists.mp hr
  cases r with
  | none =>
    have e : hitF x = false := by unfold hitF; rw [hr]
    rw [e] at ret
    k_dflt (refine' enter (binds := [(Str.ofString "text", .str x t)]) ?k1 ?k2 ?k3 ?k4 ?k5 ?k6 ?k7 ?_ ?c2 ?c3 ?c4 ?c5; (case k1 => k_asm); (case k2 => k_asm); (case k3 => k_is); (case k4 => k_is); (case k5 => (dsimp only [Ar, Around.deeper, Around.in1]; omega)); (case k6 => exact BindsTo.of_eq rfl); (case k7 => exact locs rfl); (case c2 => exact rfl); (case c3 => exact rfl); (case c4 => exact rfl); (case c5 => decide); k_whole)
    intro L' h' F' N'
    (try dsimp only)
    (try k_fold)
    k_steps
    all_goals exact ret _ _ (Fr.keep (by assumption))
  | some r =>
    have e : hitF x = true := by unfold hitF; rw [hr]
    rw [e] at ret
    k_dflt (refine' enter (binds := [(Str.ofString "text", .str x t)]) ?k1 ?k2 ?k3 ?k4 ?k5 ?k6 ?k7 ?_ ?c2 ?c3 ?c4 ?c5; (case k1 => k_asm); (case k2 => k_asm); (case k3 => k_is); (case k4 => k_is); (case k5 => (dsimp only [Ar, Around.deeper, Around.in1]; omega)); (case k6 => exact BindsTo.of_eq rfl); (case k7 => exact locs rfl); (case c2 => exact rfl); (case c3 => exact rfl); (case c4 => exact rfl); (case c5 => decide); k_whole)
    intro L' h' F' N'
    (try dsimp only)
    (try k_fold)
    k_steps
    all_goals exact ret _ _ (Fr.keep (by assumption))
end

section
variable {w : World} {mean : ExcName → Option Value} {mg mb : Str → Option Value} {dp un : Nat} {fr : Option (List Env)} {gd : Option (List Code)} {s : Shared} {Q E : Value → Shared → Prop}
  {h₀ : Heap} {L : Addr} {m : Str → Option Value} {news : List (Addr × Obj)}
    (F : Fr h₀ L s.heap m) (N : News h₀ L s.heap news) (X : (Mine.hd.heap_39 w.params).In h₀) (T : Top Mine.hd.view_39 (looseW Mine.hd.view_39 [Str.ofString "IPV4_RE"]) mean mg mb h₀)
include F N X T
theorem hdn_at (hdp : dp + 2 < recursionLimit) {x : Str} {t : Tok} (hx : x.length < 1000) (hr : (reRun x).isSome = true) (ret : ∀ h' tk', Fr h₀ L h' m → News h₀ L h' news → Q (.bool (!hitF x)) { s with heap := h', toks := tk' }) :
    wpAny (model PySem.Challenge.rw_pd0169_01.row.prog w) (Ar dp un fr gd) (call (.ref 50) [.str x t]) Q E s :=
  hdn_ok (X.keeps F.keep) (T.keeps F.keep) hdp x t hx hr fun h' tk' k => ret h' tk' (fr_keep F k) (news_keep N k)
end
local macro_rules | `(tactic| walk_at "call ref") => `(tactic| (k_here; (with_reducible show wpAny _ _ (call (Value.ref 50) _) _ _ _); k_dflt (refine' hdn_at (by k_asm) (by k_asm) (by k_asm) (by k_asm) (by (dsimp only [Ar, Around.deeper, Around.in1]; omega)) (by omega) (by k_asm) ?_; k_whole); intro h' tk' F' N'; (try dsimp only); (try k_sweep)))

noncomputable def udmF (x y : Str) : Bool :=
  if hitF (Txt.lower x) = true then Txt.lower x == Txt.lower y else if hitF (Txt.lower y) = true then Txt.lower x == Txt.lower y
  else if Txt.startswith (Txt.lower y) (Str.ofString ".") = true then Txt.endswith (Txt.lower x) (Txt.lower y) else Txt.lower x == Txt.lower y
theorem udm_1 {x y : Str} (h : hitF (Txt.lower x) = true) : udmF x y = (Txt.lower x == Txt.lower y) := by unfold udmF; rw [if_pos h]
theorem udm_2 {x y : Str} (h : hitF (Txt.lower x) = false) (h2 : hitF (Txt.lower y) = true) : udmF x y = (Txt.lower x == Txt.lower y) := by
  unfold udmF; rw [if_neg (by rw [h]; exact Bool.false_ne_true), if_pos h2]
theorem udm_3 {x y : Str} (h : hitF (Txt.lower x) = false) (h2 : hitF (Txt.lower y) = false) (h3 : Txt.startswith (Txt.lower y) (Str.ofString ".") = true) : udmF x y = Txt.endswith (Txt.lower x) (Txt.lower y) := by
  unfold udmF; rw [if_neg (by rw [h]; exact Bool.false_ne_true), if_neg (by rw [h2]; exact Bool.false_ne_true), if_pos h3]
theorem udm_4 {x y : Str} (h : hitF (Txt.lower x) = false) (h2 : hitF (Txt.lower y) = false) (h3 : Txt.startswith (Txt.lower y) (Str.ofString ".") = false) : udmF x y = (Txt.lower x == Txt.lower y) := by
  unfold udmF; rw [if_neg (by rw [h]; exact Bool.false_ne_true), if_neg (by rw [h2]; exact Bool.false_ne_true), if_neg (by rw [h3]; exact Bool.false_ne_true)]
section
variable {w : World} {mean : ExcName → Option Value} {mg mb : Str → Option Value} {dp un : Nat} {fr : Option (List Env)} {gd : Option (List Code)} {s : Shared} {Q E : Value → Shared → Prop}
    (X : (Mine.hd.heap_39 w.params).In s.heap) (T : Top Mine.hd.view_39 (looseW Mine.hd.view_39 [Str.ofString "IPV4_RE"]) mean mg mb s.heap)
include X T
theorem udm_ok (hdp : dp + 4 < recursionLimit) (x y : Str) (t u : Tok) (hx : x.length < 300) (hy : y.length < 300) (hr1 : (reRun (Txt.lower x)).isSome = true) (hr2 : (reRun (Txt.lower y)).isSome = true) (hl1 : (Txt.lower x).length < 1000) (hl2 : (Txt.lower y).length < 1000) (ret : ∀ h' tk', Kp s.heap h' → Q (.bool (udmF x y)) { s with heap := h', toks := tk' }) :
    wpAny (model PySem.Challenge.rw_pd0169_01.row.prog w) (Ar dp un fr gd) (call (.ref 57) [.str x t, .str y u]) Q E s := by
  w_on
  (revert X; k_fill; intro X)
  k_dflt (refine' enter (binds := [(Str.ofString "A", .str x t), (Str.ofString "B", .str y u)]) ?k1 ?k2 ?k3 ?k4 ?k5 ?k6 ?k7 ?_ ?c2 ?c3 ?c4 ?c5; (case k1 => k_asm); (case k2 => k_asm); (case k3 => k_is); (case k4 => k_is); (case k5 => (dsimp only [Ar, Around.deeper, Around.in1]; omega)); (case k6 => exact BindsTo.of_eq rfl); (case k7 => exact locs rfl); (case c2 => exact rfl); (case c3 => exact rfl); (case c4 => exact rfl); (case c5 => decide); k_whole)
  intro L' h' F' N'
  (try dsimp only)
  (try k_fold)
  k_steps
  all_goals first
    | (have e := (udm_1 (x := x) (y := y) (by assumption)).trans (by assumption); rw [e] at ret; exact ret _ _ (Fr.keep (by assumption)))
    | (have e := (udm_2 (x := x) (y := y) (by assumption) (by assumption)).trans (by assumption); rw [e] at ret; exact ret _ _ (Fr.keep (by assumption)))
    | (have e := (udm_3 (x := x) (y := y) (by assumption) (by assumption) (by assumption)).trans (by assumption); rw [e] at ret; exact ret _ _ (Fr.keep (by assumption)))
    | (have e := (udm_4 (x := x) (y := y) (by assumption) (by assumption) (by assumption)).trans (by assumption); rw [e] at ret; exact ret _ _ (Fr.keep (by assumption)))
end
end
section
/-- the base of a frame whose ledger begins with as -/
noncomputable abbrev hid (h : Heap) (as : List (Addr × Obj)) : Heap := hideAll h (as.map (·.1))
theorem kp_hid {hB h : Heap} {as : List (Addr × Obj)} (k : Kp hB h) (hn : ∀ p ∈ as, hB.get? p.1 = none) : Kp hB (hid h as) := fun b o e => hideAll_get _ (k b o e) fun q => by
  obtain ⟨p, hp, rfl⟩ := List.mem_map.mp q
  rw [hn p hp] at e; cases e
/-- behind the body: all that stood stands -/
theorem kp_out {h h' : Heap} {L : Addr} {m : Str → Option Value} {as news : List (Addr × Obj)} (F : Fr (hid h as) L h' m) (N : News (hid h as) L h' news) (hs : ∀ p ∈ as, p ∈ news) (ha : ∀ p ∈ as, h.get? p.1 = some p.2) : Kp h h' := by
  intro b o e
  by_cases q : b ∈ as.map (·.1)
  · obtain ⟨p, hp, rfl⟩ := List.mem_map.mp q
    rw [ha p hp] at e
    cases e
    exact (N p (hs p hp)).1
  · exact F.keep b o (hideAll_get _ e q)
/-- an object of the ledger that is none of as is new -/
theorem new_out {h h' : Heap} {L : Addr} {as news : List (Addr × Obj)} {l : Addr} {o : Obj} (N : News (hid h as) L h' news) (hm : (l, o) ∈ news) (hl : ∀ p ∈ as, p.1 ≠ l) : h.get? l = none := by
  cases e : h.get? l with
  | none => rfl
  | some o' =>
    have := (N _ hm).2.2
    rw [hideAll_get _ e (fun q => by obtain ⟨p, hp, e⟩ := List.mem_map.mp q; exact hl p hp e)] at this
    cases this

theorem enterL {prog : Program} {w : World} {A : Around} {s : Shared} {K : Frag} {p : Program} {loose : List Str} {mean : ExcName → Option Value} {mg mb : Str → Option Value} {Q E : Value → Shared → Prop}
    {name qual : Str} {params : Arguments} {body : List Stmt} {scope : Scope} {dV kV doc pm cdv ct oc : Value} {an od : Option Addr} {osl : Array (Option Value)} {f : Addr} {vs : List Value} {binds : List (Str × Value)} {hB : Heap} (as : List (Addr × Obj))
    (X : K.In hB) (T : Top p loose mean mg mb hB) (k : Kp hB s.heap) (hn : ∀ p ∈ as, hB.get? p.1 = none) (ha : ∀ p ∈ as, s.heap.get? p.1 = some p.2)
    (ho : K.lookup f = some ⟨oc, od, .func (fnOf name qual params body scope dV kV doc pm an cdv ct), osl⟩) (hcd : codeIn K cdv qual = true) (hroom : A.depth < recursionLimit)
    (hbind : BindsTo s (fnOf name qual params body scope dV kV doc pm an cdv ct) ⟨vs, []⟩ binds) (hloc : ∀ y ∈ binds, scope.names.lookup y.1 = some .local)
    (h : ∀ L' h₁, K.In (hid s.heap as) → Top p loose mean mg mb (hid s.heap as) → Fr (hid s.heap as) L' h₁ (fun y => binds.reverse.lookup y) → News (hid s.heap as) L' h₁ as →
      wpAny (model prog w) (A.deeper (envOf qual scope L' f cdv)) (execs body (envOf qual scope L' f cdv))
        (fun fl s' => Q (match fl with | .ret v => v | _ => .none) s') (fun _ _ => False) { s with heap := h₁, toks := s.toks + binds.length })
    (hco : scope.isCoroutine = false) (hgen : scope.isGenerator = false) (hk : scope.kind = .function) (hcell : ∀ x ∈ scope.names, x.2 ≠ .cell) :
    wpAny (model prog w) A (call (.ref f) vs) Q E s := by
  refine wpAny_call (codeAny_call_def (fd := fnOf name qual params body scope dV kV doc pm an cdv ct) (body := body) (binds := binds) hroom (k _ _ (X _ _ ho)) rfl (T.nolimit.keeps k) (codeRec_of (X.keeps k) hcd) rfl hbind hcell hloc (fun h₁ hns hk₁ => ?_) hco hgen hk)
  have F : Fr (hid s.heap as) s.heap.objs.size h₁ (fun y => binds.reverse.lookup y) := ⟨hns, fun b o e => hk₁ b o (of_hideAll _ e), Nat.le_of_eq (hideAll_size _ _)⟩
  have N : News (hid s.heap as) s.heap.objs.size h₁ as := fun p hp => ⟨hk₁ _ _ (ha p hp), Nat.ne_of_lt (Heap.lt_size (ha p hp)), hideAll_none _ (List.mem_map_of_mem hp)⟩
  exact wpAny_mono (h s.heap.objs.size h₁ (X.keeps (kp_hid k hn)) (T.keeps (kp_hid k hn)) F N) (fun _ _ x => x) fun _ _ x => x.elim

/-- a def's call, told: over any heap that holds the text's own objects, with the objects as laid beside it, the call ends in a value of which R is so, and all that stood stands -/
noncomputable def Does (w : World) (mean : ExcName → Option Value) (mg mb : Str → Option Value) (f : Addr) (vs : List Value) (as : List (Addr × Obj)) (d : Nat) (R : Heap → Value → Heap → Prop) : Prop :=
  ∀ (dp un : Nat) (fr : Option (List Env)) (gd : Option (List Code)) (s : Shared) (hB : Heap) (Q E : Value → Shared → Prop),
    (Mine.hd.heap_39 w.params).In hB → Top Mine.hd.view_39 (looseW Mine.hd.view_39 [Str.ofString "IPV4_RE"]) mean mg mb hB → Kp hB s.heap → (∀ p ∈ as, hB.get? p.1 = none) → (∀ p ∈ as, s.heap.get? p.1 = some p.2) →
    dp + d < recursionLimit → un + 8 * d < cLine → (∀ v h' tk', Kp s.heap h' → R s.heap v h' → Q v { s with heap := h', toks := tk' }) →
    wpAny (model PySem.Challenge.rw_pd0169_01.row.prog w) (Ar dp un fr gd) (call (.ref f) vs) Q E s
section
variable {w : World} {mean : ExcName → Option Value} {mg mb : Str → Option Value} {f : Addr} {vs : List Value} {as : List (Addr × Obj)} {d : Nat} {R : Heap → Value → Heap → Prop} {dp un : Nat} {fr : Option (List Env)} {gd : Option (List Code)} {s : Shared} {Q E : Value → Shared → Prop}
  {h₀ : Heap} {L : Addr} {m : Str → Option Value} {news : List (Addr × Obj)}
theorem Does.use (C : Does w mean mg mb f vs as d R) (F : Fr h₀ L s.heap m) (N : News h₀ L s.heap news) (X : (Mine.hd.heap_39 w.params).In h₀) (T : Top Mine.hd.view_39 (looseW Mine.hd.view_39 [Str.ofString "IPV4_RE"]) mean mg mb h₀)
    (hs : ∀ p ∈ as, p ∈ news) (hd : dp + d < recursionLimit) (hu : un + 8 * d < cLine) (ret : ∀ v h' tk', Fr h₀ L h' m → News h₀ L h' news → Kp s.heap h' → R s.heap v h' → Q v { s with heap := h', toks := tk' }) :
    wpAny (model PySem.Challenge.rw_pd0169_01.row.prog w) (Ar dp un fr gd) (call (.ref f) vs) Q E s :=
  C dp un fr gd s h₀ Q E X T F.keep (fun p hp => (N p (hs p hp)).2.2) (fun p hp => (N p (hs p hp)).1) hd hu fun v h' tk' k r => ret v h' tk' (fr_keep F k) (news_keep N k) k r
end
end
section
noncomputable def Hold (P : Prop) : Prop := P
theorem hold_in {P : Prop} (h : Hold P) : P := h
structure UdmOk (x y : Str) : Prop where
  sx : x.length < 300
  sy : y.length < 300
  rx : (reRun (Txt.lower x)).isSome = true
  ry : (reRun (Txt.lower y)).isSome = true
  lx : (Txt.lower x).length < 1000
  ly : (Txt.lower y).length < 1000
section
variable {w : World} {mean : ExcName → Option Value} {mg mb : Str → Option Value} {dp un : Nat} {fr : Option (List Env)} {gd : Option (List Code)} {s : Shared} {Q E : Value → Shared → Prop}
  {h₀ : Heap} {L : Addr} {m : Str → Option Value} {news : List (Addr × Obj)}
    (F : Fr h₀ L s.heap m) (N : News h₀ L s.heap news) (X : (Mine.hd.heap_39 w.params).In h₀) (T : Top Mine.hd.view_39 (looseW Mine.hd.view_39 [Str.ofString "IPV4_RE"]) mean mg mb h₀)
include F N X T
theorem udm_at (hdp : dp + 4 < recursionLimit) {x y : Str} {t u : Tok} (ok : UdmOk x y) (ret : ∀ h' tk', Fr h₀ L h' m → News h₀ L h' news → Q (.bool (udmF x y)) { s with heap := h', toks := tk' }) :
    wpAny (model PySem.Challenge.rw_pd0169_01.row.prog w) (Ar dp un fr gd) (call (.ref 57) [.str x t, .str y u]) Q E s :=
  udm_ok (X.keeps F.keep) (T.keeps F.keep) hdp x y t u ok.sx ok.sy ok.rx ok.ry ok.lx ok.ly fun h' tk' k => ret h' tk' (fr_keep F k) (news_keep N k)
end
theorem map_again {x : Str} {v : Value} {u : Option Value} {m : Str → Option Value} : (fun y => if y = x then some v else (if y = x then u else m y)) = fun y => if y = x then some v else m y := by
  funext y
  by_cases h : y = x <;> simp [h]
theorem map_first {x : Str} {m : Str → Option Value} : m = fun y => if y = x then m x else m y := by
  funext y
  by_cases h : y = x <;> simp [h]
theorem fr_off {h₀ h : Heap} {L : Addr} {m m' : Str → Option Value} (F : Fr h₀ L h m) (e : m = m') : Fr h₀ L h m' := e ▸ F




local macro_rules | `(tactic| walk_at "exec For Name Name cons nil") => `(tactic| (k_here; refine hold_in ?_))
local macro_rules | `(tactic| walk_at "pyIter ref") => `(tactic| (k_here; refine hold_in ?_))
local macro_rules | `(tactic| walk_at "call ref") => `(tactic| (k_here; (with_reducible show wpAny _ _ (call (Value.ref 57) _) _ _ _); k_dflt (refine' udm_at (by k_asm) (by k_asm) (by k_asm) (by k_asm) (by (dsimp only [Ar, Around.deeper, Around.in1]; omega)) (by k_asm) ?_; k_whole); intro h' tk' F' N'; (try dsimp only); (try k_sweep)))

theorem found_ok {w : World} {mean : ExcName → Option Value} {mg mb : Str → Option Value} (x : Str) (t : Tok) (l : Addr) (vs : List Value) (n : Nat) (ys : List Str) (hv : StrsAre vs ys) (hx : x.length < 100) (hok : ∀ y ∈ ys, UdmOk (Txt.upper x) y) :
    Does w mean mg mb 201 [.str x t, .ref l] [(l, listOf vs.toArray n)] 8 (fun _ v _ => v = .bool (ys.any (udmF (Txt.upper x)))) := by
  unfold Does
  intro dp un fr gd s hB Q E X T kB hn ha hdp hun ret
  w_on
  (revert X; k_fill; intro X)
  k_dflt (refine' enterL [(l, listOf vs.toArray n)] (binds := [(Str.ofString "host", .str x t), (Str.ofString "zones", .ref l)]) ?k1 ?k2 ?ka ?kb ?kc ?k3 ?k4 ?k5 ?k6 ?k7 ?_ ?c2 ?c3 ?c4 ?c5; (case k1 => k_asm); (case k2 => k_asm); (case ka => k_asm); (case kb => k_asm); (case kc => k_asm); (case k3 => k_is); (case k4 => k_is); (case k5 => (dsimp only [Ar, Around.deeper, Around.in1]; omega)); (case k6 => exact BindsTo.of_eq rfl); (case k7 => exact locs rfl); (case c2 => exact rfl); (case c3 => exact rfl); (case c4 => exact rfl); (case c5 => decide); k_whole)
  intro L' h' X' T' F' N'
  (try dsimp only)
  (try k_fold)
  k_steps
  unfold Hold
  refine For_invVF F' (by rfl) (by rfl) ?_
  k_steps
  unfold Hold
  refine kdl_iter (fun i m₁ news₁ => news₁ = [(l, listOf vs.toArray n)] ∧ (∃ u, m₁ = fun z => if z = Str.ofString "zone" then u else List.lookup z [(Str.ofString "host", Value.str x t), (Str.ofString "zones", Value.ref l)].reverse) ∧ ∀ y ∈ ys.take i, udmF (Txt.upper x) y = false)
    rfl (List.Mem.head _) F' N' ⟨rfl, ⟨_, map_first⟩, by simp⟩ ?_ ?_
  · rintro i v m₁ news₁ h tk own hvi hoff hl₁ ⟨rfl, ⟨u, rfl⟩, hno⟩ F₁ N₁
    obtain ⟨y, ty, rfl, hy⟩ := strsAre_get hv i v hvi
    have hmem : y ∈ ys := List.mem_of_getElem? hy
    have hoky := hok y hmem
    rw [map_again] at F₁
    k_steps
    · refine ret _ _ _ (kp_out (by assumption) (by assumption) (fun p hp => List.mem_append_left _ hp) ha) ?_
      show Value.bool true = _
      rw [List.any_eq_true.mpr ⟨y, hmem, by assumption⟩]
    · refine InvEndG.intro (by assumption) (by assumption) ⟨List.Mem.head _, rfl, ⟨_, rfl⟩, ?_⟩ hoff (fun p hp => List.mem_append_left _ hp) (fun p hp => List.mem_append_right _ hp)
      intro z hz
      rw [List.take_add_one, hy] at hz
      rcases List.mem_append.mp hz with hz | hz
      · exact hno z hz
      · have e : z = y := by simpa using hz
        rw [e]; assumption
  · rintro m₁ news₁ h tk ⟨rfl, ⟨u, rfl⟩, hno⟩ F₁ N₁
    k_steps
    refine ret _ _ _ (kp_out (by assumption) (by assumption) (fun p hp => hp) ha) ?_
    show Value.bool false = _
    rw [List.any_eq_false.mpr]
    intro z hz q
    rw [strsAre_len hv, List.take_of_length_le (Nat.le_refl _)] at hno
    rw [hno z hz] at q
    cases q
end
section
/-- as enterL, of a def some of whose names are kept in cells -/
theorem enterC {prog : Program} {w : World} {A : Around} {s : Shared} {K : Frag} {p : Program} {loose : List Str} {mean : ExcName → Option Value} {mg mb : Str → Option Value} {Q E : Value → Shared → Prop}
    {name qual : Str} {params : Arguments} {body : List Stmt} {scope : Scope} {dV kV doc pm cdv ct oc : Value} {an od : Option Addr} {osl : Array (Option Value)} {f : Addr} {vs : List Value} {binds : List (Str × Value)} {hB : Heap} (as : List (Addr × Obj))
    (X : K.In hB) (T : Top p loose mean mg mb hB) (k : Kp hB s.heap) (hn : ∀ p ∈ as, hB.get? p.1 = none) (ha : ∀ p ∈ as, s.heap.get? p.1 = some p.2)
    (ho : K.lookup f = some ⟨oc, od, .func (fnOf name qual params body scope dV kV doc pm an cdv ct), osl⟩) (hcd : codeIn K cdv qual = true) (hroom : A.depth < recursionLimit)
    (hbind : BindsTo s (fnOf name qual params body scope dV kV doc pm an cdv ct) ⟨vs, []⟩ binds) (hkind : (binds.all fun y => scope.names.lookup y.1 == some .local || scope.names.lookup y.1 == some .cell) = true)
    (hnd : ((cellsFrom 0 scope.names []).map (·.1)).Nodup)
    (h : ∀ L' h₁ tk cells, K.In (hid s.heap as) → Top p loose mean mg mb (hid s.heap as) → Fr (hid s.heap as) L' h₁ (bindL (envOfC qual scope L' f cdv).kindOf binds fun _ => none) → News (hid s.heap as) L' h₁ (cells ++ as) →
      CellsAre (bindC (envOfC qual scope L' f cdv).kindOf binds fun _ => none) (cellsFrom (L' + 1) scope.names []) cells → (∀ p ∈ as, p.1 < L') →
      wpAny (model prog w) (A.deeper (envOfC qual scope L' f cdv)) (execs body (envOfC qual scope L' f cdv))
        (fun fl s' => Q (match fl with | .ret v => v | _ => .none) s') (fun _ _ => False) { s with heap := h₁, toks := tk })
    (hco : scope.isCoroutine = false) (hgen : scope.isGenerator = false) (hk : scope.kind = .function) :
    wpAny (model prog w) A (call (.ref f) vs) Q E s := by
  refine wpAny_call (codeAny_call_function hroom (k _ _ (X _ _ ho)) rfl hco hgen rfl (codeRec_of (X.keeps k) hcd) (hbind _ _ _ _ ?_))
  refine wpAny_newFunctionEnv_cells hk (kindsX hkind _) fun env' he s' x => ?_
  subst he
  refine ⟨(T.nolimit.keeps k).keeps x.toInCall.keep, codeAny_func ?_⟩
  obtain ⟨h₁, tk, rfl, _⟩ := x.done
  have hk₁ := x.toInCall.keep
  obtain ⟨cells, NC, Y⟩ := Cl.news (h₀ := s.heap) (Nat.le_refl _) fun n c hm => ⟨x.cell n c (lookup_of_mem_nodup (cellsFrom_names scope.names 0 (s.heap.objs.size + 1) [] [] rfl ▸ hnd) hm), x.above n c hm⟩
  have F : Fr (hid s.heap as) s.heap.objs.size h₁ _ := ⟨x.toInCall.ns, fun b o e => hk₁ b o (of_hideAll _ e), Nat.le_of_eq (hideAll_size _ _)⟩
  have N : News (hid s.heap as) s.heap.objs.size h₁ (cells ++ as) := by
    intro p hp
    rcases List.mem_append.mp hp with hp | hp
    · refine ⟨(NC p hp).1, (NC p hp).2.1, ?_⟩
      cases q : (hid s.heap as).get? p.1 with
      | none => rfl
      | some o => have := of_hideAll _ q; rw [(NC p hp).2.2] at this; cases this
    · exact ⟨hk₁ _ _ (ha p hp), Nat.ne_of_lt (Heap.lt_size (ha p hp)), hideAll_none _ (List.mem_map_of_mem hp)⟩
  exact wpAny_mono (h s.heap.objs.size h₁ tk cells (X.keeps (kp_hid k hn)) (T.keeps (kp_hid k hn)) F N Y (fun p hp => Heap.lt_size (ha p hp))) (fun _ _ x => x) fun _ _ x => x.elim
end
section
theorem hid_size (h : Heap) (as : List (Addr × Obj)) : (hid h as).objs.size = h.objs.size := hideAll_size _ _
/-- the ground of a block within a frame: the frame's ledger stands in it as its own -/
theorem block_ground {h₀ h h₂ h₃ : Heap} {L C : Addr} {m m₃ : Str → Option Value} {news : List (Addr × Obj)} {x : Str} {v : Value} {wr : List Addr} (F : Fr h₀ L h m) (N : News h₀ L h news)
    (k₂ : Kp h h₂) (hwr : ∀ b ∈ wr, h.objs.size ≤ b) (hC : h.objs.size ≤ C) (hns : h₃.Ns C m₃) (hx : m₃ x = some v) (k₃ : ∀ b o, b ∉ wr → h₂.get? b = some o → h₃.get? b = some o) :
    Fr (hid h news) C h₃ (fun y => if y = x then some v else m₃ y) ∧ News (hid h news) C h₃ news ∧ Kp h₀ (hid h news) := by
  have keep : Kp h h₃ := fun b o e => k₃ b o (fun q => Nat.lt_irrefl _ (Nat.lt_of_lt_of_le (Heap.lt_size e) (hwr b q))) (k₂ b o e)
  refine ⟨⟨?_, fun b o e => keep b o (of_hideAll _ e), by rw [hid_size]; exact hC⟩, fun p hp => ⟨keep _ _ (N p hp).1, Nat.ne_of_lt (Nat.lt_of_lt_of_le (Heap.lt_size (N p hp).1) hC), hideAll_none _ (List.mem_map_of_mem hp)⟩, ?_⟩
  · have e : (fun y => if y = x then some v else m₃ y) = m₃ := by
      funext y
      by_cases q : y = x
      · simp [q, hx]
      · simp [q]
    rw [e]; exact hns
  · exact kp_hid F.keep fun p hp => (N p hp).2.2
theorem ints_of_get : ∀ {us : List Value} {ns : List Int}, us.length = ns.length → (∀ (j : Nat) (v : Value), us[j]? = some v → ∃ n t, v = Value.int n t ∧ ns[j]? = some n) → IntsAre us ns
  | [], [], _, _ => .nil
  | [], _ :: _, h, _ => by simp at h
  | _ :: _, [], h, _ => by simp at h
  | v :: us, n :: ns, h, k => by
    obtain ⟨n', t, e, e'⟩ := k 0 v rfl
    have : n = n' := by simpa using e'
    subst this e
    exact .cons n t (ints_of_get (by simpa using h) fun j v hj => by simpa using k (j + 1) v (by simpa using hj))
noncomputable abbrev testsOf (ifs : List Expr) (cenv : Env) : Sem Bool := forIn ifs true fun c r => if r = true then do let ok ← isTrue c cenv (eval c cenv); pure (ForInStep.yield ok) else pure (ForInStep.yield r)
/-- a comprehension's source is reckoned: what is left -/
noncomputable def CompAt (prog : Program) (w : World) (A : Around) (env : Env) (scope : Scope) (cl : List (Str × Addr)) (x : Str) (ifs : List Expr) (elt : Expr) (p : Value → Bool) (G : Value → Value → Prop) (Q : Value → Shared → Prop) (E : Value → Shared → Prop) (xv : Value) (s : Shared) : Prop :=
  wpAny (model prog w) A (pyIter xv) (fun it s₂ => ∃ I fp wr n P St, it = .ref I ∧ Walks prog w A I fp wr n P St ∧ n ≤ sizeLine ∧ St 0 s₂.heap ∧ (∀ b ∈ fp, b < s₂.heap.objs.size) ∧
      QuietOnC prog w A env scope cl x ifs elt wr P p G s₂ ∧
      (∀ D h' tk ys (vs : List Value), s₂.heap.get? D = none → h'.IsList D ys → h'.PlainList D ys → vs.length = n → (∀ j v, vs[j]? = some v → P j v) → Paired G (vs.filter p) ys.toList →
        (∀ b o, b ∉ wr → s₂.heap.get? b = some o → h'.get? b = some o) → Q (.ref D) { s₂ with heap := h', toks := tk })) E s
section
variable {prog : Program} {w : World} {A : Around} {E : Value → Shared → Prop} {s : Shared} {h₀ : Heap} {L : Addr} {m : Str → Option Value} {news : List (Addr × Obj)} {env : Env} {scope : Scope} {cl : List (Str × Addr)} {x : Str} {ifs : List Expr} {elt : Expr} {Q : Value → Shared → Prop}
/-- the source is a list of the ledger's -/
theorem comp_list {l : Addr} {vs : List Value} {nn : Nat} (p : Value → Bool) (G : Value → Value → Prop) (hh : A.handled = none) (F : Fr h₀ L s.heap m) (N : News h₀ L s.heap news) (hl : (l, listOf vs.toArray nn) ∈ news) (hz : vs.length ≤ sizeLine)
    (test : ∀ (C : Addr) (s₃ : Shared) (v : Value) (m₃ : Str → Option Value) (E' : Value → Shared → Prop), v ∈ vs → Fr (hid s.heap news) C s₃.heap (fun y => if y = x then some v else m₃ y) → News (hid s.heap news) C s₃.heap news → Kp h₀ (hid s.heap news) →
      wpAny (model prog w) A (testsOf ifs (compEnvC scope cl C env)) (fun ok s₄ => ok = p v ∧ Keeps s₃ s₄) E' s₃)
    (el : ∀ (C : Addr) (s₃ : Shared) (v : Value) (m₃ : Str → Option Value) (E' : Value → Shared → Prop), v ∈ vs → p v = true → Fr (hid s.heap news) C s₃.heap (fun y => if y = x then some v else m₃ y) → News (hid s.heap news) C s₃.heap news → Kp h₀ (hid s.heap news) →
      wpAny (model prog w) A (eval elt (compEnvC scope cl C env)) (fun y s₄ => G v y ∧ Keeps s₃ s₄) E' s₃)
    (done : ∀ D n' ws h' tk, Paired G (vs.filter p) ws → Fr h₀ L h' m → News h₀ L h' ((D, listOf (List.toArray ws) n') :: news) → (∀ p ∈ news, p.1 ≠ D) → Q (.ref D) { s with heap := h', toks := tk }) :
    CompAt prog w A env scope cl x ifs elt p G Q E (.ref l) s := by
  unfold CompAt
  have hol : s.heap.get? l = some (listOf vs.toArray nn) := (N _ hl).1
  have hls : s.heap.IsList l vs.toArray := ⟨_, hol, rfl, nn, rfl⟩
  have hne : l ≠ s.heap.objs.size := Nat.ne_of_lt (Heap.lt_size hol)
  refine wpAny_pyIter_list hls ?_
  have W := Walks.list (prog := prog) (w := w) hh s.heap.objs.size l hne vs.toArray
  have k₂ : Kp s.heap (s.heap.push { cls := .type "list_iterator", data := .fields #[.ref l, .int 0 0] }) := fun b o e => Heap.get?_push_of_some _ e
  have hwr : ∀ b ∈ [s.heap.objs.size], s.heap.objs.size ≤ b := fun b hb => by rw [List.mem_singleton.mp hb]; exact Nat.le_refl _
  have hin : ∀ (i : Nat) (v : Value), vs.toArray[i]? = some v → v ∈ vs := fun i v e => List.mem_of_getElem? (i := i) (by simpa using e)
  refine ⟨_, _, _, _, _, _, rfl, W, by simpa using hz, ⟨⟨_, Heap.get?_push_size _ rfl, rfl, rfl⟩, hls.at fun o e => Heap.get?_push_of_some _ e⟩, ?_, ⟨?_, ?_⟩, ?_⟩
  · intro b hb
    rw [Heap.size_push]
    rcases List.mem_cons.mp hb with rfl | hb
    · exact Nat.lt_succ_self _
    · rw [List.mem_singleton.mp hb]; exact Nat.lt_succ_of_lt (Heap.lt_size hol)
  · rintro C i v s₃ m₃ E' hC hP hns hx k₃ htk
    have hC' : s.heap.objs.size ≤ C := Nat.le_trans (Nat.le_succ _) (by rw [Heap.size_push] at hC; exact hC)
    obtain ⟨F₁, N₁, k₁⟩ := block_ground F N k₂ hwr hC' hns hx k₃
    exact test C s₃ v m₃ E' (hin i v hP) F₁ N₁ k₁
  · rintro C i v s₃ m₃ E' hC hP hpv hns hx k₃ htk
    have hC' : s.heap.objs.size ≤ C := Nat.le_trans (Nat.le_succ _) (by rw [Heap.size_push] at hC; exact hC)
    obtain ⟨F₁, N₁, k₁⟩ := block_ground F N k₂ hwr hC' hns hx k₃
    exact el C s₃ v m₃ E' (hin i v hP) hpv F₁ N₁ k₁
  · intro D h' tk ys us hD _ hpl hlen hP hpair k₃
    have keep : Kp s.heap h' := fun b o e => k₃ b o (fun q => Nat.lt_irrefl _ (Nat.lt_of_lt_of_le (Heap.lt_size e) (hwr b q))) (k₂ b o e)
    have hus : us = vs := by
      apply List.ext_getElem?
      intro j
      by_cases hj : j < us.length
      · have e := hP j us[j] (by simp [hj])
        have e' : vs[j]? = some us[j] := by simpa using e
        rw [e']; simp [hj]
      · have h1 : us[j]? = none := by simp; omega
        have h2 : vs[j]? = none := by simp at hlen ⊢; omega
        rw [h1, h2]
    subst hus
    obtain ⟨n', hn'⟩ := hpl
    have hDs : s.heap.get? D = none := by
      cases q : s.heap.get? D with
      | none => rfl
      | some o => have := k₂ D o q; rw [hD] at this; cases this
    refine done D n' ys.toList h' tk hpair (fr_keep F keep) (news_new F N keep hDs (by simpa using hn')) (fun p hp => ?_)
    intro e
    rw [← e, (N p hp).1] at hDs
    cases hDs
/-- the source is a range by ones -/
theorem comp_range {r : Addr} {a b : Int} {t₀ u₀ v₀ : Tok} {k : Nat} (p : Value → Bool) (G : Value → Value → Prop) (hh : A.handled = none) (F : Fr h₀ L s.heap m) (N : News h₀ L s.heap news) (hr : IsRange s.heap r a b 1 t₀ u₀ v₀) (hk : b = a + k) (hz : k ≤ 1000) (ha : 0 ≤ a) (hb : b ≤ 1000000)
    (test : ∀ (C : Addr) (s₃ : Shared) (i : Nat) (tv : Tok) (m₃ : Str → Option Value) (E' : Value → Shared → Prop), i < k → Fr (hid s.heap news) C s₃.heap (fun y => if y = x then some (.int (a + i) tv) else m₃ y) → News (hid s.heap news) C s₃.heap news → Kp h₀ (hid s.heap news) →
      wpAny (model prog w) A (testsOf ifs (compEnvC scope cl C env)) (fun ok s₄ => ok = p (.int (a + i) tv) ∧ Keeps s₃ s₄) E' s₃)
    (el : ∀ (C : Addr) (s₃ : Shared) (i : Nat) (tv : Tok) (m₃ : Str → Option Value) (E' : Value → Shared → Prop), i < k → p (.int (a + i) tv) = true → Fr (hid s.heap news) C s₃.heap (fun y => if y = x then some (.int (a + i) tv) else m₃ y) → News (hid s.heap news) C s₃.heap news → Kp h₀ (hid s.heap news) →
      wpAny (model prog w) A (eval elt (compEnvC scope cl C env)) (fun y s₄ => G (.int (a + i) tv) y ∧ Keeps s₃ s₄) E' s₃)
    (done : ∀ D n' us ws h' tk, IntsAre us ((List.range k).map fun (i : Nat) => a + (i : Int)) → Paired G (us.filter p) ws → Fr h₀ L h' m → News h₀ L h' ((D, listOf (List.toArray ws) n') :: news) → (∀ p ∈ news, p.1 ≠ D) → Q (.ref D) { s with heap := h', toks := tk }) :
    CompAt prog w A env scope cl x ifs elt p G Q E (.ref r) s := by
  unfold CompAt
  subst hk
  have hsz : Builtin.Range.rangeSize a (a + (k : Int)) 1 = (k : Int) := by rw [rangeSize_one]; split <;> omega
  refine wpAny_pyIter_range hr (small_one (by omega) (by omega) (by omega) (by omega)) ?_
  rw [hsz]
  have W₀ := Walks.range (prog := prog) (w := w) hh s.heap.objs.size a 1 k
  have W : Walks prog w A s.heap.objs.size [s.heap.objs.size] [s.heap.objs.size] k (fun i v => i < k ∧ ∃ t, v = .int (a + (i : Int)) t) (fun i h => IsRangeIter h s.heap.objs.size (a + ((i : Nat) : Int) * 1) ((k : Int) - ((i : Nat) : Int)) 1) :=
    ⟨W₀.sub, W₀.frame, fun i s Q E hi st hQ => W₀.item i s Q E hi st fun v h' tk hP st' kk => hQ v h' tk ⟨hi, by obtain ⟨t, e⟩ := hP; exact ⟨t, by rw [e, Int.mul_one]⟩⟩ st' kk, W₀.done, W₀.self⟩
  have k₂ : Kp s.heap (s.heap.push { cls := .type "range_iterator", data := .fields #[rawInt a, rawInt (k : Int), rawInt 1] }) := fun b o e => Heap.get?_push_of_some _ e
  have hwr : ∀ b ∈ [s.heap.objs.size], s.heap.objs.size ≤ b := fun b hb => by rw [List.mem_singleton.mp hb]; exact Nat.le_refl _
  refine ⟨_, _, _, _, _, _, rfl, W, Nat.le_trans hz (by rw [sizeLine_eq]; omega), ?_, ?_, ⟨?_, ?_⟩, ?_⟩
  · show IsRangeIter _ _ _ _ _
    have e1 : a + ((0 : Nat) : Int) * 1 = a := by omega
    have e2 : (k : Int) - ((0 : Nat) : Int) = k := by omega
    rw [e1, e2]
    exact Heap.get?_push_size _ rfl
  · intro b hb
    rw [Heap.size_push, List.mem_singleton.mp hb]
    exact Nat.lt_succ_self _
  · rintro C i v s₃ m₃ E' hC ⟨hi, tv, rfl⟩ hns hx k₃ htk
    have hC' : s.heap.objs.size ≤ C := Nat.le_trans (Nat.le_succ _) (by rw [Heap.size_push] at hC; exact hC)
    obtain ⟨F₁, N₁, k₁⟩ := block_ground F N k₂ hwr hC' hns hx k₃
    exact test C s₃ i tv m₃ E' hi F₁ N₁ k₁
  · rintro C i v s₃ m₃ E' hC ⟨hi, tv, rfl⟩ hpv hns hx k₃ htk
    have hC' : s.heap.objs.size ≤ C := Nat.le_trans (Nat.le_succ _) (by rw [Heap.size_push] at hC; exact hC)
    obtain ⟨F₁, N₁, k₁⟩ := block_ground F N k₂ hwr hC' hns hx k₃
    exact el C s₃ i tv m₃ E' hi hpv F₁ N₁ k₁
  · intro D h' tk ys us hD _ hpl hlen hP hpair k₃
    have keep : Kp s.heap h' := fun b o e => k₃ b o (fun q => Nat.lt_irrefl _ (Nat.lt_of_lt_of_le (Heap.lt_size e) (hwr b q))) (k₂ b o e)
    obtain ⟨n', hn'⟩ := hpl
    have hDs : s.heap.get? D = none := by
      cases q : s.heap.get? D with
      | none => rfl
      | some o => have := k₂ D o q; rw [hD] at this; cases this
    refine done D n' us ys.toList h' tk (ints_of_get (by simpa using hlen) fun j v hj => ?_) hpair (fr_keep F keep) (news_new F N keep hDs (by simpa using hn')) (fun p hp => ?_)
    · obtain ⟨h1, t, e⟩ := hP j v hj
      exact ⟨a + (j : Int), t, e, by simp [h1]⟩
    · intro e
      rw [← e, (N p hp).1] at hDs
      cases hDs
theorem lc_free {iter : Expr} {px pos : Pos} (p : Value → Bool) (G : Value → Value → Prop) (hclos : closureFor scope env = pure cl) (hcell : ∀ y ∈ scope.names, y.2 ≠ .cell) (hkind : scope.kind = .function)
    (hnames : ∀ y ∈ scope.names, y.2 = .local → scope.names.lookup y.1 = some .local) (hx : scope.names.lookup x = some .local)
    (h : wpAny (model prog w) A (eval iter env) (fun xv s₁ => CompAt prog w A env scope cl x ifs elt p G Q E xv s₁) E s) (hs : ∀ x, foldedSetIterable iter env x = pure x) :
    wpAny (model prog w) A (eval (.ListComp elt [⟨.Name x px, iter, ifs, 0⟩] scope pos) env) Q E s := wpAny_ListComp_free p G hclos hcell hkind hnames hx h hs
end
end
section
section
variable {M : Model} {A : Around} {E : Value → Shared → Prop} {s : Shared} {h₀ : Heap} {C : Addr} {m : Str → Option Value} {news : List (Addr × Obj)} {scope : Scope} {cl : List (Str × Addr)} {env : Env} {x : Str} {pos : Pos} {v : Value} {c : Addr} {o : Obj} {Q : Value → Shared → Prop}
theorem nameB_L (F : Fr h₀ C s.heap m) (hv : m x = some v) (h : Q v s) (hk : (compEnvC scope cl C env).scope.kind = .function) (hx : (compEnvC scope cl C env).kindOf x = some .local) (hd : (x == ("__debug__" : Str)) = false) :
    wpAny M A (eval (.Name x pos) (compEnvC scope cl C env)) Q E s := wpAny_Name (wpAny_loadName_local hk hx F.ns hv h) hd
theorem nameB_C (N : News h₀ C s.heap news) (hc : cl.lookup x = some c) (hm : (c, o) ∈ news) (hd : o.data = .cell (some v)) (h : Q v s)
    (hk : (compEnvC scope cl C env).scope.kind = .function) (hx : (compEnvC scope cl C env).kindOf x = some .cell) (hb : (x == ("__debug__" : Str)) = false) :
    wpAny M A (eval (.Name x pos) (compEnvC scope cl C env)) Q E s := wpAny_Name (wpAny_loadName_cell hk hx hc ⟨o, N.get hm, hd⟩ h) hb
end

theorem tests0 {M : Model} {A : Around} {E : Value → Shared → Prop} {s : Shared} {env : Env} {Q : Bool → Shared → Prop} (h : Q true s) : wpAny M A (testsOf [] env) Q E s := by
  unfold testsOf
  rw [List.forIn_nil]
  exact wpAny_pure h
theorem tests1 {M : Model} {A : Around} {E : Value → Shared → Prop} {s : Shared} {c : Expr} {env : Env} {Q : Bool → Shared → Prop} (h : wpAny M A (isTrue c env (eval c env)) Q E s) : wpAny M A (testsOf [c] env) Q E s := by
  unfold testsOf
  rw [List.forIn_cons]
  refine wpAny_bind ?_
  rw [if_pos rfl]
  refine wpAny_bind (wpAny_mono h (fun b s' q => wpAny_pure ?_) fun _ _ x => x)
  show wpAny M A (forIn [] b _) Q E s'
  rw [List.forIn_nil]
  exact wpAny_pure q
theorem keeps_of {s s' : Shared} (h : Kp s.heap s'.heap) (e : s' = { s with heap := s'.heap, toks := s'.toks }) : Keeps s s' := ⟨s'.heap, s'.toks, e, h⟩
theorem paired_eq : ∀ {us ws : List Value}, Paired (fun v y => y = v) us ws → ws = us
  | [], _, h => by cases h; rfl
  | u :: us, _, h => by
    cases h with
    | cons e t => rw [e, paired_eq t]
noncomputable abbrev intP (q : Int → Bool) : Value → Bool := fun v => match v with | .int i _ => q i | _ => false
theorem ints_filter (q : Int → Bool) : ∀ {us : List Value} {ns : List Int}, IntsAre us ns → IntsAre (us.filter (intP q)) (ns.filter q)
  | _, _, .nil => .nil
  | _, _, .cons n t h => by
    have ih := ints_filter q h
    cases e : q n with
    | true =>
      rw [List.filter_cons_of_pos (by exact e), List.filter_cons_of_pos e]
      exact .cons n t ih
    | false =>
      rw [List.filter_cons_of_neg (by show ¬ q n = true; rw [e]; exact Bool.false_ne_true), List.filter_cons_of_neg (by rw [e]; exact Bool.false_ne_true)]
      exact ih
/-- what a def says that hands back a new list -/
noncomputable abbrev NewL (P : List Value → Prop) : Heap → Value → Heap → Prop := fun h v h' => ∃ l ws n', v = .ref l ∧ h.get? l = none ∧ h'.get? l = some (listOf (List.toArray ws) n') ∧ P ws
theorem Does.useL {w : World} {mean : ExcName → Option Value} {mg mb : Str → Option Value} {f : Addr} {vs : List Value} {as : List (Addr × Obj)} {d : Nat} {P : List Value → Prop} {dp un : Nat} {fr : Option (List Env)} {gd : Option (List Code)} {s : Shared} {Q E : Value → Shared → Prop}
    {h₀ : Heap} {L : Addr} {m : Str → Option Value} {news : List (Addr × Obj)} (C : Does w mean mg mb f vs as d (NewL P)) (F : Fr h₀ L s.heap m) (N : News h₀ L s.heap news) (X : (Mine.hd.heap_39 w.params).In h₀) (T : Top Mine.hd.view_39 (looseW Mine.hd.view_39 [Str.ofString "IPV4_RE"]) mean mg mb h₀)
    (hs : ∀ p ∈ as, p ∈ news) (hd : dp + d < recursionLimit) (hu : un + 8 * d < cLine)
    (ret : ∀ l ws n' h' tk', P ws → Fr h₀ L h' m → News h₀ L h' ((l, listOf (List.toArray ws) n') :: news) → (∀ p ∈ news, p.1 ≠ l) → Q (.ref l) { s with heap := h', toks := tk' }) :
    wpAny (model PySem.Challenge.rw_pd0169_01.row.prog w) (Ar dp un fr gd) (call (.ref f) vs) Q E s := by
  refine C.use F N X T hs hd hu fun v h' tk' F' N' k r => ?_
  obtain ⟨l, ws, n', rfl, hl, ho, hP⟩ := r
  refine ret l ws n' h' tk' hP F' (news_new F N k hl ho) fun p hp e => ?_
  rw [← e, (N p hp).1] at hl
  cases hl
theorem keeps_refl (s : Shared) : Keeps s s := ⟨s.heap, s.toks, rfl, fun _ _ e => e⟩
theorem any_contains (ns : List Int) (i : Int) : (ns.any fun x => x == i) = ns.contains i := by
  rw [List.contains_eq_any_beq]
  congr 1
  funext x
  exact Bool.beq_comm ..
noncomputable def leafs (j : Nat) (nd : Int) : List Int := (List.range (2 ^ j)).map fun (i : Nat) => nd * 2 ^ j + (i : Int)
noncomputable def highF (ns : List Int) : Nat → Int → List Int
  | 0, nd => if (leafs 0 nd).filter (fun v => !ns.contains v) = [] then [nd] else []
  | j + 1, nd => if (leafs (j + 1) nd).filter (fun v => !ns.contains v) = [] then [nd] else highF ns j (2 * nd) ++ highF ns j (2 * nd + 1)

local macro_rules | `(tactic| walk_at "pyIter ref") => `(tactic| (k_here; refine hold_in ?_))

local macro_rules | `(tactic| walk_at "eval Name") => `(tactic| (k_here; (with_reducible show wpAny _ _ (eval (Expr.Name _ _) (compEnvC _ _ _ _)) _ _ _); k_dflt (refine' nameB_L (by k_asm) (by exact rfl) ?_ (by exact rfl) (by exact rfl) (by decide); k_whole)))
local macro_rules | `(tactic| walk_at "eval Name") => `(tactic| (k_here; (with_reducible show wpAny _ _ (eval (Expr.Name _ _) (compEnvC _ _ _ _)) _ _ _); k_dflt (refine' nameB_C (by k_asm) (by exact rfl) (by k_mem) (by k_asm) ?_ (by exact rfl) (by exact rfl) (by decide); k_whole)))

local macro_rules | `(tactic| walk_at "eval ListComp") => `(tactic| (k_here; refine hold_in ?_))

noncomputable def HighSays (w : World) (mean : ExcName → Option Value) (mg mb : Str → Option Value) (l : Addr) (vs : List Value) (n : Nat) (ns : List Int) (j : Nat) : Prop :=
  ∀ (nd ht : Int) (t u : Tok), ht = (j : Int) → 0 ≤ nd → (nd + 1) * 2 ^ j ≤ 100 → Does w mean mg mb 194 [.ref l, .int nd t, .int ht u] [(l, listOf vs.toArray n)] (10 + j) (NewL fun ws => IntsAre ws (highF ns j nd))
theorem high_end {j : Nat} {a : Int} {ns : List Int} : leafs j a = (List.range (2 ^ j)).map fun (i : Nat) => a * 2 ^ j + (i : Int) := rfl
theorem highF_1 {ns : List Int} {j : Nat} {nd : Int} (h : (leafs j nd).filter (fun v => !ns.contains v) = []) : highF ns j nd = [nd] := by
  cases j <;> (unfold highF; rw [if_pos h])
theorem highF_2 {ns : List Int} {nd : Int} (h : ¬ (leafs 0 nd).filter (fun v => !ns.contains v) = []) : highF ns 0 nd = [] := by
  unfold highF; rw [if_neg h]
theorem highF_3 {ns : List Int} {j : Nat} {nd : Int} (h : ¬ (leafs (j + 1) nd).filter (fun v => !ns.contains v) = []) : highF ns (j + 1) nd = highF ns j (2 * nd) ++ highF ns j (2 * nd + 1) := by
  conv => lhs; unfold highF
  rw [if_neg h]
theorem highF_len (ns : List Int) : ∀ (j : Nat) (nd : Int), (highF ns j nd).length ≤ 2 ^ j
  | 0, nd => by unfold highF; split <;> simp
  | j + 1, nd => by
    unfold highF
    split
    · simp; exact Nat.one_le_two_pow
    · rw [List.length_append, Nat.pow_succ]
      have := highF_len ns j (2 * nd)
      have := highF_len ns j (2 * nd + 1)
      omega
theorem high_child {nd : Int} {j : Nat} (h : (nd + 1) * 2 ^ (j + 1) ≤ 100) : (2 * nd + 1) * 2 ^ j ≤ 100 := by
  have e : (nd + 1) * 2 ^ (j + 1) = (2 * nd + 1) * 2 ^ j + 2 ^ j := by
    rw [Int.pow_succ]
    generalize (2 : Int) ^ j = q
    rw [Int.add_mul, Int.add_mul, Int.one_mul, Int.mul_comm q 2, ← Int.mul_assoc, Int.mul_comm nd 2, Int.one_mul]
    omega
  have : (0 : Int) ≤ 2 ^ j := Int.pow_nonneg (by omega)
  omega
theorem high_child' {nd : Int} {j : Nat} (h : (nd + 1) * 2 ^ (j + 1) ≤ 100) : (2 * nd + 1 + 1) * 2 ^ j ≤ 100 := by
  have e : (nd + 1) * 2 ^ (j + 1) = (2 * nd + 1 + 1) * 2 ^ j := by
    rw [Int.pow_succ, Int.mul_comm ((2 : Int) ^ j) 2, ← Int.mul_assoc]
    congr 1
    omega
  omega
theorem pow_le_8 {j : Nat} (h : j ≤ 3) : 2 ^ j ≤ 8 := by
  have := Nat.pow_le_pow_right (n := 2) (by omega) h
  omega
theorem highest_step {w : World} {mean : ExcName → Option Value} {mg mb : Str → Option Value} (l : Addr) (vs : List Value) (n : Nat) (ns : List Int) (hv : IntsAre vs ns) (hnl : ns.length ≤ 1000) (j : Nat) (hj : j ≤ 3) (ih : ∀ j', j' < j → HighSays w mean mg mb l vs n ns j') : HighSays w mean mg mb l vs n ns j := by
  intro nd ht t u hht h2 h3
  subst hht
  unfold Does
  intro dp un fr gd s hB Q E X T kB hn ha hdp hun ret
  w_on
  (revert X; k_fill; intro X)
  k_dflt (refine' enterC [(l, listOf vs.toArray n)] (binds := [(Str.ofString "lowest", .ref l), (Str.ofString "node", .int nd t), (Str.ofString "height", .int (j : Int) u)]) ?k1 ?k2 ?ka ?kb ?kc ?k3 ?k4 ?k5 ?k6 ?k7 ?k8 ?_ ?c2 ?c3 ?c4; (case k1 => k_asm); (case k2 => k_asm); (case ka => k_asm); (case kb => k_asm); (case kc => k_asm); (case k3 => k_is); (case k4 => k_is); (case k5 => (dsimp only [Ar, Around.deeper, Around.in1]; omega)); (case k6 => exact BindsTo.of_eq rfl); (case k7 => exact rfl); (case k8 => decide +kernel); (case c2 => exact rfl); (case c3 => exact rfl); (case c4 => exact rfl); k_whole)
  intro L' h' tk' cells' X' T' F' N' Y' l1
  (try k_lt l1)
  k_cells Y'
  (try simp only [List.cons_append, List.nil_append] at N')
  (try dsimp only)
  (try k_fold)
  have hp8 := pow_le_8 hj
  have hpI : (2 : Int) ^ (j : Int).toNat = ((2 ^ j : Nat) : Int) := by rw [Int.toNat_natCast]; exact (Int.natCast_pow 2 j).symm
  have hpI' : (2 : Int) ^ j = ((2 ^ j : Nat) : Int) := (Int.natCast_pow 2 j).symm
  have hp0 : 0 ≤ ((2 ^ j : Nat) : Int) := Int.natCast_nonneg _
  have hp8' : ((2 ^ j : Nat) : Int) ≤ 8 := Int.ofNat_le.mpr hp8
  have hmul : nd * ((2 ^ j : Nat) : Int) ≤ 100 := by
    rw [hpI', Int.add_mul, Int.one_mul] at h3
    omega
  have hmul0 : 0 ≤ nd * ((2 ^ j : Nat) : Int) := Int.mul_nonneg h2 hp0
  k_steps
  unfold Hold
  refine lc_free (cl := [(Str.ofString "lowest", L' + 1)]) (intP fun i => !(ns.contains i)) (fun v y => y = v) (by rfl) (by decide) rfl (by decide) rfl ?_ (by intro _; rfl)
  k_steps
  (try dsimp only)
  refine' comp_range (k := 2 ^ j) _ _ ?kh ?kF ?kN ?kR ?_ ?_ ?_ ?_ ?_ ?_ ?_
  (case kh => exact rfl)
  (case kF => k_asm)
  (case kN => k_asm)
  (case kR => k_asm)
  · rw [hpI]
  · omega
  · rw [hpI]; exact hmul0
  · rw [hpI]; omega
  · intro C s₃ i tv m₃ E' hi F₃ N₃ k₃
    dsimp only at F₃ N₃ k₃
    have X₃ := Frag.In.keeps X' k₃
    have T₃ := T'.keeps k₃
    refine tests1 ?_
    k_steps
    · show (!ns.any fun x => x == _) = !(ns.contains _)
      rw [any_contains]
    · exact keeps_refl _
  · intro C s₃ i tv m₃ E' hi hp F₃ N₃ k₃
    dsimp only at F₃ N₃ k₃
    have X₃ := Frag.In.keeps X' k₃
    have T₃ := T'.keeps k₃
    k_steps
    exact keeps_refl _
  · intro D n' us ws h₄ tk₄ hus hpair F₄ N₄ hne
    obtain rfl := paired_eq hpair
    have hi₄ := ints_filter (fun i => !(ns.contains i)) hus
    rw [hpI, ← hpI'] at hus hi₄
    have hlf : (List.range (2 ^ j)).map (fun (i : Nat) => nd * 2 ^ j + (i : Int)) = leafs j nd := rfl
    rw [hlf] at hi₄
    clear hpair hus
    dsimp only
    k_steps
    · (rename News _ _ _ _ => NE)
      (rename Fr _ _ _ _ => FE)
      have hfr := new_out NE (List.Mem.head _) (fun p hp => by simp only [List.mem_cons, List.not_mem_nil, or_false] at hp; subst hp; refine neN ?_; dsimp only; omega)
      refine ret _ _ _ (kp_out FE NE (fun p hp => by simp only [List.mem_cons, List.not_mem_nil, or_false] at hp ⊢; simp only [hp, true_or, or_true]) ha) ⟨_, [.int nd t], _, rfl, hfr, News.get NE (List.Mem.head _), ?_⟩
      rw [highF_1 (of_decide_eq_true (by assumption))]
      exact .cons nd t .nil
    · have hj0 : j = 0 := by omega
      subst hj0
      (rename News _ _ _ _ => NE)
      (rename Fr _ _ _ _ => FE)
      have hfr := new_out NE (List.Mem.head _) (fun p hp => by simp only [List.mem_cons, List.not_mem_nil, or_false] at hp; subst hp; refine neN ?_; dsimp only; omega)
      refine ret _ _ _ (kp_out FE NE (fun p hp => by simp only [List.mem_cons, List.not_mem_nil, or_false] at hp ⊢; simp only [hp, true_or, or_true]) ha) ⟨_, [], _, rfl, hfr, News.get NE (List.Mem.head _), ?_⟩
      rw [highF_2 (of_decide_eq_false (by assumption))]
      exact .nil
    · obtain ⟨j', rfl⟩ : ∃ j', j = j' + 1 := ⟨j - 1, by omega⟩
      have e1 : ((j' + 1 : Nat) : Int) - 1 = (j' : Int) := by omega
      refine' Does.useL (ih j' (by omega) (2 * nd) _ _ _ e1 (by omega) ?g1) ?gF ?gN ?gX ?gT ?gs ?gd ?gu ?_
      (case gF => k_asm)
      (case gN => k_asm)
      (case gX => k_asm)
      (case gT => k_asm)
      (case g1 => exact high_child (by assumption))
      (case gs => exact fun p hp => by simp only [List.mem_cons, List.not_mem_nil, or_false] at hp ⊢; simp only [hp, true_or, or_true])
      (case gd => (dsimp only [Ar, Around.deeper, Around.in1]; omega))
      (case gu => (dsimp only [Ar, Around.deeper, Around.in1]; omega))
      intro l₁ ws₁ n₁ h₁ tk₁ hw₁ F₁ N₁ hne₁
      dsimp only
      k_steps
      refine' Does.useL (ih j' (by omega) (2 * nd + 1) _ _ _ e1 (by omega) ?g1) ?gF ?gN ?gX ?gT ?gs ?gd ?gu ?_
      (case gF => k_asm)
      (case gN => k_asm)
      (case gX => k_asm)
      (case gT => k_asm)
      (case g1 => exact high_child' (by assumption))
      (case gs => exact fun p hp => by simp only [List.mem_cons, List.not_mem_nil, or_false] at hp ⊢; simp only [hp, true_or, or_true])
      (case gd => (dsimp only [Ar, Around.deeper, Around.in1]; omega))
      (case gu => (dsimp only [Ar, Around.deeper, Around.in1]; omega))
      intro l₂ ws₂ n₂ h₂ tk₂ hw₂ F₂ N₂ hne₂
      dsimp only
      k_steps
      refine add_lists (s := { heap := h₂, gens := s.gens, drawn := s.drawn, toks := tk₂, os := s.os }) (vs := ws₁) (ws := ws₂) F₂ N₂ (at_list N₂ (List.Mem.tail _ (List.Mem.head _))) (at_list N₂ (List.Mem.head _)) (fun h₃ F₃ N₃ => ?_) ?_
      · have hfr := new_out N₃ (List.Mem.head _) (fun p hp => by
          simp only [List.mem_cons, List.not_mem_nil, or_false] at hp; subst hp
          exact Nat.ne_of_lt (Heap.lt_size (N₂.get (o := listOf vs.toArray n) (by k_mem))))
        refine ret _ _ _ (kp_out F₃ N₃ (fun p hp => by simp only [List.mem_cons, List.not_mem_nil, or_false] at hp ⊢; simp only [hp, true_or, or_true]) ha) ⟨_, ws₁ ++ ws₂, _, rfl, hfr, News.get N₃ (List.Mem.head _), ?_⟩
        rw [highF_3 (of_decide_eq_false (by assumption))]
        exact hw₁.append hw₂
      · have q1 := highF_len ns j' (2 * nd)
        have q2 := highF_len ns j' (2 * nd + 1)
        rw [hw₁.length, hw₂.length, sizeLine_eq]
        have q3 := pow_le_8 (j := j') (by omega)
        omega

theorem highest_ok {w : World} {mean : ExcName → Option Value} {mg mb : Str → Option Value} (l : Addr) (vs : List Value) (n : Nat) (ns : List Int) (hv : IntsAre vs ns) (hnl : ns.length ≤ 1000) : ∀ j, j ≤ 3 → HighSays w mean mg mb l vs n ns j := by
  intro j
  induction j using Nat.strongRecOn with
  | ind j ih => exact fun hj => highest_step l vs n ns hv hnl j hj fun j' h => ih j' h (by omega)
end
section
/-- a loop over a name, its source reckoned (a name of any kind: a cell's too) -/
noncomputable def ForAt (prog : Program) (w : World) (A : Around) (env : Env) (x : Str) (px : Pos) (body : List Stmt) (Q : Flow → Shared → Prop) (xv : Value) (s₁ : Shared) : Prop :=
  wpAny (model prog w) A (pyIter xv) (fun it s₂ => codeAny (model prog w) A (.forLoop (.Name x px) it body [] env) (fun r s' => match r with | .ok f => Q f s' | .error _ => False) s₂) (fun _ _ => False) s₁
section
variable {prog : Program} {w : World} {A : Around} {s : Shared} {env : Env} {h₀ : Heap} {L : Addr} {x : Str} {px : Pos} {body : List Stmt} {Q : Flow → Shared → Prop}
theorem for_in {E : Value → Shared → Prop} {iter : Expr} {pos : Pos} (h : wpAny (model prog w) A (eval iter env) (fun xv s₁ => ForAt prog w A env x px body Q xv s₁) E s) (hs : ∀ x, foldedSetIterable iter env x = pure x) :
    wpAny (model prog w) A (exec (.For (.Name x px) iter body [] pos) env) Q E s :=
  wpAny_For (wpAny_mono h (fun xv s₁ h₁ => wpAny_mono h₁ (fun it s₂ h₂ => codeAny_mono h₂ fun r s' hr => by
    cases r with
    | ok f => exact hr
    | error e => exact hr.elim) fun _ _ x => x.elim) fun _ _ e => e) hs
theorem for_at {l : Addr} {vs : List Value} {nn : Nat} {m₀ : Str → Option Value} {news : List (Addr × Obj)} (J : Nat → (Str → Option Value) → List (Addr × Obj) → Prop)
    (hh : A.handled = none) (hl : (l, listOf vs.toArray nn) ∈ news) (F : Fr h₀ L s.heap m₀) (N : News h₀ L s.heap news) (hj : J 0 m₀ news)
    (turn : ∀ i v m₁ news₁ h tk own, vs[i]? = some v → OwnOff own (news₁.map (·.1)) → (l, listOf vs.toArray nn) ∈ news₁ → J i m₁ news₁ → Fr h₀ L h m₁ → News h₀ L h (news₁ ++ own) →
      wpAny (model prog w) A (storeName env x v) (fun _ s₂ => wpAny (model prog w) A (execs body env) (InvPostG h₀ L (fun m' nx => (l, listOf vs.toArray nn) ∈ nx ∧ J (i + 1) m' nx) own { s with heap := h, toks := tk } Q) (fun _ _ => False) s₂) (fun _ _ => False) { s with heap := h, toks := tk })
    (done : ∀ m₁ news₁ h tk, J vs.length m₁ news₁ → Fr h₀ L h m₁ → News h₀ L h news₁ → (l, listOf vs.toArray nn) ∈ news₁ → Q .next { s with heap := h, toks := tk }) :
    ForAt prog w A env x px body Q (.ref l) s := by
  unfold ForAt
  have hol : s.heap.get? l = some (listOf vs.toArray nn) := (N _ hl).1
  have hls : s.heap.IsList l vs.toArray := ⟨_, hol, rfl, nn, rfl⟩
  refine wpAny_pyIter_list hls ?_
  generalize hI : s.heap.objs.size = I
  have hIL : L ≠ I := by rw [← hI]; exact Nat.ne_of_lt F.ns.lt
  have hI0 : h₀.get? I = none := by rw [← hI]; exact next_is_new F
  let Inv : Nat → Shared → Prop := fun n s' => ∃ i h tk m₁ news₁, n = vs.length - i ∧ i ≤ vs.length ∧ s' = { s with heap := h, toks := tk } ∧ h.IsListIter I l i ∧ (l, listOf vs.toArray nn) ∈ news₁ ∧ (∀ p ∈ news₁, p.1 ≠ I) ∧ J i m₁ news₁ ∧ Fr h₀ L h m₁ ∧ News h₀ L h news₁
  refine codeAny_forLoop_any Inv ?_ (vs.length - 0) ⟨0, _, s.toks, m₀, news, rfl, Nat.zero_le _, rfl, ?_, hl, ?_, hj, F.push _, fun p hp => ⟨Heap.get?_push_of_some _ (N p hp).1, (N p hp).2⟩⟩
  · rintro n s' ⟨i, h, tk, m₁, news₁, rfl, hi, rfl, hit, hl₁, hne, hJ, F₁, N₁⟩
    have hol₁ : h.get? l = some (listOf vs.toArray nn) := (N₁ _ hl₁).1
    have hls₁ : h.IsList l vs.toArray := ⟨_, hol₁, rfl, nn, rfl⟩
    by_cases hlt : i < vs.length
    · refine wpAny_pyNext_list_item (s := { s with heap := h, toks := tk }) hit hls₁ (x := vs[i]) (by simp [hlt]) fun h' hit' hs' => ?_
      dsimp only
      refine wpAny_pure ?_
      obtain ⟨oI, hoI, hoI'⟩ := id hit'
      have F₂ : Fr h₀ L h' m₁ := ⟨F₁.ns.sameBut hs' hIL, fun b o e => (hs'.2 b (fun q => by rw [q, hI0] at e; cases e)).trans (F₁.keep b o e), F₁.above⟩
      have N₂ : News h₀ L h' (news₁ ++ [(I, oI)]) := by
        intro p hp
        rcases List.mem_append.mp hp with hp | hp
        · exact ⟨(hs'.2 p.1 (hne p hp)).trans (N₁ p hp).1, (N₁ p hp).2⟩
        · rw [List.mem_singleton.mp hp]; exact ⟨hoI, Ne.symm hIL, hI0⟩
      have hoff : OwnOff [(I, oI)] (news₁.map (·.1)) := by
        intro p hp b hb e
        rw [List.mem_singleton.mp hp] at e
        obtain ⟨q, hq, rfl⟩ := List.mem_map.mp hb
        exact hne q hq e.symm
      refine wpAny_assign_Name (wpAny_mono (turn i vs[i] m₁ news₁ h' tk [(I, oI)] (by simp [hlt]) hoff hl₁ hJ F₂ N₂) (fun _ s₂ h₂ => wpAny_mono h₂ (fun f s₃ h₃ => ?_) fun _ _ x => x.elim) fun _ _ x => x.elim)
      have fin : InvEndG h₀ L (fun m' nx => (l, listOf vs.toArray nn) ∈ nx ∧ J (i + 1) m' nx) [(I, oI)] { s with heap := h', toks := tk } s₃ → ∃ m, m < vs.length - i ∧ Inv m s₃ := by
        rintro ⟨h'', tk'', m', news', nx, rfl, F₃, N₃, hn, ho, ha, hl₂, hJ'⟩
        refine ⟨vs.length - (i + 1), by omega, i + 1, h'', tk'', m', nx, rfl, hlt, rfl, ⟨oI, (N₃ _ (ho _ (List.mem_singleton.mpr rfl))).1, hoI'⟩, hl₂, fun p hp e => ?_, hJ', F₃, fun p hp => N₃ p (hn p hp)⟩
        exact ha (I, oI) (List.mem_singleton.mpr rfl) p.1 (List.mem_map.mpr ⟨p, hp, rfl⟩) e.symm
      cases f with
      | ret v => exact h₃
      | brk => exact h₃
      | next => exact fin h₃
      | cont => exact fin h₃
    · have e : i = vs.length := by omega
      subst e
      refine wpAny_pyNext_list_end (s := { s with heap := h, toks := tk }) hh hit hls₁ (by simp) fun h' hs' => ?_
      dsimp only
      refine wpAny_execs_nil ?_
      have F₂ : Fr h₀ L h' m₁ := ⟨F₁.ns.at' fun o e => hs' _ o hIL e, fun b o e => hs' b o (fun q => by rw [q, hI0] at e; cases e) (F₁.keep b o e), F₁.above⟩
      exact done m₁ news₁ h' tk hJ F₂ (fun p hp => ⟨hs' _ _ (hne p hp) (N₁ p hp).1, (N₁ p hp).2⟩) hl₁
  · exact ⟨_, by rw [← hI]; exact Heap.get?_push_size _ rfl, rfl, rfl⟩
  · intro p hp e
    have := Heap.lt_size (N p hp).1
    rw [e, hI] at this
    exact Nat.lt_irrefl _ this
end
end
section
section
variable {w : World} {mean : ExcName → Option Value} {mg mb : Str → Option Value} {dp un : Nat} {fr : Option (List Env)} {gd : Option (List Code)} {s : Shared} {Q E : Value → Shared → Prop}
  {h₀ : Heap} {L : Addr} {m : Str → Option Value} {news : List (Addr × Obj)}
    (F : Fr h₀ L s.heap m) (N : News h₀ L s.heap news) (X : (Mine.hd.heap_39 w.params).In h₀) (T : Top Mine.hd.view_39 (looseW Mine.hd.view_39 [Str.ofString "IPV4_RE"]) mean mg mb h₀)
include F N X T
theorem dirname_at (hdp : dp + 4 < recursionLimit) {x : Str} {t : Tok} (hx : x.length ≤ 100) (ret : ∀ t' h' tk', Fr h₀ L h' m → News h₀ L h' news → Q (.str (dirF x) t') { s with heap := h', toks := tk' }) :
    wpAny (model PySem.Challenge.rw_pd0169_01.row.prog w) (Ar dp un fr gd) (call (.ref 158) [.str x t]) Q E s :=
  dirname_ok (X.keeps F.keep) (T.keeps F.keep) hdp x t (by omega) fun t' h' tk' k => ret t' h' tk' (fr_keep F k) (news_keep N k)
end
/-- the lowest place above both -/
noncomputable def lcaF : Nat → Nat → Nat → Nat
  | 0, _, _ => 0
  | f + 1, a, b => if a = b then a else if b < a then lcaF f (a / 2) b else lcaF f a (b / 2)
noncomputable abbrev lca (a b : Nat) : Nat := lcaF 8 a b
theorem lca_le (a b : Nat) (h1 : 1 ≤ a) (h2 : a ≤ 15) (h3 : 1 ≤ b) (h4 : b ≤ 15) : lca a b ≤ 15 := by
  have : ∀ a, a < 16 → ∀ b, b < 16 → lca a b ≤ 15 := by decide
  exact this a (by omega) b (by omega)
/-- the texts of the tree's places -/
structure Tree (tx : Nat → Str) : Prop where
  len : ∀ a, a ≤ 15 → (tx a).length ≤ 100
  dir : ∀ a, 1 ≤ a → a ≤ 15 → dirF (tx a) = tx (a / 2)
  inj : ∀ a b, a ≤ 15 → b ≤ 15 → tx a = tx b → a = b
noncomputable def Nodes (ns : List Nat) : Prop := ∀ a ∈ ns, 1 ≤ a ∧ a ≤ 15
noncomputable def putN : Nat → List Nat → Nat → List Nat
  | 0, ns, _ => ns
  | f + 1, ns, b => if ns.any (fun o => lca o b == o) then ns else
    match (ns.filter fun o => lca o b != b).find? (fun o => o / 2 == b / 2) with
    | some o => putN f ((ns.filter fun o => lca o b != b).filter (· != o)) (b / 2)
    | none => (ns.filter fun o => lca o b != b) ++ [b]
theorem putN_1 {f : Nat} {ns : List Nat} {a b : Nat} (h : a ∈ ns) (e : (lca a b == a) = true) : putN (f + 1) ns b = ns := by
  unfold putN
  rw [if_pos ((List.any_eq_true (p := fun o => lca o b == o)).mpr ⟨a, h, e⟩)]
theorem put_no {ns : List Nat} {i a b : Nat} (h : ∀ o ∈ ns.take i, (lca o b == o) = false) (ha : ns[i]? = some a) (e : (lca a b == a) = false) : ∀ o ∈ ns.take (i + 1), (lca o b == o) = false := by
  intro o ho
  rw [List.take_add_one, ha] at ho
  rcases List.mem_append.mp ho with ho | ho
  · exact h o ho
  · have q : o = a := by simpa using ho
    rw [q]; exact e
theorem beq_tx {tx : Nat → Str} (Tr : Tree tx) {a b : Nat} (_ha : a ≤ 15) (_hb : b ≤ 15) (h : (tx a == tx b) = false) : (a == b) = false := by
  rw [beq_eq_false_iff_ne] at h ⊢
  intro q
  exact h (by rw [q])
theorem find_at {p : Nat → Bool} : ∀ {l : List Nat} {i a : Nat}, (∀ o ∈ l.take i, p o = false) → l[i]? = some a → p a = true → l.find? p = some a
  | [], i, a, _, ha, _ => by simp at ha
  | x :: l, 0, a, _, ha, hp => by
    have e : x = a := by simpa using ha
    subst e
    rw [List.find?_cons_of_pos hp]
  | x :: l, i + 1, a, h, ha, hp => by
    rw [List.find?_cons_of_neg (by rw [h x (by simp)]; exact Bool.false_ne_true)]
    exact find_at (i := i) (fun o ho => h o (by simp [ho])) (by simpa using ha) hp
theorem any_no {ns : List Nat} {b : Nat} (h : ∀ o ∈ ns, (lca o b == o) = false) : ¬ (ns.any (fun o => lca o b == o)) = true := by
  rw [List.any_eq_true]
  rintro ⟨x, hx, e⟩
  rw [h x hx] at e
  cases e
theorem putN_2 {f : Nat} {ns left : List Nat} {a b : Nat} (h : ∀ o ∈ ns, (lca o b == o) = false) (hl : (ns.filter fun o => lca o b != b) = left) (hf : left.find? (fun o => o / 2 == b / 2) = some a) : putN (f + 1) ns b = putN f (left.filter (· != a)) (b / 2) := by
  conv => lhs; unfold putN
  rw [if_neg (any_no h), hl, hf]
theorem putN_3 {f : Nat} {ns left : List Nat} {b : Nat} (h : ∀ o ∈ ns, (lca o b == o) = false) (hl : (ns.filter fun o => lca o b != b) = left) (hf : left.find? (fun o => o / 2 == b / 2) = none) : putN (f + 1) ns b = left ++ [b] := by
  conv => lhs; unfold putN
  rw [if_neg (any_no h), hl, hf]
theorem left_less {ns left : List Nat} {a b : Nat} (hl : (ns.filter fun o => lca o b != b) = left) (ha : a ∈ left) : (left.filter (· != a)).length < ns.length := by
  have h1 : left.length ≤ ns.length := by rw [← hl]; exact List.length_filter_le ..
  have h2 : (left.filter (· != a)).length < left.length := by
    refine Nat.lt_of_le_of_ne (List.length_filter_le ..) fun e => ?_
    have := (List.length_filter_eq_length_iff.mp e) a ha
    simp at this
  omega
theorem putN_fuel : ∀ (f g : Nat) (ns : List Nat) (b : Nat), ns.length < f → ns.length < g → putN f ns b = putN g ns b
  | 0, _, _, _, h, _ => by omega
  | _, 0, _, _, _, h => by omega
  | f + 1, g + 1, ns, b, h1, h2 => by
    unfold putN
    split
    · rfl
    · split
      · rename_i o ho
        have hm := List.mem_of_find?_eq_some ho
        have := left_less (a := o) rfl hm
        exact putN_fuel f g _ _ (by omega) (by omega)
      · rfl
noncomputable abbrev strP (q : Str → Bool) : Value → Bool := fun v => match v with | .str y _ => q y | _ => false
theorem strs_filter (q : Str → Bool) : ∀ {us : List Value} {ns : List Str}, StrsAre us ns → StrsAre (us.filter (strP q)) (ns.filter q)
  | _, _, .nil => .nil
  | _, _, .cons n t h => by
    have ih := strs_filter q h
    cases e : q n with
    | true =>
      rw [List.filter_cons_of_pos (by exact e), List.filter_cons_of_pos e]
      exact .cons n t ih
    | false =>
      rw [List.filter_cons_of_neg (by show ¬ q n = true; rw [e]; exact Bool.false_ne_true), List.filter_cons_of_neg (by rw [e]; exact Bool.false_ne_true)]
      exact ih
theorem strs_mem {us : List Value} {ns : List Str} (h : StrsAre us ns) {v : Value} (hv : v ∈ us) : ∃ y t, v = .str y t ∧ y ∈ ns := by
  obtain ⟨i, hi⟩ := List.mem_iff_getElem?.mp hv
  obtain ⟨y, t, e, q⟩ := strsAre_get h i v hi
  exact ⟨y, t, e, List.mem_of_getElem? q⟩
theorem tx_filter {tx : Nat → Str} (Tr : Tree tx) {a : Nat} (ha : a ≤ 15) : ∀ {l : List Nat}, (∀ o ∈ l, o ≤ 15) → (l.map tx).filter (fun y => y != tx a) = (l.filter (· != a)).map tx
  | [], _ => rfl
  | x :: l, h => by
    have ih := tx_filter Tr ha (l := l) fun o ho => h o (List.mem_cons_of_mem _ ho)
    have hx := h x (List.Mem.head _)
    rw [List.map_cons]
    by_cases e : x = a
    · subst e
      rw [List.filter_cons_of_neg (by simp), List.filter_cons_of_neg (by simp), ih]
    · have e2 : tx x ≠ tx a := fun q => e (Tr.inj _ _ hx ha q)
      rw [List.filter_cons_of_pos (by simpa using e2), List.filter_cons_of_pos (by simpa using e), ih, List.map_cons]
/-- commonpath upon the places' texts -/
noncomputable def ComSays (w : World) (mean : ExcName → Option Value) (mg mb : Str → Option Value) (tx : Nat → Str) : Prop :=
  ∀ a b, 1 ≤ a → a ≤ 15 → 1 ≤ b → b ≤ 15 → ∀ (l : Addr) (n : Nat) (t u : Tok), Does w mean mg mb 163 [.ref l] [(l, listOf [Value.str (tx a) t, Value.str (tx b) u].toArray n)] 20 (fun _ v _ => ∃ t', v = .str (tx (lca a b)) t')




local macro_rules | `(tactic| walk_at "exec For Name Name cons nil") => `(tactic| (k_here; refine hold_in ?_))
local macro_rules | `(tactic| walk_at "pyIter ref") => `(tactic| (k_here; refine hold_in ?_))

local macro_rules | `(tactic| walk_at "eval Name") => `(tactic| (k_here; (with_reducible show wpAny _ _ (eval (Expr.Name _ _) (compEnvC _ _ _ _)) _ _ _); k_dflt (refine' nameB_L (by k_asm) (by exact rfl) ?_ (by exact rfl) (by exact rfl) (by decide); k_whole)))
local macro_rules | `(tactic| walk_at "eval Name") => `(tactic| (k_here; (with_reducible show wpAny _ _ (eval (Expr.Name _ _) (compEnvC _ _ _ _)) _ _ _); k_dflt (refine' nameB_C (by k_asm) (by exact rfl) (by k_mem) (by k_asm) ?_ (by exact rfl) (by exact rfl) (by decide); k_whole)))

local macro_rules | `(tactic| walk_at "eval ListComp") => `(tactic| (k_here; refine hold_in ?_))

local macro_rules | `(tactic| walk_at "call builtin:list.append") => `(tactic| (k_here; k_dflt (refine' append_K (by k_asm) (by k_asm) (by k_upd) ?_ (by (simp only [List.size_toArray]; rw [sizeLine_eq]; omega)); k_whole); intro h' F' N'; (try dsimp only); (try k_sweep)))
local macro_rules | `(tactic| walk_at "storeName") => `(tactic| (k_here; k_dflt (refine' storeX_C (by k_asm) (by k_asm) (by rfl) (by k_updF) (by k_asm) ?_ (by rfl) (by rfl); k_whole); intro h' o' F' N' d'; (try dsimp only at N'); (try dsimp only)))
local macro_rules | `(tactic| k_all) => `(tactic| (refine OwnOff.ne (by assumption) ?_; k_mem))
local macro_rules | `(tactic| walk_at "call ref") => `(tactic| (k_here; (with_reducible show wpAny _ _ (call (Value.ref 158) _) _ _ _); k_dflt (refine' dirname_at (by k_asm) (by k_asm) (by k_asm) (by k_asm) (by (dsimp only [Ar, Around.deeper, Around.in1]; omega)) (by k_asm) ?_; k_whole); intro t' h' tk' F' N'; (try dsimp only); (try k_sweep)))

noncomputable def PutSays (w : World) (mean : ExcName → Option Value) (mg mb : Str → Option Value) (tx : Nat → Str) (k : Nat) : Prop :=
  ∀ (ns : List Nat) (b : Nat), ns.length = k → Nodes ns → 1 ≤ b → b ≤ 15 → ∀ (l : Addr) (vs : List Value) (n : Nat) (t : Tok), StrsAre vs (ns.map tx) →
    Does w mean mg mb 189 [.ref l, .str (tx b) t] [(l, listOf vs.toArray n)] (40 + 2 * k) (fun h v h' => ∃ l' ws n', v = .ref l' ∧ ((l', listOf (List.toArray ws) n') = (l, listOf vs.toArray n) ∨ h.get? l' = none) ∧ h'.get? l' = some (listOf (List.toArray ws) n') ∧ StrsAre ws ((putN (k + 1) ns b).map tx))
theorem put_step {w : World} {mean : ExcName → Option Value} {mg mb : Str → Option Value} {tx : Nat → Str} (Tr : Tree tx) (hcom : ComSays w mean mg mb tx) (k : Nat) (hk : k ≤ 20) (ih : ∀ k', k' < k → PutSays w mean mg mb tx k') : PutSays w mean mg mb tx k := by
  intro ns b hlen hns hb1 hb2 l vs n t hv
  unfold Does
  intro dp un fr gd s hB Q E X T kB hn ha hdp hun ret
  w_on
  (revert X; k_fill; intro X)
  k_dflt (refine' enterC [(l, listOf vs.toArray n)] (binds := [(Str.ofString "kept", .ref l), (Str.ofString "path", .str (tx b) t)]) ?k1 ?k2 ?ka ?kb ?kc ?k3 ?k4 ?k5 ?k6 ?k7 ?k8 ?_ ?c2 ?c3 ?c4; (case k1 => k_asm); (case k2 => k_asm); (case ka => k_asm); (case kb => k_asm); (case kc => k_asm); (case k3 => k_is); (case k4 => k_is); (case k5 => (dsimp only [Ar, Around.deeper, Around.in1]; omega)); (case k6 => exact BindsTo.of_eq rfl); (case k7 => exact rfl); (case k8 => decide +kernel); (case c2 => exact rfl); (case c3 => exact rfl); (case c4 => exact rfl); k_whole)
  intro L' h' tk' cells' X' T' F' N' Y' l1
  (try k_lt l1)
  k_cells Y'
  (try simp only [List.cons_append, List.nil_append] at N')
  (try dsimp only)
  (try k_fold)
  have hbl := Tr.len b hb2
  replace F' : Fr (hid s.heap [(l, listOf vs.toArray n)]) L' h' (fun y => if y = Str.ofString "path" then some (.str (tx b) t) else if y = Str.ofString "kept" then some (.ref l) else none) := F'
  (rename (_ = Data.cell _) => dC)
  k_steps
  unfold Hold
  refine for_in ?_ (by intro _; rfl)
  k_steps
  refine' for_at (fun i m₁ news₁ => ∃ lf u o ws n' c, (m₁ = fun z => if z = Str.ofString "both" then u else if z = Str.ofString "left" then some (.ref lf) else if z = Str.ofString "path" then some (.str (tx b) t) else if z = Str.ofString "kept" then some (.ref l) else none) ∧
      news₁ = [(lf, listOf (List.toArray ws) n'), (L' + 1, o), (l, listOf vs.toArray n)] ∧ o.data = .cell c ∧ @LT.lt Nat _ (L' + 1) lf ∧ StrsAre ws (((ns.take i).filter fun o => lca o b != b).map tx) ∧ ∀ o ∈ ns.take i, (lca o b == o) = false) ?fh ?fl ?fF ?fN ?fj ?_ ?_
  (case fh => exact rfl)
  (case fF => k_asm)
  (case fN => k_asm)
  (case fl => k_mem)
  (case fj => (refine ⟨_, _, _, [], _, _, map_first, rfl, dC, ?_, by simpa using StrsAre.nil, by simp⟩; refine ltN ?_; omega))
  · rintro i v m₁ news₁ h tk own hvi hoff hl₁ ⟨lf, u, o, ws, n', c, rfl, rfl, ho, hlf, hws, hno⟩ F₁ N₁
    obtain ⟨y, ty, rfl, hy⟩ := strsAre_get hv i v hvi
    obtain ⟨a, ha', rfl⟩ : ∃ a, ns[i]? = some a ∧ tx a = y := by
      rw [List.getElem?_map] at hy
      cases e : ns[i]? with
      | none => rw [e] at hy; cases hy
      | some a => rw [e] at hy; exact ⟨a, rfl, by simpa using hy⟩
    have hmem : a ∈ ns := List.mem_of_getElem? ha'
    obtain ⟨ha1, ha2⟩ := hns a hmem
    have hal := Tr.len a ha2
    simp only [List.cons_append, List.nil_append] at N₁
    simp only [List.map_cons, List.map_nil] at hoff
    k_steps
    refine' Does.use (hcom a b ha1 ha2 hb1 hb2 _ _ _ _) ?gF ?gN ?gX ?gT ?gs ?gd ?gu ?_
    (case gF => k_asm)
    (case gN => k_asm)
    (case gX => k_asm)
    (case gT => k_asm)
    (case gs => exact fun p hp => by rw [List.mem_singleton.mp hp]; exact List.Mem.head _)
    (case gd => (dsimp only [Ar, Around.deeper, Around.in1]; omega))
    (case gu => (dsimp only [Ar, Around.deeper, Around.in1]; omega))
    rintro v₅ h₅ tk₅ F₅ N₅ k₅ ⟨t₅, rfl⟩
    dsimp only
    have hcl := Tr.len (lca a b) (lca_le a b ha1 ha2 hb1 hb2)
    have hwl : ws.length ≤ 20 := by
      rw [strsAre_len hws, List.length_map]
      have := List.length_filter_le (fun o => lca o b != b) (ns.take i)
      have := List.length_take_le' i ns
      omega
    k_steps
    · (rename News _ _ _ _ => NE)
      (rename Fr _ _ _ _ => FE)
      have e : lca a b = a := Tr.inj _ _ (lca_le a b ha1 ha2 hb1 hb2) ha2 (eq_of_beq (by assumption))
      refine ret _ _ _ (kp_out FE NE (fun p hp => by rw [List.mem_singleton.mp hp]; k_mem) ha) ⟨l, vs, n, rfl, .inl rfl, News.get NE (by k_mem), ?_⟩
      rw [putN_1 hmem (by simp [e])]
      exact hv
    · (rename News _ _ _ _ => NE)
      (rename Fr _ _ _ _ => FE)
      rw [List.push_toArray] at NE
      rw [map_again] at FE
      refine InvEndG.intro FE NE ⟨by k_mem, lf, _, _, _, _, _, rfl, rfl, by assumption, hlf, ?_, ?_⟩ hoff (fun p hp => by simp only [List.mem_cons, List.not_mem_nil, or_false] at hp; rcases hp with rfl | rfl | rfl <;> k_mem) (fun p hp => by simp only [List.mem_cons]; simp only [hp, or_true])
      · have e2 : (lca a b != b) = true := by
          rw [bne_iff_ne]; intro q
          have e3 : (tx (lca a b) != tx b) = true := by assumption
          rw [q, bne_self_eq_false] at e3; cases e3
        rw [List.take_add_one, ha', List.filter_append, List.map_append]
        refine strsAre_append hws ?_
        simp only [Option.toList, List.filter_cons, e2, if_true, List.filter_nil, List.map_cons, List.map_nil]
        exact .cons _ _ .nil
      · exact put_no hno ha' (beq_tx Tr (lca_le a b ha1 ha2 hb1 hb2) ha2 (by assumption))
    · (rename News _ _ _ _ => NE)
      (rename Fr _ _ _ _ => FE)
      rw [map_again] at FE
      refine InvEndG.intro FE NE ⟨by k_mem, lf, _, _, _, _, _, rfl, rfl, by assumption, hlf, ?_, ?_⟩ hoff (fun p hp => by simp only [List.mem_cons, List.not_mem_nil, or_false] at hp; rcases hp with rfl | rfl | rfl <;> k_mem) (fun p hp => by simp only [List.mem_cons]; simp only [hp, or_true])
      · have e2 : (lca a b != b) = false := by
          have e3 : (tx (lca a b) != tx b) = false := by assumption
          have e4 : tx (lca a b) = tx b := by simpa using e3
          rw [Tr.inj _ _ (lca_le a b ha1 ha2 hb1 hb2) hb2 e4, bne_self_eq_false]
        rw [List.take_add_one, ha', List.filter_append, List.map_append]
        simp only [Option.toList, List.filter_cons, e2, Bool.false_eq_true, if_false, List.filter_nil, List.map_nil, List.append_nil]
        exact hws
      · exact put_no hno ha' (beq_tx Tr (lca_le a b ha1 ha2 hb1 hb2) ha2 (by assumption))
  · rintro m₁ news₁ h tk ⟨lf, u, o, ws, n', c, rfl, rfl, ho, hlf, hws, hno⟩ F₁ N₁ _
    dsimp only
    have hvl : vs.length = ns.length := by rw [strsAre_len hv, List.length_map]
    rw [hvl, List.take_of_length_le (Nat.le_refl _)] at hws hno
    generalize hleft : (ns.filter fun o => lca o b != b) = left at hws
    have hsub : ∀ a ∈ left, a ∈ ns := fun a h => by rw [← hleft] at h; exact (List.mem_filter.mp h).1
    have hll : left.length ≤ k := by rw [← hleft, ← hlen]; exact List.length_filter_le ..
    k_steps
    unfold Hold
    refine for_in ?_ (by intro _; rfl)
    k_steps
    refine' for_at (fun i m₁ news₁ => ∃ o c, (m₁ = fun z => if z = Str.ofString "both" then u else if z = Str.ofString "left" then some (.ref lf) else if z = Str.ofString "path" then some (.str (tx b) t) else if z = Str.ofString "kept" then some (.ref l) else none) ∧
        news₁ = [(lf, listOf (List.toArray ws) n'), (L' + 1, o), (l, listOf vs.toArray n)] ∧ o.data = .cell c ∧ ∀ a ∈ left.take i, (a / 2 == b / 2) = false) ?fh ?fl ?fF ?fN ?fj ?_ ?_
    (case fh => exact rfl)
    (case fF => k_asm)
    (case fN => k_asm)
    (case fl => k_mem)
    (case fj => exact ⟨_, _, rfl, rfl, ho, by simp⟩)
    · rintro i v m₁ news₁ h tk own hvi hoff hl₁ ⟨o, c, rfl, rfl, ho, hno₂⟩ F₁ N₁
      obtain ⟨y, ty, rfl, hy⟩ := strsAre_get hws i v hvi
      obtain ⟨a, ha', rfl⟩ : ∃ a, left[i]? = some a ∧ tx a = y := by
        rw [List.getElem?_map] at hy
        cases e : left[i]? with
        | none => rw [e] at hy; cases hy
        | some a => rw [e] at hy; exact ⟨a, rfl, by simpa using hy⟩
      have hmem : a ∈ left := List.mem_of_getElem? ha'
      obtain ⟨ha1, ha2⟩ := hns a (hsub a hmem)
      have hal := Tr.len a ha2
      simp only [List.cons_append, List.nil_append] at N₁
      simp only [List.map_cons, List.map_nil] at hoff
      k_steps
      · have e1 : a / 2 = b / 2 := by
          have q : dirF (tx a) = dirF (tx b) := eq_of_beq (by assumption)
          rw [Tr.dir a ha1 ha2, Tr.dir b hb1 hb2] at q
          exact Tr.inj _ _ (by omega) (by omega) q
        have hab : a ≠ b := fun q => by
          subst q
          have := hno a (hsub a hmem)
          have e3 : ∀ a, a < 16 → lca a a = a := by decide
          rw [e3 a (by omega)] at this
          simp at this
        have hb3 : 2 ≤ b := by omega
        have hfind := find_at hno₂ ha' (by simpa using e1)
        unfold Hold
        refine lc_free (cl := [(Str.ofString "one", L' + 1)]) (strP fun y => y != tx a) (fun v y => y = v) (by rfl) (by decide) rfl (by decide) rfl ?_ (by intro _; rfl)
        k_steps
        (try dsimp only)
        refine' comp_list (vs := ws) (nn := n') _ _ ?kh ?kF ?kN ?kl ?_ ?_ ?_ ?_
        (case kh => exact rfl)
        (case kF => k_asm)
        (case kN => k_asm)
        (case kl => k_mem)
        · rw [strsAre_len hws, List.length_map, sizeLine_eq]; omega
        · intro C s₃ v m₃ E' hv₃ F₃ N₃ k₃
          obtain ⟨y, t₃, rfl, hy₃⟩ := strs_mem hws hv₃
          obtain ⟨o₃, ho₃, rfl⟩ := List.mem_map.mp hy₃
          have hol₃ := Tr.len o₃ (hns o₃ (hsub o₃ ho₃)).2
          dsimp only at F₃ N₃ k₃
          have X₃ := Frag.In.keeps X' k₃
          have T₃ := T'.keeps k₃
          refine tests1 ?_
          k_steps
          exact keeps_refl _
        · intro C s₃ v m₃ E' hv₃ hp F₃ N₃ k₃
          dsimp only at F₃ N₃ k₃
          have X₃ := Frag.In.keeps X' k₃
          have T₃ := T'.keeps k₃
          k_steps
          exact keeps_refl _
        · intro D n₄ ws₄ h₄ tk₄ hpair F₄ N₄ hne
          obtain rfl := paired_eq hpair
          have hw₄ := strs_filter (fun y => y != tx a) hws
          rw [tx_filter Tr ha2 (fun o ho => (hns o (hsub o ho)).2)] at hw₄
          clear hpair
          dsimp only
          k_steps
          have hlt := left_less hleft hmem
          have hlt' : (left.filter (· != a)).length < k := by rw [← hlen]; exact hlt
          have hdir : dirF (tx b) = tx (b / 2) := Tr.dir b hb1 hb2
          rw [hdir]
          (rename News _ _ _ _ => NE)
          (rename Fr _ _ _ _ => FE)
          refine' Does.use (ih (left.filter (· != a)).length hlt' (left.filter (· != a)) (b / 2) rfl (fun o ho => hns o (hsub o (List.mem_filter.mp ho).1)) (by omega) (by omega) D _ n₄ _ hw₄) ?gF ?gN ?gX ?gT ?gs ?gd ?gu ?_
          (case gF => k_asm)
          (case gN => k_asm)
          (case gX => k_asm)
          (case gT => k_asm)
          (case gs => exact fun p hp => by rw [List.mem_singleton.mp hp]; exact List.Mem.head _)
          (case gd => (dsimp only [Ar, Around.deeper, Around.in1]; omega))
          (case gu => (dsimp only [Ar, Around.deeper, Around.in1]; omega))
          rintro v₆ h₆ tk₆ F₆ N₆ k₆ ⟨l₆, ws₆, n₆, rfl, hor, hg₆, hw₆⟩
          dsimp only at hor hg₆ ⊢
          have hnew : s.heap.get? l₆ = none := by
            rcases hor with hor | hor
            · have e5 : l₆ = D := congrArg Prod.fst hor
              subst e5
              exact new_out N₆ (List.Mem.head _) (fun p hp => by rw [List.mem_singleton.mp hp]; exact hne (l, listOf vs.toArray n) (by k_mem))
            · cases q : s.heap.get? l₆ with
              | none => rfl
              | some o₇ =>
                exact absurd (kp_out (as := [(l, listOf vs.toArray n)]) FE NE (fun p hp => by rw [List.mem_singleton.mp hp]; k_mem) ha l₆ o₇ q) (by rw [hor]; exact fun q => by cases q)
          show Q _ _
          refine ret _ _ _ (kp_out F₆ N₆ (fun p hp => by rw [List.mem_singleton.mp hp]; k_mem) ha) ⟨l₆, ws₆, n₆, rfl, .inr hnew, hg₆, ?_⟩
          rw [putN_2 hno hleft hfind, putN_fuel k ((left.filter (· != a)).length + 1) _ _ hlt' (Nat.lt_succ_self _)]
          exact hw₆
      · (rename News _ _ _ _ => NE)
        (rename Fr _ _ _ _ => FE)
        refine InvEndG.intro FE NE ⟨by k_mem, _, _, rfl, rfl, by assumption, ?_⟩ hoff (fun p hp => by simp only [List.mem_cons, List.not_mem_nil, or_false] at hp; rcases hp with rfl | rfl | rfl <;> k_mem) (fun p hp => by simp only [List.mem_cons]; simp only [hp, or_true])
        intro o₅ ho₅
        rw [List.take_add_one, ha'] at ho₅
        rcases List.mem_append.mp ho₅ with ho₅ | ho₅
        · exact hno₂ o₅ ho₅
        · have q : o₅ = a := by simpa using ho₅
          subst q
          have e3 : (dirF (tx o₅) == dirF (tx b)) = false := by assumption
          rw [Tr.dir o₅ ha1 ha2, Tr.dir b hb1 hb2] at e3
          exact beq_tx Tr (by omega) (by omega) e3
    · rintro m₁ news₁ h tk ⟨o, c, rfl, rfl, ho, hno₂⟩ F₁ N₁ _
      dsimp only
      k_steps
      dsimp only
      have hwl : ws.length = left.length := by rw [strsAre_len hws, List.length_map]
      have hfind : left.find? (fun o => o / 2 == b / 2) = none := by
        rw [List.find?_eq_none]
        intro x hx
        rw [hwl, List.take_of_length_le (Nat.le_refl _)] at hno₂
        rw [hno₂ x hx]; exact Bool.false_ne_true
      (rename News _ _ _ _ => NE)
      (rename Fr _ _ _ _ => FE)
      refine add_lists (vs := ws) (ws := [.str (tx b) t]) FE NE (at_list NE (List.Mem.tail _ (List.Mem.head _))) (at_list NE (List.Mem.head _)) (fun h₃ F₃ N₃ => ?_) ?_
      · dsimp only at N₃ ⊢
        have hfr := new_out N₃ (List.Mem.head _) (fun p hp => by
          rw [List.mem_singleton.mp hp]
          exact Nat.ne_of_lt (Heap.lt_size (NE.get (o := listOf vs.toArray n) (by k_mem))))
        refine ret _ _ _ (kp_out F₃ N₃ (fun p hp => by rw [List.mem_singleton.mp hp]; k_mem) ha) ⟨_, ws ++ [.str (tx b) t], _, rfl, .inr hfr, News.get N₃ (List.Mem.head _), ?_⟩
        rw [putN_3 hno hleft hfind, List.map_append]
        exact strsAre_append hws (.cons _ _ .nil)
      · rw [hwl, sizeLine_eq, List.length_singleton]; omega
theorem put_ok {w : World} {mean : ExcName → Option Value} {mg mb : Str → Option Value} {tx : Nat → Str} (Tr : Tree tx) (hcom : ComSays w mean mg mb tx) : ∀ k, k ≤ 20 → PutSays w mean mg mb tx k := by
  intro k
  induction k using Nat.strongRecOn with
  | ind k ih => exact fun hk => put_step Tr hcom k hk fun k' h => ih k' h (by omega)
end
section
noncomputable def ltS (x y : Str) : Bool := decide (x.cps.toList < y.cps.toList)
/-- two lists of texts laid beside each other: the first parting decides, else fin -/
noncomputable def lexL (f : Str → Str → Bool) (fin : Bool) : List Str → List Str → Bool
  | x :: xs, y :: ys => if x == y then lexL f fin xs ys else f x y
  | _, _ => fin
theorem lexL_left {f : Str → Str → Bool} {fin : Bool} {ys : List Str} : lexL f fin [] ys = fin := by cases ys <;> rfl
theorem lexL_right {f : Str → Str → Bool} {fin : Bool} {xs : List Str} : lexL f fin xs [] = fin := by cases xs <;> rfl
noncomputable def gtS (x y : Str) : Bool := decide (y.cps.toList < x.cps.toList)
open AutoSeq1 (wpAny_loadPart') in
open MeetsSeq MeetsSeq2 MeetsSeq3 SeqAt in
theorem lt_loop (l b : Addr) (vs us : List Value) (xs ys : List Str) (h1 : StrsAre vs xs) (h2 : StrsAre us ys) (n n2 : Nat) (k : Nat) :
    ∀ i : Nat, vs.length - i = k → Meets (Builtin.«list.__eq__.loop» ⟨[.ref l, .ref b, rawInt i, rawInt 0], []⟩)
      (fun A R s => s.heap.get? l = some (W.listOf vs.toArray n) ∧ s.heap.get? b = some (W.listOf us.toArray n2) ∧
        R (.ok (.ret (.bool (lexL ltS (decide (vs.length < us.length)) (xs.drop i) (ys.drop i))))) s) := by
  have l1 := strsAre_len h1
  have l2 := strsAre_len h2
  induction k with
  | zero =>
    intro i hk prog w A R s h
    obtain ⟨hp, g, d, tk, os⟩ := s; obtain ⟨hl, hb, h⟩ := h
    unfold W.listOf at hl hb
    wp_walk using wpAny_loadPart' hl, wpAny_loadPart' hb
    have hi1 : vs.toArray[((i : Nat) : Int).toNat]? = none := by simp; omega
    have hd : xs.drop i = [] := by simp; omega
    rw [hd, lexL_left] at h
    rw [hi1]
    wp_walk using wpAny_loadPart' hl, wpAny_loadPart' hb
    exact h
  | succ k ih =>
    intro i hk prog w A R s h
    obtain ⟨hp, g, d, tk, os⟩ := s; obtain ⟨hl, hb, h⟩ := h
    have hlt : i < vs.length := by omega
    have hl' := hl
    have hb' := hb
    unfold W.listOf at hl hb
    wp_walk using wpAny_loadPart' hl, wpAny_loadPart' hb
    by_cases hlt2 : i < us.length
    · obtain ⟨x, t, ex, ex'⟩ := strsAre_get h1 i vs[i] (by simp [hlt])
      obtain ⟨y, u, ey, ey'⟩ := strsAre_get h2 i us[i] (by simp [hlt2])
      have hi1 : vs.toArray[((i : Nat) : Int).toNat]? = some (.str x t) := by simp [hlt, ex]
      have hi2 : us.toArray[((i : Nat) : Int).toNat]? = some (.str y u) := by simp [hlt2, ey]
      have d1 : xs.drop i = x :: xs.drop (i + 1) := by
        obtain ⟨h3, h4⟩ := List.getElem?_eq_some_iff.mp ex'
        rw [← h4]; exact List.drop_eq_getElem_cons h3
      have d2 : ys.drop i = y :: ys.drop (i + 1) := by
        obtain ⟨h3, h4⟩ := List.getElem?_eq_some_iff.mp ey'
        rw [← h4]; exact List.drop_eq_getElem_cons h3
      have hc : ((i : Int) + 1) = ((i + 1 : Nat) : Int) := by omega
      rw [d1, d2] at h
      unfold lexL at h
      rw [hi1, hi2]
      refine wpAny_bind ((SeqRoads2.EqGives.str x y t u) prog w _ _ _ _ ?_)
      rw [SeqAt.str_beq]
      cases e : x == y with
      | true =>
        rw [e, if_pos rfl] at h
        wp_walk
        rw [hc]
        exact ⟨plainId_quiet plain_eq_loop _, codeAny_builtin entry_eq_loop (by
          rw [Around.under_plainId plain_eq_loop _]
          exact ih (i + 1) (by omega) prog w A R _ ⟨hl', hb', h⟩)⟩
      | false =>
        rw [e, if_neg Bool.false_ne_true] at h
        wp_walk using wpAny_loadPart' hl, wpAny_loadPart' hb
        rw [hi1, hi2]
        refine wpAny_bind (lt_str ?_)
        wp_walk
        exact h
    · have hi2 : us.toArray[((i : Nat) : Int).toNat]? = none := by simp; omega
      have hd : ys.drop i = [] := by simp; omega
      have hi1 : vs.toArray[((i : Nat) : Int).toNat]? = some vs[i] := by simp [hlt]
      rw [hd, lexL_right] at h
      rw [hi1, hi2]
      wp_walk using wpAny_loadPart' hl, wpAny_loadPart' hb
      exact h

open AutoSeq1 (wpAny_loadPart') in
open MeetsSeq MeetsSeq2 MeetsSeq3 SeqAt in
theorem list_lt (l b : Addr) (vs us : List Value) (xs ys : List Str) (h1 : StrsAre vs xs) (h2 : StrsAre us ys) (n n2 : Nat) :
    Meets (Builtin.«list.__lt__» ⟨[.ref l, .ref b], []⟩)
      (fun A R s => s.heap.get? l = some (W.listOf vs.toArray n) ∧ s.heap.get? b = some (W.listOf us.toArray n2) ∧
        R (.ok (.ret (.bool (lexL ltS (decide (vs.length < us.length)) xs ys)))) s) := by
  intro prog w A R s h
  obtain ⟨hp, g, d, tk, os⟩ := s; obtain ⟨hl, hb, h⟩ := h
  have f3 := AutoSeq1.sub_list_list
  have hl' := hl
  have hb' := hb
  unfold W.listOf at hl hb
  wp_walk using wpAny_loadPart' hl, wpAny_loadPart' hb
  exact ⟨plainId_quiet plain_eq_loop _, codeAny_builtin entry_eq_loop (by
    rw [Around.under_plainId plain_eq_loop _]
    exact lt_loop l b vs us xs ys h1 h2 n n2 _ 0 rfl prog w A R _ ⟨hl', hb', by simpa using h⟩)⟩

theorem rc_lt {prog : Program} {w : World} {A : Around} {E Q : Value → Shared → Prop} {s : Shared} {l b : Addr} {vs us : List Value} {xs ys : List Str} {n n2 : Nat}
    (hl : s.heap.get? l = some (W.listOf vs.toArray n)) (hb : s.heap.get? b = some (W.listOf us.toArray n2)) (h1 : StrsAre vs xs) (h2 : StrsAre us ys) (hu : A.units < cLine)
    (h : Q (.bool (lexL ltS (decide (vs.length < us.length)) xs ys)) s) : wpAny (model prog w) A (richCompare .Lt (.ref l) (.ref b)) Q E s :=
  richCompare_meets_room (op := .Lt) ⟨_, hl, rfl⟩ ⟨_, hb, rfl⟩ F.slot_list_lt F.entry_list_lt (F.args_list_lt_2 _ _) (list_lt l b vs us xs ys h1 h2 n n2)
    ⟨hl, hb, show Value.bool _ ≠ Value.notImplemented ∧ Q (.bool (lexL ltS (decide (vs.length < us.length)) xs ys)) s from ⟨(fun x => nomatch x), h⟩⟩ hu
open AutoSeq1 (wpAny_loadPart') in
open MeetsSeq MeetsSeq2 MeetsSeq3 SeqAt in
theorem gt_loop (l b : Addr) (vs us : List Value) (xs ys : List Str) (h1 : StrsAre vs xs) (h2 : StrsAre us ys) (n n2 : Nat) (k : Nat) :
    ∀ i : Nat, vs.length - i = k → Meets (Builtin.«list.__eq__.loop» ⟨[.ref l, .ref b, rawInt i, rawInt 4], []⟩)
      (fun A R s => s.heap.get? l = some (W.listOf vs.toArray n) ∧ s.heap.get? b = some (W.listOf us.toArray n2) ∧
        R (.ok (.ret (.bool (lexL gtS (decide (vs.length > us.length)) (xs.drop i) (ys.drop i))))) s) := by
  have l1 := strsAre_len h1
  have l2 := strsAre_len h2
  induction k with
  | zero =>
    intro i hk prog w A R s h
    obtain ⟨hp, g, d, tk, os⟩ := s; obtain ⟨hl, hb, h⟩ := h
    unfold W.listOf at hl hb
    wp_walk using wpAny_loadPart' hl, wpAny_loadPart' hb
    have hi1 : vs.toArray[((i : Nat) : Int).toNat]? = none := by simp; omega
    have hd : xs.drop i = [] := by simp; omega
    rw [hd, lexL_left] at h
    rw [hi1]
    wp_walk using wpAny_loadPart' hl, wpAny_loadPart' hb
    exact h
  | succ k ih =>
    intro i hk prog w A R s h
    obtain ⟨hp, g, d, tk, os⟩ := s; obtain ⟨hl, hb, h⟩ := h
    have hlt : i < vs.length := by omega
    have hl' := hl
    have hb' := hb
    unfold W.listOf at hl hb
    wp_walk using wpAny_loadPart' hl, wpAny_loadPart' hb
    by_cases hlt2 : i < us.length
    · obtain ⟨x, t, ex, ex'⟩ := strsAre_get h1 i vs[i] (by simp [hlt])
      obtain ⟨y, u, ey, ey'⟩ := strsAre_get h2 i us[i] (by simp [hlt2])
      have hi1 : vs.toArray[((i : Nat) : Int).toNat]? = some (.str x t) := by simp [hlt, ex]
      have hi2 : us.toArray[((i : Nat) : Int).toNat]? = some (.str y u) := by simp [hlt2, ey]
      have d1 : xs.drop i = x :: xs.drop (i + 1) := by
        obtain ⟨h3, h4⟩ := List.getElem?_eq_some_iff.mp ex'
        rw [← h4]; exact List.drop_eq_getElem_cons h3
      have d2 : ys.drop i = y :: ys.drop (i + 1) := by
        obtain ⟨h3, h4⟩ := List.getElem?_eq_some_iff.mp ey'
        rw [← h4]; exact List.drop_eq_getElem_cons h3
      have hc : ((i : Int) + 1) = ((i + 1 : Nat) : Int) := by omega
      rw [d1, d2] at h
      unfold lexL at h
      rw [hi1, hi2]
      refine wpAny_bind ((SeqRoads2.EqGives.str x y t u) prog w _ _ _ _ ?_)
      rw [SeqAt.str_beq]
      cases e : x == y with
      | true =>
        rw [e, if_pos rfl] at h
        wp_walk
        rw [hc]
        exact ⟨plainId_quiet plain_eq_loop _, codeAny_builtin entry_eq_loop (by
          rw [Around.under_plainId plain_eq_loop _]
          exact ih (i + 1) (by omega) prog w A R _ ⟨hl', hb', h⟩)⟩
      | false =>
        rw [e, if_neg Bool.false_ne_true] at h
        wp_walk using wpAny_loadPart' hl, wpAny_loadPart' hb
        rw [hi1, hi2]
        refine wpAny_bind (P.gt_str ?_)
        wp_walk
        exact h
    · have hi2 : us.toArray[((i : Nat) : Int).toNat]? = none := by simp; omega
      have hd : ys.drop i = [] := by simp; omega
      have hi1 : vs.toArray[((i : Nat) : Int).toNat]? = some vs[i] := by simp [hlt]
      rw [hd, lexL_right] at h
      rw [hi1, hi2]
      wp_walk using wpAny_loadPart' hl, wpAny_loadPart' hb
      exact h

open AutoSeq1 (wpAny_loadPart') in
open MeetsSeq MeetsSeq2 MeetsSeq3 SeqAt in
theorem list_gt (l b : Addr) (vs us : List Value) (xs ys : List Str) (h1 : StrsAre vs xs) (h2 : StrsAre us ys) (n n2 : Nat) :
    Meets (Builtin.«list.__gt__» ⟨[.ref l, .ref b], []⟩)
      (fun A R s => s.heap.get? l = some (W.listOf vs.toArray n) ∧ s.heap.get? b = some (W.listOf us.toArray n2) ∧
        R (.ok (.ret (.bool (lexL gtS (decide (vs.length > us.length)) xs ys)))) s) := by
  intro prog w A R s h
  obtain ⟨hp, g, d, tk, os⟩ := s; obtain ⟨hl, hb, h⟩ := h
  have f3 := AutoSeq1.sub_list_list
  have hl' := hl
  have hb' := hb
  unfold W.listOf at hl hb
  wp_walk using wpAny_loadPart' hl, wpAny_loadPart' hb
  exact ⟨plainId_quiet plain_eq_loop _, codeAny_builtin entry_eq_loop (by
    rw [Around.under_plainId plain_eq_loop _]
    exact gt_loop l b vs us xs ys h1 h2 n n2 _ 0 rfl prog w A R _ ⟨hl', hb', by simpa using h⟩)⟩

theorem rc_gt {prog : Program} {w : World} {A : Around} {E Q : Value → Shared → Prop} {s : Shared} {l b : Addr} {vs us : List Value} {xs ys : List Str} {n n2 : Nat}
    (hl : s.heap.get? l = some (W.listOf vs.toArray n)) (hb : s.heap.get? b = some (W.listOf us.toArray n2)) (h1 : StrsAre vs xs) (h2 : StrsAre us ys) (hu : A.units < cLine)
    (h : Q (.bool (lexL gtS (decide (vs.length > us.length)) xs ys)) s) : wpAny (model prog w) A (richCompare .Gt (.ref l) (.ref b)) Q E s :=
  richCompare_meets_room (op := .Gt) ⟨_, hl, rfl⟩ ⟨_, hb, rfl⟩ F.slot_list_gt F.entry_list_gt (F.args_list_gt_2 _ _) (list_gt l b vs us xs ys h1 h2 n n2)
    ⟨hl, hb, show Value.bool _ ≠ Value.notImplemented ∧ Q (.bool (lexL gtS (decide (vs.length > us.length)) xs ys)) s from ⟨(fun x => nomatch x), h⟩⟩ hu
end
section
theorem mro_map : mroOf (.type "map") = pure [.type "map", .type "object"] := by rw [mroOf_type]; kernel_rfl
theorem slot_map_init : Slot "map" "__init__" "object.__init__" :=
  .of (owner := "object") (n := "__init__") (by rw [typeLookup_type, builtinLookup_eq_fast]; kernel_rfl) (by decide +kernel) (by decide +kernel) (by decide +kernel)
    (by first | exact .inl (by decide +kernel) | exact .inr (by decide +kernel)) (by rw [isSubtype_type]; kernel_rfl)
theorem slot_map_iter : Slot "map" "__iter__" "map.__iter__" :=
  .of (owner := "map") (n := "__iter__") (by rw [typeLookup_type, builtinLookup_eq_fast]; kernel_rfl) (by decide +kernel) (by decide +kernel) (by decide +kernel)
    (by first | exact .inl (by decide +kernel) | exact .inr (by decide +kernel)) (by rw [isSubtype_type]; kernel_rfl)
theorem slot_map_next : Slot "map" "__next__" "map.__next__" :=
  .of (owner := "map") (n := "__next__") (by rw [typeLookup_type, builtinLookup_eq_fast]; kernel_rfl) (by decide +kernel) (by decide +kernel) (by decide +kernel)
    (by first | exact .inl (by decide +kernel) | exact .inr (by decide +kernel)) (by rw [isSubtype_type]; kernel_rfl)
theorem entry_map_iter : entryFor table "map.__iter__" = some Builtin.«dict_keyiterator.__iter__» :=
  entryFor_alias (id' := "dict_keyiterator.__iter__") (by kernel_rfl) (by first | rfl | decide +kernel | (unfold String.splitOn; simp +decide [String.splitOnAux])) (by decide +kernel) (by kernel_rfl)
theorem entry_map_new : entryFor table "map.__new__" = some Builtin.«map.__new__» := entryFor_of_tree (by kernel_rfl)
theorem entry_map_next : entryFor table "map.__next__" = some Builtin.«map.__next__» := entryFor_of_tree (by kernel_rfl)
theorem args_map_next (a : Value) : argsOk "map.__next__" ⟨[a], []⟩ := by unfold argsOk; kernel_rfl
theorem args_map_iter (a : Value) : argsOk "map.__iter__" ⟨[a], []⟩ := by unfold argsOk; kernel_rfl
theorem lookup_map_new : typeLookup (.type "map") "__new__" = pure (some (.builtin "map.__new__")) := by rw [typeLookup_type, builtinLookup_eq_fast]; kernel_rfl
theorem called_map : TypeCalled "map" "map.__new__" "object.__init__" :=
  ⟨by decide +kernel, by decide +kernel, ⟨_, _, mro_map⟩, madeBy_type mro_map lookup_map_new (by decide +kernel), by decide +kernel, by rw [isSubtype_type]; kernel_rfl, slot_map_init⟩
theorem typeCall_map (a b : Value) : checkTypeCall "map" ⟨[a, b], []⟩ = pure () := by kernel_rfl
theorem newCall_map (a b : Value) : checkBuiltinCall "map.__new__" ⟨[.type "map", a, b], []⟩ = pure () := by kernel_rfl
theorem sub_map : isSubtype (.type "map") (.type "map") = pure true := by rw [isSubtype_type]; kernel_rfl
theorem map_no_len : typeLookup (.type "map") "__len__" = pure none := by rw [typeLookup_type, builtinLookup_eq_fast]; kernel_rfl
theorem map_no_hint : typeLookup (.type "map") "__length_hint__" = pure none := by rw [typeLookup_type, builtinLookup_eq_fast]; kernel_rfl

noncomputable abbrev mapTup (I : Addr) : Obj := { cls := .type "tuple", data := .seq #[.ref I] }
noncomputable abbrev mapObj (TI : Addr) (f : Value) : Obj := { cls := .type "map", data := .fields #[.ref TI, f] }
/-- map over a list: a map object beside an iterator of its own -/
theorem meets_map_new (f : Value) (l : Addr) (xs : Array Value) :
    Meets (Builtin.«map.__new__» ⟨[.type "map", f, .ref l], []⟩) (fun _ R s => s.heap.IsList l xs ∧
      R (.ok (.ret (.ref (s.heap.objs.size + 2)))) { s with heap := ((s.heap.push { cls := .type "list_iterator", data := .fields #[.ref l, .int 0 0] }).push (mapTup s.heap.objs.size)).push (mapObj (s.heap.objs.size + 1) f) }) :=
  .of_wp fun prog w A R s h => by
    obtain ⟨hp, g, d, tk, os⟩ := s; obtain ⟨hl, h⟩ := h
    have hsub := sub_map
    have hL1 : Heap.IsList (Shared.heap ⟨hp, g, d, tk, os⟩) l xs := hl
    wp_walk using wpAny_pyIter_list hL1
    simp only [Heap.size_push] at h ⊢
    exact ⟨_, rfl, h⟩

section
variable {prog : Program} {w : World} {A : Around} {E : Value → Shared → Prop} {s : Shared}
theorem call_map {f : Value} {l : Addr} {xs : Array Value} {Q : Value → Shared → Prop} (hl : s.heap.IsList l xs)
    (h : Q (.ref (s.heap.objs.size + 2)) { s with heap := ((s.heap.push { cls := .type "list_iterator", data := .fields #[.ref l, .int 0 0] }).push (mapTup s.heap.objs.size)).push (mapObj (s.heap.objs.size + 1) f) }) :
    wpAny (model prog w) A (call (.type "map") [f, .ref l]) Q E s := by
  refine callType_new called_map (by decide) (typeCall_map _ _) (newCall_map _ _) (fun obj => F.args_object_init_3 obj _ _) entry_map_new (meets_map_new f l xs) ⟨hl, ?_⟩
  refine ⟨⟨mapObj (s.heap.objs.size + 1) f, ?_, rfl⟩, h⟩
  have e : s.heap.objs.size + 2 = (((s.heap.push { cls := .type "list_iterator", data := .fields #[.ref l, .int 0 0] }).push (mapTup s.heap.objs.size))).objs.size := by simp only [Heap.size_push]
  rw [e]
  exact Heap.get?_push_size _ rfl
end
end
section
section
variable {prog : Program} {w : World} {A : Around} {E : Value → Shared → Prop} {s : Shared} {M TI I l : Addr} {f x : Value} {xs : Array Value} {k : Nat}
theorem map_next_item {Q : Value → Shared → Prop} (hM : s.heap.get? M = some (mapObj TI f)) (hTI : s.heap.get? TI = some (mapTup I)) (hit : s.heap.IsListIter I l k) (hl : s.heap.IsList l xs) (hx : xs[k]? = some x) (h1 : M ≠ I)
    (hcall : ∀ h', h'.IsListIter I l (k + 1) → Heap.SameBut I s.heap h' → wpAny (model prog w) A (call f [x]) Q E { s with heap := h' }) :
    wpAny (model prog w) A (Builtin.«map.__next__» ⟨[.ref M], []⟩) (fun fin s' => ∃ v, fin = .done (.ret v) ∧ Q v s') E s := by
  show wpAny _ _ (field (.ref M) 0 >>= _) _ _ _
  refine wpAny_bind (wpAny_field hM rfl (x := .ref TI) rfl ?_)
  refine wpAny_bind (wpAny_seqItems hTI rfl ?_)
  refine wpAny_bind ?_
  simp only [← Array.forIn_toList, List.forIn_cons, List.forIn_nil]
  refine wpAny_bind (wpAny_bind (wpAny_holding (wpAny_nextOf_list_item hit hl hx fun h₁ hit₁ hs₁ => ?_)))
  refine wpAny_pure (wpAny_pure ?_)
  have hM₁ : h₁.get? M = some (mapObj TI f) := (hs₁.2 M h1).trans hM
  refine wpAny_bind (wpAny_field hM₁ rfl (x := f) rfl ?_)
  refine wpAny_bind (wpAny_holding ?_)
  refine wpAny_mono (hcall h₁ hit₁ hs₁) (fun v s' hv => ?_) fun _ _ e => e
  refine wpAny_bind (wpAny_letGo (wpAny_pure ⟨v, rfl, hv⟩))
theorem map_next_end {Q : Fin → Shared → Prop} (hh : A.handled = none) (hM : s.heap.get? M = some (mapObj TI f)) (hTI : s.heap.get? TI = some (mapTup I)) (hit : s.heap.IsListIter I l k) (hl : s.heap.IsList l xs) (hx : xs[k]? = none)
    (hE : ∀ h' e, (∀ c o, c ≠ I → s.heap.get? c = some o → h'.get? c = some o) → (∃ o, h'.get? e = some o ∧ o.cls = .type "StopIteration") → E (.ref e) { s with heap := h' }) :
    wpAny (model prog w) A (Builtin.«map.__next__» ⟨[.ref M], []⟩) Q E s := by
  show wpAny _ _ (field (.ref M) 0 >>= _) _ _ _
  refine wpAny_bind (wpAny_field hM rfl (x := .ref TI) rfl ?_)
  refine wpAny_bind (wpAny_seqItems hTI rfl ?_)
  refine wpAny_bind ?_
  simp only [← Array.forIn_toList, List.forIn_cons, List.forIn_nil]
  refine wpAny_bind (wpAny_bind (wpAny_holding (wpAny_nextOf_list_end hh hit hl hx fun h₂ e hs₂ he => ?_)))
  exact hE h₂ e (fun c o hc e => hs₂ c o hc e) he
theorem pyNext_map_item {Q : Option Value → Shared → Prop} (hM : s.heap.get? M = some (mapObj TI f)) (hTI : s.heap.get? TI = some (mapTup I)) (hit : s.heap.IsListIter I l k) (hl : s.heap.IsList l xs) (hx : xs[k]? = some x) (h1 : M ≠ I)
    (hcall : ∀ h', h'.IsListIter I l (k + 1) → Heap.SameBut I s.heap h' → wpAny (model prog w) A.in1 (call f [x]) (fun v s' => Q (some v) s') (fun _ _ => False) { s with heap := h' }) :
    wpAny (model prog w) A (pyNext (.ref M)) Q E s := by
  have hT : s.TypeIs (.ref M) "map" := ⟨_, hM, rfl⟩
  unfold pyNext
  exact wpAny_bind (wpAny_attempt (wpAny_callSpecial?_slot (name := Str.ofString "__next__") hT slot_map_next
    (wpAny_call_entry slot_map_next hT entry_map_next (wpAny_mono
      (map_next_item (Q := fun v s' => Q (some v) s') hM hTI hit hl hx h1 fun h' a b => wpAny_mono (hcall h' a b) (fun v s' q => q) fun _ _ x => x.elim) (fun fin s' => by rintro ⟨v, rfl, q⟩; exact ⟨v, rfl, wpAny_pure q⟩) fun _ _ x => x) (args_map_next _))))
theorem pyNext_map_end {Q : Option Value → Shared → Prop} (hh : A.handled = none) (hM : s.heap.get? M = some (mapObj TI f)) (hTI : s.heap.get? TI = some (mapTup I)) (hit : s.heap.IsListIter I l k) (hl : s.heap.IsList l xs) (hx : xs[k]? = none)
    (hQ : ∀ h', (∀ c o, c ≠ I → s.heap.get? c = some o → h'.get? c = some o) → Q none { s with heap := h' }) : wpAny (model prog w) A (pyNext (.ref M)) Q E s := by
  have hT : s.TypeIs (.ref M) "map" := ⟨_, hM, rfl⟩
  unfold pyNext
  refine wpAny_bind (wpAny_attempt (wpAny_callSpecial?_slot (name := Str.ofString "__next__") hT slot_map_next
    (wpAny_call_entry slot_map_next hT entry_map_next (map_next_end hh hM hTI hit hl hx fun h' e hk he => ?_) (args_map_next _))))
  obtain ⟨o, ho, hc⟩ := he
  refine wpAny_bind (wpAny_isInstance (T := "StopIteration") (b := true) ⟨o, ho, hc⟩ isSubtype_stop ?_)
  exact wpAny_pure (hQ _ hk)
theorem pyIter_map {Q : Value → Shared → Prop} (hM : s.heap.get? M = some (mapObj TI f)) (h : Q (.ref M) s) : wpAny (model prog w) A (pyIter (.ref M)) Q E s := by
  have hT : s.TypeIs (.ref M) "map" := ⟨_, hM, rfl⟩
  refine wpAny_pyIter_slot hT slot_map_iter (wpAny_call_entry slot_map_iter hT entry_map_iter ?_ (args_map_iter _))
  show wpAny _ _ (ret (.ref M)) _ _ s
  exact wpAny_pure ⟨_, rfl, "map", _, hT, slot_map_next.lookup, h⟩
end

section
variable {prog : Program} {w : World} {A : Around} {E : Value → Shared → Prop} {s : Shared} {I : Addr} {fp wr : List Addr} {G : Array GenState → Array GenState → Prop} {n : Nat} {P : Nat → Value → Prop} {St : Nat → Shared → Prop}
theorem collect_map {Q : List Value → Shared → Prop} (W : WalksS prog w A.in1 I fp wr G n P St) (hT : ∀ i s, St i s → s.TypeIs (.ref I) "map") (hst : St 0 s) (hfp : ∀ b ∈ fp, b < s.heap.objs.size) (hI : I ∈ fp)
    (hQ : ∀ s' acc, Moved wr G s s' → ItemsOf P acc n → Q acc.toList s') (hn : n ≤ sizeLine) : wpAny (model prog w) A (collect (.ref I)) Q E s := by
  have hSf : s.heap.objs.size ∉ fp := fun hm => Nat.lt_irrefl _ (hfp _ hm)
  have hSI : s.heap.objs.size ≠ I := fun e => hSf (e ▸ hI)
  unfold collect
  refine wpAny_bind (wpAny_runValue (codeAny_builtin F.entry_proto_collect ?_))
  rw [Around.under_plainId F.plain_proto_collect _]
  show wpAny _ A.in1 (newList [] >>= fun l => again (.builtin "list.__iadd__" ⟨[l, .ref I], []⟩)) _ _ s
  refine wpAny_bind (wpAny_newObj_type ?_)
  refine wpAny_pure ⟨plainId_quiet F.plain_list_iadd _, codeAny_builtin F.entry_list_iadd ?_⟩
  rw [Around.under_plainId F.plain_list_iadd _]
  have hst₁ := W.frame 0 s (s.heap.push { cls := .type "list", data := .seq ([] : List Value).toArray }) s.toks hst (Nat.le_refl _) fun b _ o e => Heap.get?_push_of_some _ e
  have hS₁ : (s.heap.push { cls := .type "list", data := .seq ([] : List Value).toArray }).get? s.heap.objs.size = some { cls := .type "list", data := .seq ([] : List Value).toArray } := Heap.get?_push_size _ rfl
  show wpAny _ A.in1 (Builtin.List.listExtendWith (.ref s.heap.objs.size) (.ref I) (.ref s.heap.objs.size)) _ _ _
  unfold Builtin.List.listExtendWith
  refine wpAny_bind (wpAny_typeOf (hT 0 _ hst₁) ?_)
  have h1 : Builtin.List.listSameRef (.ref s.heap.objs.size) (.ref I) = false := by simp [Builtin.List.listSameRef, hSI]
  rw [if_neg (by rw [h1]; decide)]
  refine wpAny_bind (W.self 0 _ _ _ hst₁ ?_)
  refine wpAny_bind (wpAny_holding ?_)
  unfold Builtin.List.listLengthHint
  refine wpAny_bind (wpAny_specialOf (hT 0 _ hst₁) map_no_len ?_)
  show wpAny _ A.in1 (specialOf (Value.ref I) (Str.ofString "__length_hint__") >>= _) _ _ _
  refine wpAny_bind (wpAny_specialOf (hT 0 _ hst₁) map_no_hint ?_)
  refine wpAny_pure ?_
  show wpAny _ A.in1 (rule "list.extend.makes-room" >>= fun _ => Builtin.List.listTouch (.ref s.heap.objs.size) >>= fun _ =>
    again (.builtin "list.extend.loop" ⟨[.ref s.heap.objs.size, .ref I, .ref s.heap.objs.size], []⟩)) _ _ _
  refine wpAny_bind (wpAny_rule ?_)
  refine wpAny_bind ?_
  show wpAny _ A.in1 (updateSeq s.heap.objs.size (·.push .none) >>= fun _ => updateSeq s.heap.objs.size (·.pop)) _ _ _
  refine wpAny_bind (wpAny_updateSeq hS₁ rfl ?_)
  have hS₂ := Heap.get?_update_self (Obj.mapSeq (·.push Value.none)) hS₁ rfl
  refine wpAny_updateSeq hS₂ rfl ?_
  have hS₃ := Heap.get?_update_self (Obj.mapSeq (·.pop)) hS₂ rfl
  have oth : ∀ b o, b ≠ s.heap.objs.size → (s.heap.push { cls := .type "list", data := .seq ([] : List Value).toArray }).get? b = some o →
      (((s.heap.push { cls := .type "list", data := .seq ([] : List Value).toArray }).update s.heap.objs.size (Obj.mapSeq (·.push Value.none))).update s.heap.objs.size (Obj.mapSeq (·.pop))).get? b = some o :=
    fun b o hb e => (Heap.get?_update_other _ _ (Ne.symm hb)).trans ((Heap.get?_update_other _ _ (Ne.symm hb)).trans e)
  refine wpAny_pure ⟨plainId_quiet F.plain_extend_loop _, codeAny_extend_loopS W hn _ hSf _ n 0 _ _ _ rfl (Nat.zero_le _)
    (W.frame 0 ({ s with heap := s.heap.push { cls := .type "list", data := .seq ([] : List Value).toArray } } : Shared) _ s.toks hst₁ (Nat.le_refl _) fun b hb o e => oth b o (fun h => hSf (h ▸ hb)) e) hS₃ (ItemsOf.nil P) fun s' acc' c' hm hS' hacc => ?_⟩
  show wpAny _ A (load s.heap.objs.size >>= _) _ _ s'
  refine wpAny_bind (wpAny_load hS' ?_)
  refine wpAny_pure (hQ s' acc' (Moved.drop_new (o := { cls := .type "list", data := .seq ([] : List Value).toArray }) (tk := s.toks) (Moved.trans W.gtrans ((Moved.refl W.grefl).then_heap (Nat.le_refl _) fun b o hb e => ?_) hm) (Nat.le_refl _)) hacc)
  exact oth b o (fun h => hb (by rw [h]; exact List.mem_cons_self)) e
theorem new_tuple_map {Q₁ : Value → Shared → Prop} (W : WalksS prog w A.in1.in1 I fp wr G n P St) (hT : ∀ i s, St i s → s.TypeIs (.ref I) "map") (hst : St 0 s) (hfp : ∀ b ∈ fp, b < s.heap.objs.size) (hI : I ∈ fp)
    (h : ∀ s' acc, Moved wr G s s' → ItemsOf P acc n → Q₁ (.ref s'.heap.objs.size) { s' with heap := s'.heap.push { cls := .type "tuple", data := .seq acc } }) (hsz : n ≤ sizeLine) :
    codeAny (model prog w) A (.call (.builtin "tuple.__new__") ⟨[.type "tuple", .ref I], []⟩) (wants Q₁ E) s := by
  refine codeAny_of_tree ?_
  show wpAny _ A.in1 (do checkBuiltinCall "tuple.__new__" ⟨[.type "tuple", .ref I], []⟩; again (.builtin "tuple.__new__" ⟨[.type "tuple", .ref I], []⟩)) _ _ s
  refine wpAny_bind (wpAny_of_eq (F.newCall_tuple_1 _) (wpAny_pure ⟨plainId_quiet F.plain_tuple_new _, codeAny_builtin F.entry_tuple_new ?_⟩))
  rw [Around.under_plainId F.plain_tuple_new _]
  have hsub := sub_tuple_self
  have hinit := init_tuple_lookup
  have hmh := madeHere_tuple
  have hTI := hT 0 s hst
  wp_walk using wpAny_typeOf hTI, collect_map (hn := hsz) W hT hst hfp hI
  intro s' acc hm hacc
  show wpAny _ _ (Builtin.Tuple.tupleExact acc.toList.toArray >>= fun v => ret v) _ _ _
  unfold Builtin.Tuple.tupleExact
  refine wpAny_bind (wpAny_newObj_type ?_ (by show acc.toList.toArray.size ≤ sizeLine; simp only [Array.toArray_toList]; rw [hacc.1]; exact hsz))
  refine wpAny_pure ?_
  have e : acc.toList.toArray = acc := by simp
  rw [e]
  exact h s' acc hm hacc
theorem call_tuple_map {Q : Value → Shared → Prop} (W : WalksS prog w A.in1.in1.in1 I fp wr G n P St) (hT : ∀ i s, St i s → s.TypeIs (.ref I) "map") (hst : St 0 s) (hfp : ∀ b ∈ fp, b < s.heap.objs.size) (hI : I ∈ fp)
    (hQ : ∀ s' acc, Moved wr G s s' → ItemsOf P acc n → Q (.ref s'.heap.objs.size) { s' with heap := s'.heap.push { cls := .type "tuple", data := .seq acc } }) (hsz : n ≤ sizeLine) :
    wpAny (model prog w) A (call (.type "tuple") [.ref I]) Q E s := by
  refine callType_codes (Q₁ := fun obj s₁ => s₁.TypeIs obj "tuple" ∧ Q obj s₁) F.called_tuple (F.typeCall_tuple_1 _) F.entry_object_init
    (new_tuple_map (hsz := hsz) W hT hst hfp hI fun s' acc hm hacc => ⟨⟨_, Heap.get?_push_size _ rfl, rfl⟩, hQ s' acc hm hacc⟩) fun obj s₁ h₁ => ?_
  exact ⟨h₁.1, F.args_object_init_2 obj _, object_init_meets F.called_tuple.init.lookup F.called_tuple.made (by decide) prog w A.in1 _ s₁ ⟨h₁.1, rfl, h₁.2⟩⟩
end
end
section
noncomputable abbrev itObj (l : Addr) (i : Nat) : Obj := { cls := .type "list_iterator", data := .fields #[.ref l, .int (i : Int) 0] }
theorem iter_is {h : Heap} {I l : Addr} (e : h.get? I = some (itObj l 0)) : h.IsListIter I l 0 := ⟨_, e, rfl, rfl⟩
section
variable {w : World} {mean : ExcName → Option Value} {mg mb : Str → Option Value} {dp un : Nat} {fr : Option (List Env)} {gd : Option (List Code)} {s : Shared} {Q E : Value → Shared → Prop}
  {h₀ : Heap} {L : Addr} {m : Str → Option Value} {news : List (Addr × Obj)}
    (F : Fr h₀ L s.heap m)
include F
theorem map_at {f : Value} {l : Addr} {vs : List Value} {n : Nat} (N : News h₀ L s.heap news) (hl : (l, listOf vs.toArray n) ∈ news)
    (h : ∀ M TI I h', Fr h₀ L h' m → News h₀ L h' ((M, mapObj TI f) :: (TI, mapTup I) :: (I, itObj l 0) :: news) → (M ≠ I ∧ TI ≠ I ∧ I < TI ∧ TI < M) → (∀ p ∈ news, p.1 < I) → Q (.ref M) { s with heap := h' }) :
    wpAny (model PySem.Challenge.rw_pd0169_01.row.prog w) (Ar dp un fr gd) (call (.type "map") [f, .ref l]) Q E s := by
  refine call_map (at_list N hl) ?_
  have F1 := F.push (itObj l 0)
  have N1 : News h₀ L (s.heap.push (itObj l 0)) ((s.heap.objs.size, itObj l 0) :: news) := N.push F _
  have F2 := F1.push (mapTup s.heap.objs.size)
  have N2 := N1.push F1 (mapTup s.heap.objs.size)
  have F3 := F2.push (mapObj (s.heap.objs.size + 1) f)
  have N3 := N2.push F2 (mapObj (s.heap.objs.size + 1) f)
  simp only [Heap.size_push] at N3
  exact h _ _ _ _ F3 N3 ⟨Nat.ne_of_gt (Nat.lt_of_lt_of_le (Nat.lt_succ_self _) (Nat.le_succ _)), Nat.ne_of_gt (Nat.lt_succ_self _), Nat.lt_succ_self _, Nat.lt_succ_self _⟩ fun p hp => Heap.lt_size (N p hp).1
theorem tuple_map_at {l M TI I : Addr} {vs : List Value} {xs : List Str} {n : Nat} (N : News h₀ L s.heap ((M, mapObj TI (.ref 130)) :: (TI, mapTup I) :: (I, itObj l 0) :: news)) (X : (Mine.hd.heap_39 w.params).In h₀) (T : Top Mine.hd.view_39 (looseW Mine.hd.view_39 [Str.ofString "IPV4_RE"]) mean mg mb h₀)
    (hl : (l, listOf vs.toArray n) ∈ news) (hv : StrsAre vs xs) (hne : M ≠ I ∧ TI ≠ I ∧ I < TI ∧ TI < M) (hlt : ∀ p ∈ news, p.1 < I) (hz : vs.length ≤ 1000) (hdp : dp + 2 < recursionLimit)
    (h : ∀ D h' tk', Fr h₀ L h' m → News h₀ L h' ((D, ({ cls := .type "tuple", data := .seq vs.toArray } : Obj)) :: news) → (∀ p ∈ news, p.1 < D) → Q (.ref D) { s with heap := h', toks := tk' }) :
    wpAny (model PySem.Challenge.rw_pd0169_01.row.prog w) (Ar dp un fr gd) (call (.type "tuple") [.ref M]) Q E s := by
  have hM := (N _ (.head _)).1
  have hTI := (N _ (.tail _ (.head _))).1
  have hIo := (N _ (.tail _ (.tail _ (.head _)))).1
  have NI := (N _ (.tail _ (.tail _ (.head _)))).2
  dsimp only at hM hTI hIo
  have Nn : News h₀ L s.heap news := fun p hp => N p (.tail _ (.tail _ (.tail _ hp)))
  have hlI : l ≠ I := Nat.ne_of_lt (hlt _ hl)
  have hls := at_list Nn hl
  let St : Nat → Shared → Prop := fun i s' => (∀ b o, b ≠ I → s.heap.get? b = some o → s'.heap.get? b = some o) ∧ s'.heap.IsListIter I l i
  have W : WalksS PySem.Challenge.rw_pd0169_01.row.prog w (Ar dp un fr gd).in1.in1.in1 M (List.range s.heap.objs.size) [I] (fun a b => b = a) vs.length (fun i v => vs[i]? = some v) St := {
    sub := fun b hb => by rw [List.mem_singleton.mp hb]; exact List.mem_range.mpr (Heap.lt_size hIo)
    grefl := fun _ => rfl
    gtrans := fun _ _ _ h1 h2 => h2.trans h1
    frame := fun i s' h' _ st _ hk => by
      refine ⟨fun b o hb e => hk b (List.mem_range.mpr (Heap.lt_size e)) o (st.1 b o hb e), ?_⟩
      exact st.2.at fun o e => hk I (List.mem_range.mpr (Heap.lt_size hIo)) o e
    item := fun i s' Q' E' hi st hQ => by
      obtain ⟨x, t, ev, ex⟩ := strsAre_get hv i vs[i] (by simp [hi])
      refine wpAny_with_toks (Nat.le_refl s'.toks) (pyNext_map_item (st.1 _ _ hne.1 hM) (st.1 _ _ hne.2.1 hTI) st.2 (hls.at fun o e => st.1 _ o hlI e) (x := vs[i]) (by simp [hi]) hne.1 fun h₁ hit hsb => ?_)
      have k₀ : ∀ b o, h₀.get? b = some o → h₁.get? b = some o := fun b o e => by
        have hb : b ≠ I := fun q => by have z := NI.2; dsimp only at z; rw [q, z] at e; cases e
        exact (hsb.2 b hb).trans (st.1 b o hb (F.keep b o e))
      rw [ev]
      refine fspath_ok (s := { s' with heap := h₁ }) (X.keeps k₀) (T.keeps k₀) hdp x t fun h₂ tk₂ k₂ => ?_
      intro htk
      rw [← ev]
      refine hQ _ _ (by simp [hi]) ⟨fun b o hb e => k₂ b o ((hsb.2 b hb).trans (st.1 b o hb e)), hit.at fun o e => k₂ _ o e⟩ ⟨fun b o hb e => ?_, rfl, rfl, rfl, htk⟩
      exact k₂ b o ((hsb.2 b (fun q => hb (by rw [q]; exact List.mem_singleton.mpr rfl))).trans e)
    done := fun s' Q' E' st hQ => by
      refine pyNext_map_end rfl (st.1 _ _ hne.1 hM) (st.1 _ _ hne.2.1 hTI) st.2 (hls.at fun o e => st.1 _ o hlI e) (by simp) fun h' hk => ?_
      exact hQ _ ⟨fun b o hb e => hk b o (fun q => hb (by rw [q]; exact List.mem_singleton.mpr rfl)) e, rfl, rfl, rfl, Nat.le_refl _⟩
    self := fun i s' Q' E' st hQ => pyIter_map (st.1 _ _ hne.1 hM) hQ }
  have hT : ∀ i s', St i s' → s'.TypeIs (.ref M) "map" := fun i s' st => ⟨_, st.1 _ _ hne.1 hM, rfl⟩
  refine call_tuple_map W hT ⟨fun b o _ e => e, iter_is hIo⟩ (fun b hb => List.mem_range.mp hb) (List.mem_range.mpr (Heap.lt_size hM)) (fun s' acc hm hacc => ?_) (by rw [sizeLine_eq]; omega)
  have ea : acc = vs.toArray := by
    apply Array.ext
    · rw [hacc.1]; simp
    · intro i h1 h2
      have := hacc.2 i acc[i] (by simp [h1])
      simp at h2
      have e2 : vs[i]? = some vs[i] := by simp [h2]
      dsimp only at this
      rw [e2] at this
      simpa using (Option.some.inj this).symm
  subst ea
  have keep : ∀ b o, b ≠ I → s.heap.get? b = some o → s'.heap.get? b = some o := fun b o hb e => hm.heap b o (fun q => hb (List.mem_singleton.mp q)) e
  have F' : Fr h₀ L s'.heap m := kmb_fr F (fun b o hb e => hm.heap b o hb e) (by have z := NI.1; dsimp only at z; exact z) (by have z := NI.2; dsimp only at z; exact z)
  have N' : News h₀ L s'.heap news := fun p hp => ⟨keep _ _ (Nat.ne_of_lt (hlt p hp)) (Nn p hp).1, (Nn p hp).2⟩
  obtain ⟨h1, g1, d1, t1, o1⟩ := s'
  obtain ⟨_, hg, hd, ho, _⟩ := hm
  dsimp only at hg hd ho F' N'
  subst hg hd ho
  exact h _ _ _ (F'.push _) (N'.push F' _) fun p hp => Heap.lt_size (N' p hp).1
end
end
section
noncomputable abbrev set0 (led : Bool) : Obj := { cls := .type "set", dict := none, data := .set #[] 0 (.fresh 0 0 led) }
noncomputable abbrev tab1 (led : Bool) : SetTable := { mask := 7, place := #[1], dummies := #[], finger := 0, led := led, moves := 0, plain := true }
noncomputable abbrev set1 (led : Bool) : Obj := { cls := .type "set", dict := none, data := .set #[(1, .bool true)] 1 (tab1 led) }
theorem lay_one (led : Bool) : layNew (.fresh 0 0 led) #[] 1 (.bool true) = (#[(1, .bool true)], tab1 led, false, false) := by cases led <;> decide
theorem entry_bool_hash : entryFor table "int.__hash__" = some Builtin.«int.__hash__» := F.entry_int_hash
theorem args_bool_hash (a : Value) : argsOk "int.__hash__" ⟨[a], []⟩ := by unfold argsOk; kernel_rfl
section
variable {prog : Program} {w : World} {A : Around} {E : Value → Shared → Prop} {s : Shared} {a : Addr} {led : Bool}
theorem hash_true {Q : Int → Shared → Prop} (h : Q 1 { s with toks := s.toks + 1 }) : wpAny (model prog w) A (pyHash (.bool true)) Q E s := by
  have hT : s.TypeIs (.bool true) "bool" := rfl
  unfold pyHash
  have hv : [Value.bool true].any Value.onHeap = false := rfl
  refine wpAny_bind ?_
  rw [cRoomFor, if_neg (by rw [hv]; exact Bool.false_ne_true)]; refine wpAny_pure ?_
  refine wpAny_bind (wpAny_specialOf hT F.slot_bool_hash.lookup ?_)
  show wpAny _ _ (if (some (Value.builtin "int.__hash__") == some Value.none) = true then _ else _) Q E s
  rw [if_neg (by rw [beq_builtin_none]; exact Bool.false_ne_true)]
  refine wpAny_bind (wpAny_specialOf hT F.slot_bool_hash.lookup ?_)
  show wpAny _ _ (callSpecialIfBoundUnlessNone? (.bool true) "__hash__" _ >>= _) Q E s
  refine wpAny_bind (wpAny_callSpecialIfBoundUnlessNone?_slot hT F.slot_bool_hash
    (wpAny_call_entry F.slot_bool_hash hT entry_bool_hash
      (show wpAny _ _ (do ret (← mkInt (rawHash 1))) _ _ s from wpAny_ret_mkInt ?_) (args_bool_hash _)))
  have e1 : rawHash 1 = 1 := by decide +kernel
  rw [e1]
  show wpAny _ _ (pyHashByItsType.reduced 1) _ _ _
  refine wpAny_of_eq (show pyHashByItsType.reduced 1 = pure 1 from rfl) h
noncomputable abbrev getSet (s : Shared) (a : Addr) (o : Obj) : Prop := s.heap.get? a = some o
theorem add_first {Q : Value → Shared → Prop} (ha : s.heap.get? a = some (set0 led))
    (h : ∀ h', h'.get? a = some (set1 led) → Heap.SameBut a s.heap h' → Q .none { s with heap := h', toks := s.toks + 1 }) : wpAny (model prog w) A (call (.builtin "set.add") [.ref a, .bool true]) Q E s := by
  have hT : s.TypeIs (.ref a) "set" := ⟨_, ha, rfl⟩
  refine wpAny_call_entry F.slot_set_add hT F.entry_set_add ?_ (F.args_set_add_2 _ _)
  unfold Builtin.«set.add» Builtin.Frozenset.oneOther
  simp only [List.isEmpty_nil, bind_assoc]
  unfold Builtin.Frozenset.addrOf setAdd
  refine wpAny_bind (wpAny_pure ?_)
  try dsimp only
  refine wpAny_bind (wpAny_pure ?_)
  try dsimp only
  refine wpAny_bind ?_
  refine wpAny_holding ?_
  refine wpAny_bind (hash_true ?_)
  unfold setAddHashed setAddHashedIn
  refine wpAny_holding (wpAny_bind (wpAny_setState_of (s := { s with toks := s.toks + 1 }) ha rfl rfl ?_))
  dsimp only
  rw [if_pos (show byScan (.bool true) #[] = true by decide +kernel)]
  unfold setAddByScan
  refine wpAny_bind ?_
  refine wpAny_bind (wpAny_rule ?_)
  refine wpAny_bind (wpAny_of_eq (show setScan a (.bool true) 1 true #[] = pure .absent from rfl) ?_)
  dsimp only
  rw [lay_one]
  dsimp only
  refine wpAny_bind (show wpAny _ _ (pure ()) _ _ _ from wpAny_pure ?_)
  rw [if_pos rfl]
  refine wpAny_bind (wpAny_of_eq (show hashByValue 8 (.bool true) = pure true from rfl) ?_)
  (try dsimp only)
  rw [if_pos rfl]
  refine wpAny_bind (wpAny_storeSet_of (s := { s with toks := s.toks + 1 }) ha rfl ?_ (by rw [sizeLine_eq]; decide))
  rw [if_neg (by cases led <;> decide)]
  refine wpAny_pure (wpAny_pure ?_)
  show wpAny _ _ (ret Value.none) _ _ _
  refine wpAny_pure ⟨_, rfl, h _ ?_ (Heap.SameBut.update ..)⟩
  exact Heap.get?_update_self _ ha rfl
theorem add_again {Q : Value → Shared → Prop} (ha : s.heap.get? a = some (set1 led)) (h : Q .none { s with toks := s.toks + 1 }) : wpAny (model prog w) A (call (.builtin "set.add") [.ref a, .bool true]) Q E s := by
  have hT : s.TypeIs (.ref a) "set" := ⟨_, ha, rfl⟩
  refine wpAny_call_entry F.slot_set_add hT F.entry_set_add ?_ (F.args_set_add_2 _ _)
  unfold Builtin.«set.add» Builtin.Frozenset.oneOther
  simp only [List.isEmpty_nil, bind_assoc]
  unfold Builtin.Frozenset.addrOf setAdd
  refine wpAny_bind (wpAny_pure ?_)
  try dsimp only
  refine wpAny_bind (wpAny_pure ?_)
  try dsimp only
  refine wpAny_bind ?_
  refine wpAny_holding ?_
  refine wpAny_bind (hash_true ?_)
  unfold setAddHashed setAddHashedIn
  refine wpAny_holding (wpAny_bind (wpAny_setState_of (s := { s with toks := s.toks + 1 }) ha rfl rfl ?_))
  dsimp only
  rw [if_pos (show byScan (.bool true) #[(1, .bool true)] = true by decide +kernel)]
  unfold setAddByScan
  refine wpAny_bind ?_
  refine wpAny_bind (wpAny_rule ?_)
  refine wpAny_bind ?_
  show wpAny _ _ (setEpoch a >>= _) _ _ _
  refine wpAny_bind (wpAny_setEpoch_of (s := { s with toks := s.toks + 1 }) ha rfl rfl ?_)
  refine wpAny_bind ?_
  unfold eqBool
  refine wpAny_holding ?_
  rw [if_pos (by rfl)]
  refine wpAny_bind (wpAny_rule (wpAny_pure ?_))
  rw [if_pos (by rfl)]
  refine wpAny_pure (wpAny_pure (wpAny_pure ?_))
  show wpAny _ _ (ret Value.none) _ _ _
  exact wpAny_pure ⟨_, rfl, h⟩
end
end
section
noncomputable def byT (w : World) : Bool := w.params.followText "set-order"
theorem entry_set_iter : entryFor table "set.__iter__" = some Builtin.«frozenset.__iter__» :=
  entryFor_alias (id' := "frozenset.__iter__") (by kernel_rfl) rfl (by decide +kernel) (by kernel_rfl)
theorem slot_setit_next : Slot "set_iterator" "__next__" "set_iterator.__next__" :=
  .of (owner := "set_iterator") (n := "__next__") (by rw [typeLookup_type, builtinLookup_eq_fast]; kernel_rfl) (by decide +kernel) (by decide +kernel) (by decide +kernel)
    (by first | exact .inl (by decide +kernel) | exact .inr (by decide +kernel)) (by rw [isSubtype_type]; kernel_rfl)
theorem entry_setit_next : entryFor table "set_iterator.__next__" = some Builtin.«set_iterator.__next__» := entryFor_of_tree (by kernel_rfl)
theorem args_setit_next (a : Value) : argsOk "set_iterator.__next__" ⟨[a], []⟩ := by unfold argsOk; kernel_rfl
noncomputable abbrev setIt (a : Addr) (first i : Nat) : Obj := { cls := .type "set_iterator", data := .fields #[rawInt (first : Int), rawInt (i : Int), .ref a, rawInt 1, rawInt 1] }
section
variable {prog : Program} {w : World} {A : Around} {E : Value → Shared → Prop} {s : Shared} {a I : Addr}
theorem new_set {Q : Value → Shared → Prop} (h : Q (.ref s.heap.objs.size) { s with heap := s.heap.push (set0 (!byT w)) }) : wpAny (model prog w) A (newSet (.type "set")) Q E s := by
  unfold newSet setsByText
  refine wpAny_bind (wpAny_bind (wpAny_askSetting (wpAny_pure ?_)))
  dsimp only
  simp only [newObj]
  exact wpAny_bind (wpAny_alloc (wpAny_pure h))
theorem iter_set {Q : Value → Shared → Prop} (ha : s.heap.get? a = some (set1 (!byT w))) (h : Q (.ref s.heap.objs.size) { s with heap := s.heap.push (setIt a 0 0) }) : wpAny (model prog w) A (pyIter (.ref a)) Q E s := by
  have hT : s.TypeIs (.ref a) "set" := ⟨_, ha, rfl⟩
  refine wpAny_pyIter_slot hT F.slot_set_iter (wpAny_call_entry F.slot_set_iter hT entry_set_iter ?_ (F.args_set_iter_1 _))
  unfold Builtin.«frozenset.__iter__»
  refine wpAny_bind (show wpAny _ _ (pure a) _ _ _ from wpAny_pure ?_)
  unfold Builtin.Frozenset.sizeOf
  refine wpAny_bind (wpAny_bind (wpAny_setEntries_of ha rfl rfl (wpAny_pure ?_)))
  refine wpAny_bind ?_
  unfold setDrawn setsByText
  refine wpAny_bind (wpAny_setState_of ha rfl rfl ?_)
  dsimp only
  refine wpAny_bind (wpAny_bind (wpAny_askSetting (wpAny_pure (wpAny_pure ?_))))
  show wpAny _ _ (if (_ && false) = true then _ else _) _ _ _
  rw [Bool.and_false, if_neg Bool.false_ne_true]
  refine wpAny_bind (wpAny_pure ?_)
  refine wpAny_bind (wpAny_setEpoch_of ha rfl rfl ?_)
  refine wpAny_bind (wpAny_newObj_type ?_ (by size_fits))
  exact wpAny_pure ⟨_, rfl, "set_iterator", _, ⟨_, Heap.get?_push_size _ rfl, rfl⟩, slot_setit_next.lookup, h⟩
/-- what the set's table tells at a turn -/
theorem set_next_one {slot : Nat} {Q : Option (Value × Nat) → Shared → Prop} (ha : s.heap.get? a = some (set1 (!byT w))) (hs : slot = 0) (h : ∀ j, (byT w = false → j = 2) → Q (some (.bool true, j)) s) : wpAny (model prog w) A (setNext a slot 0 1) Q E s := by
  subst hs
  unfold setNext setsByText
  refine wpAny_bind (wpAny_setState_of ha rfl rfl ?_)
  dsimp only
  refine wpAny_bind (wpAny_bind (wpAny_askSetting (wpAny_pure ?_)))
  cases e : byT w with
  | true =>
    have e' : (model prog w).w.params.followText "set-order" = true := e
    dsimp only
    rw [if_pos e', if_neg (by decide)]
    unfold setWalk setsByText
    refine wpAny_bind (wpAny_bind (wpAny_setState_of ha rfl rfl ?_))
    dsimp only
    refine wpAny_bind (wpAny_bind (wpAny_askSetting (wpAny_pure ?_)))
    dsimp only
    rw [if_pos e']
    refine wpAny_bind (wpAny_askSetting (wpAny_pure (wpAny_pure ?_)))
    refine cast (congrArg (fun r => Q r s) ?_) (h 0 (fun q => by rw [e] at q; cases q))
    unfold pickOrder pickOrder.go
    simp [Nat.mod_one, pickOrder.go]
  | false =>
    have e' : (model prog w).w.params.followText "set-order" = false := e
    dsimp only
    rw [if_neg (by rw [e']; exact Bool.false_ne_true)]
    show wpAny _ _ (if false = true then _ else _) _ _ _
    rw [if_neg Bool.false_ne_true]
    refine wpAny_bind (show wpAny _ _ (if false = true then _ else _) _ _ _ from ?_)
    rw [if_neg Bool.false_ne_true]
    refine wpAny_pure (wpAny_pure ?_)
    exact h 2 (fun _ => rfl)
theorem set_next_end {slot : Nat} {Q : Option (Value × Nat) → Shared → Prop} (ha : s.heap.get? a = some (set1 (!byT w))) (hs : byT w = false → slot = 2) (h : Q none s) : wpAny (model prog w) A (setNext a slot 1 1) Q E s := by
  unfold setNext setsByText
  refine wpAny_bind (wpAny_setState_of ha rfl rfl ?_)
  dsimp only
  refine wpAny_bind (wpAny_bind (wpAny_askSetting (wpAny_pure ?_)))
  cases e : byT w with
  | true =>
    have e' : (model prog w).w.params.followText "set-order" = true := e
    dsimp only
    rw [if_pos e', if_neg (by decide)]
    unfold setWalk setsByText
    refine wpAny_bind (wpAny_bind (wpAny_setState_of ha rfl rfl ?_))
    dsimp only
    refine wpAny_bind (wpAny_bind (wpAny_askSetting (wpAny_pure ?_)))
    dsimp only
    rw [if_pos e']
    refine wpAny_bind (wpAny_askSetting (wpAny_pure (wpAny_pure ?_)))
    refine cast (congrArg (fun r => Q r s) ?_) h
    unfold pickOrder pickOrder.go
    simp [Nat.mod_one, pickOrder.go]
  | false =>
    have e' : (model prog w).w.params.followText "set-order" = false := e
    obtain rfl := hs e
    dsimp only
    rw [if_neg (by rw [e']; exact Bool.false_ne_true)]
    show wpAny _ _ (if false = true then _ else _) _ _ _
    rw [if_neg Bool.false_ne_true]
    refine wpAny_bind (show wpAny _ _ (if false = true then _ else _) _ _ _ from ?_)
    rw [if_neg Bool.false_ne_true]
    refine wpAny_pure (wpAny_pure ?_)
    exact h
theorem pyNext_set_one {Q : Option Value → Shared → Prop} (ha : s.heap.get? a = some (set1 (!byT w))) (hI : s.heap.get? I = some (setIt a 0 0)) (hne : a ≠ I)
    (h : ∀ h' j, (byT w = false → j = 2) → h'.get? I = some (setIt a j 1) → Heap.SameBut I s.heap h' → Q (some (.bool true)) { s with heap := h' }) : wpAny (model prog w) A (pyNext (.ref I)) Q E s := by
  have hT : s.TypeIs (.ref I) "set_iterator" := ⟨_, hI, rfl⟩
  unfold pyNext
  refine wpAny_bind (wpAny_attempt (wpAny_callSpecial?_slot (name := Str.ofString "__next__") hT slot_setit_next
    (wpAny_call_entry slot_setit_next hT entry_setit_next ?_ (args_setit_next _))))
  unfold Builtin.«set_iterator.__next__»
  refine wpAny_bind (wpAny_pure ?_)
  dsimp only
  unfold fieldsOf
  dsimp only
  refine wpAny_bind (wpAny_bind (wpAny_load hI (wpAny_pure ?_)))
  dsimp only
  refine wpAny_bind (wpAny_setEntries_of ha rfl rfl ?_)
  rw [if_neg (by simp)]
  show wpAny _ _ (setNext a 0 0 1 >>= _) _ _ _
  refine wpAny_bind (set_next_one ha rfl fun j hj => ?_)
  dsimp only
  refine wpAny_bind (wpAny_setField_rec hI (by simp) fun h₁ hI₁ hs₁ => ?_)
  refine wpAny_bind (wpAny_setField_rec (s := { s with heap := h₁ }) hI₁ (by simp) fun h₂ hI₂ hs₂ => ?_)
  refine wpAny_pure ⟨_, rfl, wpAny_pure (h h₂ j hj hI₂ (hs₁.trans hs₂))⟩
theorem pyNext_set_end {j : Nat} {Q : Option Value → Shared → Prop} (hh : A.handled = none) (ha : s.heap.get? a = some (set1 (!byT w))) (hI : s.heap.get? I = some (setIt a j 1)) (hj : byT w = false → j = 2)
    (h : ∀ h', Heap.ExtBut I s.heap h' → Q none { s with heap := h' }) : wpAny (model prog w) A (pyNext (.ref I)) Q E s := by
  have hT : s.TypeIs (.ref I) "set_iterator" := ⟨_, hI, rfl⟩
  unfold pyNext
  refine wpAny_bind (wpAny_attempt (wpAny_callSpecial?_slot (name := Str.ofString "__next__") hT slot_setit_next
    (wpAny_call_entry slot_setit_next hT entry_setit_next ?_ (args_setit_next _))))
  unfold Builtin.«set_iterator.__next__»
  refine wpAny_bind (wpAny_pure ?_)
  dsimp only
  unfold fieldsOf
  dsimp only
  refine wpAny_bind (wpAny_bind (wpAny_load hI (wpAny_pure ?_)))
  dsimp only
  refine wpAny_bind (wpAny_setEntries_of ha rfl rfl ?_)
  rw [if_neg (by simp)]
  show wpAny _ _ (setNext a ((j : Int).toNat) 1 1 >>= _) _ _ _
  refine wpAny_bind (set_next_end ha (fun q => by rw [hj q]; rfl) ?_)
  dsimp only
  refine wpAny_bind (wpAny_setField_rec hI (by simp) fun h₁ hI₁ hs₁ => ?_)
  refine wpAny_bind ?_
  simp only [newExc, newTuple]
  refine wpAny_bind (wpAny_newObj_type ?_ (by size_fits))
  refine wpAny_bind (m := firstArgMember _ _) (wpAny_of_eq (a := Value.none) (by first | rfl | (simp only [firstArgMember]; rfl)) ?_)
  refine wpAny_newObj_type ?_ (by size_fits)
  simp only [raiseNew]
  refine wpAny_bind (wpAny_handled ?_)
  rw [show A.in1.handled = none from hh]
  refine wpAny_bind (wpAny_pure (wpAny_throw ?_))
  refine wpAny_bind (wpAny_isInstance (T := "StopIteration") (b := true) ⟨_, Heap.get?_push_size _ rfl, rfl⟩ isSubtype_stop ?_)
  exact wpAny_pure (h _ ((hs₁.extBut.push _).push _))
/-- a set of True alone, taken apart -/
theorem unpack_set {Q : List Value → Shared → Prop} (hh : A.handled = none) (ha : s.heap.get? a = some (set1 (!byT w)))
    (hQ : ∀ h', Heap.ExtBut s.heap.objs.size s.heap h' → Q [.bool true] { s with heap := h' }) : wpAny (model prog w) A (unpackItems (.ref a) 1 none) Q E s := by
  have hT : s.TypeIs (.ref a) "set" := ⟨_, ha, rfl⟩
  have hne : a ≠ s.heap.objs.size := Nat.ne_of_lt (Heap.lt_size ha)
  unfold unpackItems notIterableAtAll
  refine wpAny_bind (wpAny_bind (wpAny_specialOf hT F.slot_set_iter.lookup (wpAny_pure ?_)))
  simp only [Bool.false_eq_true, if_false]
  refine wpAny_bind (wpAny_holding (iter_set ha ?_))
  refine wpAny_bind (wpAny_holding ?_)
  show wpAny _ _ (pyNext (.ref s.heap.objs.size) >>= _) _ _ _
  have ha₁ : (s.heap.push (setIt a 0 0)).get? a = some (set1 (!byT w)) := Heap.get?_push_of_some _ ha
  refine wpAny_bind (pyNext_set_one (s := { s with heap := s.heap.push (setIt a 0 0) }) ha₁ (Heap.get?_push_size _ rfl) hne fun h₂ j hj hI₂ hs₂ => ?_)
  refine wpAny_bind (wpAny_holding (wpAny_pure (wpAny_pure ?_)))
  rw [if_neg (by simp)]
  have ha₂ : h₂.get? a = some (set1 (!byT w)) := (hs₂.2 a hne).trans ha₁
  refine wpAny_bind (wpAny_holding (pyNext_set_end (s := { s with heap := h₂ }) hh ha₂ hI₂ hj fun h₃ he₃ => ?_))
  simp only [Option.isSome_none, Bool.false_eq_true, if_false]
  refine wpAny_pure (hQ h₃ fun b o hb e => he₃ b o hb (hs₂.extBut b o hb (Heap.get?_push_of_some _ e)))
end
end
section
noncomputable abbrev tupObj (its : Array Value) : Obj := { cls := .type "tuple", data := .seq its }
/-- a tuple of the ledger's -/
noncomputable abbrev SrcTup (ax : Addr) (its : Array Value) (news : List (Addr × Obj)) : Prop := False ∨ ∃ o, (ax, o) ∈ news ∧ o.cls = .type "tuple" ∧ ∃ n, o.data = .seq its n
theorem SrcTup.is {h₀ h : Heap} {L ax : Addr} {its : Array Value} {news : List (Addr × Obj)} (x : SrcTup ax its news) (N : News h₀ L h news) : h.IsTuple ax its := by
  rcases x with x | ⟨o, hm, r⟩
  · exact x.elim
  · exact ⟨o, (N _ hm).1, r⟩
section
variable {prog : Program} {w : World} {A : Around} {E : Value → Shared → Prop} {s : Shared} {h₀ : Heap} {L : Addr} {m : Str → Option Value} {env : Env}
noncomputable def TupAt (prog : Program) (w : World) (A : Around) (h₀ : Heap) (L : Addr) (m : Str → Option Value) (env : Env) (elt : Expr) (x : Str) (scope : Scope) (cl : List (Str × Addr)) (y : Str) (Q : Flow → Shared → Prop) (xv : Value) (s₁ : Shared) : Prop :=
  ∃ ax its news, xv = .ref ax ∧ A.handled = none ∧ Fr h₀ L s₁.heap m ∧ News h₀ L s₁.heap news ∧ SrcTup ax its news ∧ its.size ≤ sizeLine ∧
    ∀ g, LCg.CompRest prog w A h₀ L m env elt x scope cl { s₁ with heap := g } (SrcTup ax its) (fun i v => its[i]? = some v) (LCg.FinA h₀ L m { s₁ with heap := g } y Q) its.size 0 [] news
theorem tup_st {ax I : Addr} {its : Array Value} : ∀ i (h h' : Heap) (o : Obj) (nw : List (Addr × Obj)), (h.IsTupleIter I ax i ∧ h.IsTuple ax its) → h.get? I = some o → h'.get? I = some o → (∀ b o, h₀.get? b = some o → h'.get? b = some o) → News h₀ L h' nw → SrcTup ax its nw → (h'.IsTupleIter I ax i ∧ h'.IsTuple ax its) :=
  fun i h h' o nw st e e' k N S => ⟨by obtain ⟨o', q, r⟩ := st.1; rw [e] at q; cases q; exact ⟨o, e', r⟩, S.is N⟩
theorem assign_comp_tuple {elt iter : Expr} {x y : Str} {px py : Pos} {scope : Scope} {cl : List (Str × Addr)} {pos spos : Pos} {Q : Flow → Shared → Prop} (F₀ : Fr h₀ L s.heap m) (hLe : env.locals = L)
    (hsw : swapsWith (.ListComp elt [⟨.Name x px, iter, [], 0⟩] scope pos) (some (.Name y py)) spos.line env = pure true)
    (hclos : closureFor scope env = pure cl) (hcell : ∀ z ∈ scope.names, z.2 ≠ .cell) (hkind : scope.kind = .function)
    (hnames : ∀ z ∈ scope.names, z.2 = .local → scope.names.lookup z.1 = some .local) (hx : scope.names.lookup x = some .local)
    (hy : env.kindOf y = some .local) (hp : (env.scope.kind == .class || (env.scope.kind == .module && env.locals != env.globals)) = false)
    (h : wpAny (model prog w) A (eval iter env) (TupAt prog w A h₀ L m env elt x scope cl y Q) E s)
    (hs : ∀ x, foldedSetIterable iter env x = pure x) :
    wpAny (model prog w) A (exec (.Assign [.Name y py] (.ListComp elt [⟨.Name x px, iter, [], 0⟩] scope pos) spos) env) Q E s := by
  subst hLe
  rw [exec_Assign_Name_used _ _ _ _ hsw]
  refine wpAny_bind (wpAny_standAt (wpAny_bind ?_))
  show wpAny _ A (do let _ ← comprehension (.ListComp elt [⟨.Name x px, iter, [], 0⟩] scope pos) scope env _ (newList []) false (eval iter env) (some (assign (.Name y py) env))) _ _ s
  refine wpAny_bind (wpAny_mono (wpAny_comprehension_free (use := some (assign (.Name y py) env)) (Q := fun _ s' => Q .next s') rfl hs hclos hkind hnames
    (wpAny_mono h (fun xv s₁ h₁ => ?_) fun _ _ e => e)) (fun _ s' hq => wpAny_pure (wpAny_pure hq)) fun _ _ e => e)
  obtain ⟨ax, its, news, rfl, hh, F, N, S, hsz, R⟩ := h₁
  have hl := S.is N
  have hlt : ax < s₁.heap.objs.size := by obtain ⟨_, e, _⟩ := hl; exact Heap.lt_size e
  refine wpAny_pyIter_tuple hl ?_
  have up : ∀ b o, s₁.heap.get? b = some o → (s₁.heap.push { cls := .type "tuple_iterator", data := .fields #[.ref ax, .int 0 0] }).get? b = some o := fun b o e => Heap.get?_push_of_some _ e
  refine LCg.block_U (Walks.tuple hh s₁.heap.objs.size ax (Nat.ne_of_lt hlt) its) hsz (fun i h st => by obtain ⟨o, e, _⟩ := st.1; exact ⟨o, e⟩) tup_st hcell hkind hx ⟨⟨_, Heap.get?_push_size _ rfl, rfl, rfl⟩, hl.push _⟩ (fun b hb => ?_)
    (F.keeps up) (N.grown up) (Nat.ne_of_lt F.ns.lt) (next_is_new F) (fun p hp => Nat.ne_of_lt (Heap.lt_size (N p hp).1)) S (R _) ?_
  · show b < (s₁.heap.push _).objs.size
    rw [Heap.size_push]
    rcases List.mem_cons.mp hb with rfl | hb
    · exact Nat.lt_succ_self _
    · rw [List.mem_singleton.mp hb]; exact Nat.lt_succ_of_lt hlt
  · intro D C h' tk m' ys news' F' N' o1 hn hC₀ hD₀ hCL hDL hCD offC fin
    show wpAny _ A (assign (.Name y py) env (.ref D)) _ _ _
    refine wpAny_assign_Name (wpAny_storeName_local hy F'.ns (fun h₂ hn₂ hs₂ => ?_) hp)
    have hL₀ : h₀.get? env.locals = none := Heap.get?_none_of_le F'.above
    have F₂ : Fr h₀ env.locals h₂ (fun z => if z = y then some (.ref D) else m z) := ⟨hn₂, fun b o e => hs₂.extBut b o (fun q => by rw [q, hL₀] at e; cases e) (F'.keep b o e), F'.above⟩
    refine ⟨m', hn.sameBut hs₂ hCL, fun h'' hs'' => fin D h'' _ (F₂.change hs'' hCL hC₀) (fun p hp => ?_) o1⟩
    have z : h₂.get? p.1 = some p.2 := hs₂.extBut _ _ (N' p hp).2.1 (N' p hp).1
    refine ⟨hs''.extBut _ _ ?_ z, (N' p hp).2⟩
    rcases List.mem_cons.mp hp with rfl | hp
    · exact Ne.symm hCD
    · exact offC p hp
end
end
section
theorem compTurn_set (elt target iter : Expr) (scope : Scope) (pos : Pos) (it acc : Value) (env : Env) :
    compTurn (.SetComp elt [⟨target, iter, [], 0⟩] scope pos) 0 it acc env = (standAt iter.pos >>= fun _ => pyNext it >>= fun r => match r with
      | none => pure (.done .next)
      | some v => letOwnedTupleGo target it v >>= fun _ => assign target env v >>= fun _ =>
        (eval elt env >>= fun x => standAt elt.pos >>= fun _ => call (.builtin "set.add") [acc, x] >>= fun _ => pure ()) >>= fun _ =>
          again (.compLoop (.SetComp elt [⟨target, iter, [], 0⟩] scope pos) 0 it acc env)) := by rfl
section
variable {prog : Program} {w : World} {A : Around} {E : Value → Shared → Prop} {R : Result → Shared → Prop} {s : Shared} {env : Env}
theorem eval_SetComp_ (elt : Expr) (g : Comprehension) (gs : List Comprehension) (scope : Scope) (pos : Pos) : eval (.SetComp elt (g :: gs) scope pos) env = comprehension (.SetComp elt (g :: gs) scope pos) scope env (firstIterPos (g :: gs) pos) (newSet (.type "set")) (firstAsync (g :: gs)) (firstIter (g :: gs) env) := by
  rw [arm_eval_SetComp]
theorem start_set {elt target iter : Expr} {ifs : List Expr} {rest : List Comprehension} {scope : Scope} {pos : Pos} {it acc : Value}
    (h0 : codeAny (model prog w) A (.compLoop (.SetComp elt (⟨target, iter, ifs, 0⟩ :: rest) scope pos) 0 it acc env) R s)
    (h : wpAny (model prog w) A (pyIter it) (fun it' s' => codeAny (model prog w) A (.compLoop (.SetComp elt (⟨target, iter, ifs, 0⟩ :: rest) scope pos) 0 it' acc env) R s')
      (notedBy (model prog w) A env fun x s' => R (.error x) s') s) :
    codeAny (model prog w) A (.compStart (.SetComp elt (⟨target, iter, ifs, 0⟩ :: rest) scope pos) 0 it acc env) R s := by
  refine codeAny_of_tree ?_
  show wpAny _ A ((compStart (.SetComp elt (⟨target, iter, ifs, 0⟩ :: rest) scope pos) 0 it acc env).onRaise (fun x => do noteFrame x env; standAt theWindowsPlace)) _ _ s
  refine wpAny_notedAt ?_
  unfold compStart
  show wpAny _ A (ask >>= _) _ _ s
  refine wpAny_bind (wpAny_askSetting (wpAny_ite ?_))
  split
  · first
      | exact wpAny_bind (wpAny_pure (wpAny_pure (And.intro rfl h0)))
      | exact wpAny_pure (And.intro rfl h0)
  · first
      | exact wpAny_bind (wpAny_rule (wpAny_bind (wpAny_standAt (wpAny_bind (wpAny_mono h (fun it' s' h' => wpAny_pure (And.intro rfl h')) fun _ _ x => x)))))
      | (refine wpAny_bind (wpAny_rule ?_); show wpAny _ _ (standAt iter.pos >>= _) _ _ s; exact wpAny_bind (wpAny_standAt (wpAny_bind (wpAny_mono h (fun it' s' h' => wpAny_pure (And.intro rfl h')) fun _ _ x => x))))
theorem loop_set {elt target iter : Expr} {scope : Scope} {pos : Pos} {it acc : Value} (I : Nat → Shared → Prop)
    (turn : ∀ n s, I n s → wpAny (model prog w) A (pyNext it) (fun r s₁ => match r with
      | none => R (.ok .next) s₁
      | some v => wpAny (model prog w) A (assign target env v) (fun _ s₂ => wpAny (model prog w) A (eval elt env) (fun x s₃ =>
          wpAny (model prog w) A (call (.builtin "set.add") [acc, x]) (fun _ s₄ => ∃ m, m < n ∧ I m s₄) (fun _ _ => False) s₃)
          (fun _ _ => False) s₂) (fun _ _ => False) s₁) (fun _ _ => False) s)
    (n : Nat) (h : I n s) (ht : ∀ v, letOwnedTupleGo target it v = pure ()) :
    codeAny (model prog w) A (.compLoop (.SetComp elt [⟨target, iter, [], 0⟩] scope pos) 0 it acc env) R s := by
  refine codeAny_loop rfl I (fun n s hI => ?_) n h
  show wpAny _ A ((compTurn (.SetComp elt [⟨target, iter, [], 0⟩] scope pos) 0 it acc env).onRaise (fun x => do noteFrame x env; theTreesLotGoes x)) _ _ s
  refine wpAny_noted ?_
  rw [compTurn_set]
  refine wpAny_bind (wpAny_standAt (wpAny_bind (wpAny_mono (turn n s hI) (fun r s₁ h₁ => ?_) fun _ _ h' => h'.elim)))
  cases r with
  | none => exact wpAny_pure h₁
  | some v =>
    refine wpAny_bind (wpAny_of_eq (ht v) ?_)
    exact wpAny_bind (wpAny_mono h₁ (fun _ s₂ h₂ => wpAny_bind (wpAny_bind (wpAny_mono h₂ (fun x s₃ h₃ => wpAny_bind (wpAny_standAt (wpAny_bind (wpAny_mono h₃
      (fun _ s₄ h₄ => wpAny_pure (wpAny_pure ⟨rfl, h₄⟩)) fun _ _ h' => h'.elim)))) fun _ _ h' => h'.elim))) fun _ _ h' => h'.elim)
variable {h₀ : Heap} {L : Addr} {m : Str → Option Value}
noncomputable def TrueEnd (s₃ : Shared) (y : Value) (s₄ : Shared) : Prop := y = .bool true ∧ Keeps s₃ s₄
/-- a set comprehension over a tuple, each element True -/
noncomputable def SetAt (prog : Program) (w : World) (A : Around) (h₀ : Heap) (L : Addr) (m : Str → Option Value) (env : Env) (elt : Expr) (x : Str) (scope : Scope) (cl : List (Str × Addr)) (Q : Value → Shared → Prop) (xv : Value) (s₁ : Shared) : Prop :=
  ∃ ax its news, xv = .ref ax ∧ A.handled = none ∧ Fr h₀ L s₁.heap m ∧ News h₀ L s₁.heap news ∧ (ax, tupObj its) ∈ news ∧ its.size ≠ 0 ∧
    (∀ (C : Addr) (s₃ : Shared) (v : Value) (m₃ : Str → Option Value) (E' : Value → Shared → Prop), v ∈ its.toList → Fr (hid s₁.heap news) C s₃.heap (fun y => if y = x then some v else m₃ y) → News (hid s₁.heap news) C s₃.heap news → Kp h₀ (hid s₁.heap news) →
      wpAny (model prog w) A (eval elt (compEnvC scope cl C env)) (TrueEnd s₃) E' s₃) ∧
    (∀ D h' tk, Fr h₀ L h' m → News h₀ L h' ((D, set1 (!byT w)) :: news) → (∀ p ∈ news, p.1 < D) → Q (.ref D) { s₁ with heap := h', toks := tk })
theorem set_comp {elt iter : Expr} {x : Str} {px : Pos} {scope : Scope} {cl : List (Str × Addr)} {pos : Pos} {Q : Value → Shared → Prop} (_F₀ : Fr h₀ L s.heap m)
    (hclos : closureFor scope env = pure cl) (hcell : ∀ y ∈ scope.names, y.2 ≠ .cell) (hkind : scope.kind = .function)
    (hnames : ∀ y ∈ scope.names, y.2 = .local → scope.names.lookup y.1 = some .local) (hx : scope.names.lookup x = some .local)
    (h : wpAny (model prog w) A (eval iter env) (SetAt prog w A h₀ L m env elt x scope cl Q) E s)
    (hs : ∀ x, foldedSetIterable iter env x = pure x) :
    wpAny (model prog w) A (eval (.SetComp elt [⟨.Name x px, iter, [], 0⟩] scope pos) env) Q E s := by
  rw [eval_SetComp_]
  refine wpAny_comprehension_free (use := none) rfl hs hclos hkind hnames (wpAny_mono h (fun xv s₁ h₁ => ?_) fun _ _ e => e)
  obtain ⟨ax, its, news, rfl, hh, F, N, hm, hz, el, done⟩ := h₁
  have hot := (N _ hm).1
  have hl : s₁.heap.IsTuple ax its := ⟨_, hot, rfl, _, rfl⟩
  have hlt : ax < s₁.heap.objs.size := Heap.lt_size hot
  refine wpAny_pyIter_tuple hl ?_
  refine new_set ?_
  refine wpAny_newFunctionEnv hcell (by intro y hy; simp at hy) (fun h₁ hns₁ hsb₁ => ?_) hkind
  dsimp only at hns₁ hsb₁ ⊢
  generalize hH1 : s₁.heap.push { cls := .type "tuple_iterator", data := .fields #[.ref ax, .int 0 0] } = H1 at hns₁ hsb₁ ⊢
  generalize hH2 : H1.push (set0 (!byT w)) = H2 at hns₁ hsb₁ ⊢
  have hD : H1.objs.size = s₁.heap.objs.size + 1 := by rw [← hH1, Heap.size_push]
  have hC : H2.objs.size = H1.objs.size + 1 := by rw [← hH2, Heap.size_push]
  have hIL : s₁.heap.objs.size < H1.objs.size := by rw [hD]; exact Nat.lt_succ_self _
  have hDL : H1.objs.size < H2.objs.size := by rw [hC]; exact Nat.lt_succ_self _
  have hICne : s₁.heap.objs.size ≠ H2.objs.size := Nat.ne_of_lt (Nat.lt_trans hIL hDL)
  have hDCne : H1.objs.size ≠ H2.objs.size := Nat.ne_of_lt hDL
  have hIDne : s₁.heap.objs.size ≠ H1.objs.size := Nat.ne_of_lt hIL
  have old1 : ∀ b o, s₁.heap.get? b = some o → H1.get? b = some o := fun b o e => hH1 ▸ Heap.get?_push_of_some _ e
  have old : ∀ b o, s₁.heap.get? b = some o → h₁.get? b = some o := fun b o e => hsb₁.extBut b o (Nat.ne_of_lt (Nat.lt_trans (Heap.lt_size e) (Nat.lt_trans hIL hDL))) (Heap.get?_push_of_some _ (hH2 ▸ Heap.get?_push_of_some _ (old1 b o e)))
  have W := Walks.tuple (prog := prog) (w := w) hh s₁.heap.objs.size ax (Nat.ne_of_lt hlt) its
  have hst₁ : h₁.IsTupleIter s₁.heap.objs.size ax 0 ∧ h₁.IsTuple ax its := by
    refine ⟨⟨_, hsb₁.extBut _ _ hICne (Heap.get?_push_of_some _ (hH2 ▸ Heap.get?_push_of_some _ (hH1 ▸ Heap.get?_push_size _ rfl))), rfl, rfl⟩, hl.at fun o e => old _ o e⟩
  have hacc : h₁.get? H1.objs.size = some (set0 (!byT w)) := hsb₁.extBut _ _ hDCne (Heap.get?_push_of_some _ (hH2 ▸ Heap.get?_push_size _ rfl))
  have loop : ∀ s₃ : Shared, s₃ = { s₁ with heap := h₁, toks := s₁.toks + ([] : List (Str × Value)).length } →
      codeAny (model prog w) A (.compLoop (.SetComp elt [⟨.Name x px, iter, [], 0⟩] scope pos) 0 (.ref s₁.heap.objs.size) (.ref H1.objs.size) (compEnvC scope cl H2.objs.size env))
        (compPost (model prog w) A E none Q (.ref H1.objs.size) H2.objs.size) s₃ := by
    rintro s₃ rfl
    refine loop_set (fun k s' => ∃ h' tk i m', s' = { s₁ with heap := h', toks := tk } ∧ i ≤ its.size ∧ k = its.size + 1 - i ∧ (h'.IsTupleIter s₁.heap.objs.size ax i ∧ h'.IsTuple ax its) ∧ h'.Ns H2.objs.size m' ∧
      h'.get? H1.objs.size = some (if i = 0 then set0 (!byT w) else set1 (!byT w)) ∧ Kp s₁.heap h') ?_ (its.size + 1) ⟨h₁, _, 0, _, rfl, Nat.zero_le _, rfl, hst₁, hns₁, hacc, old⟩ (by intro _; rfl)
    rintro k s' ⟨h', tk, i, m', rfl, hi, rfl, hst', hn', ha', kp'⟩
    by_cases hlt' : i < its.size
    · refine W.item i _ _ _ hlt' hst' fun v h₂ tk₂ hPv hst₂ hk₂ => ?_
      have k2 : ∀ b o, b ≠ s₁.heap.objs.size → h'.get? b = some o → h₂.get? b = some o := fun b o hb e => hk₂ b o (by simpa using hb) e
      refine wpAny_assign_Name (wpAny_storeName_local (lookup_relabel_local hx) (hn'.at' fun o e => k2 _ o (Ne.symm hICne) e) (fun h₃ hn₃ hs₃ => ?_) (by simp [compEnvC, relabel, hkind]))
      have kp₃ : Kp s₁.heap h₃ := fun b o e => hs₃.extBut b o (Nat.ne_of_lt (Nat.lt_trans (Heap.lt_size e) (Nat.lt_trans hIL hDL))) (k2 b o (Nat.ne_of_lt (Heap.lt_size e)) (kp' b o e))
      have a₃ : h₃.get? H1.objs.size = some (if i = 0 then set0 (!byT w) else set1 (!byT w)) := hs₃.extBut _ _ hDCne (k2 _ _ (Ne.symm hIDne) ha')
      have it₃ : h₃.IsTupleIter s₁.heap.objs.size ax (i + 1) := by obtain ⟨o, e, r⟩ := hst₂.1; exact ⟨o, hs₃.extBut _ _ hICne e, r⟩
      obtain ⟨F₃, N₃, k₃⟩ := block_ground (v := v) (x := x) (wr := []) F N (fun _ _ e => e) (by simp) (Nat.le_of_lt (Nat.lt_trans hIL hDL)) hn₃ (by simp) (fun b o _ e => kp₃ b o e)
      have hv : v ∈ its.toList := List.mem_of_getElem? (i := i) (by simpa using hPv)
      refine wpAny_mono (el H2.objs.size { s₁ with heap := h₃, toks := _ } v _ _ hv F₃ N₃ k₃) (fun y s₄ h₄ => ?_) fun _ _ e => e
      obtain ⟨rfl, h₄, tk₄, rfl, kp₄⟩ := h₄
      dsimp only at kp₄
      have fin : ∀ h₅ tk₅, h₅.get? H1.objs.size = some (set1 (!byT w)) → Heap.SameBut H1.objs.size h₄ h₅ → ∃ m, m < its.size + 1 - i ∧ ∃ h' tk i m', ({ s₁ with heap := h₅, toks := tk₅ } : Shared) = { s₁ with heap := h', toks := tk } ∧ i ≤ its.size ∧ m = its.size + 1 - i ∧ (h'.IsTupleIter s₁.heap.objs.size ax i ∧ h'.IsTuple ax its) ∧ h'.Ns H2.objs.size m' ∧
          h'.get? H1.objs.size = some (if i = 0 then set0 (!byT w) else set1 (!byT w)) ∧ Kp s₁.heap h' := by
        intro h₅ tk₅ h5 sb5
        have up : ∀ b o, b ≠ H1.objs.size → h₃.get? b = some o → h₅.get? b = some o := fun b o hb e => sb5.extBut b o hb (kp₄ b o e)
        refine ⟨its.size + 1 - (i + 1), by omega, h₅, tk₅, i + 1, _, rfl, hlt', rfl, ⟨?_, hl.at fun o e => up _ o ?_ (kp₃ _ o e)⟩, hn₃.at' fun o e => up _ o (Ne.symm hDCne) e, by rw [if_neg (Nat.succ_ne_zero i)]; exact h5, fun b o e => up b o ?_ (kp₃ b o e)⟩
        · obtain ⟨o, e, r⟩ := it₃; exact ⟨o, up _ o hIDne e, r⟩
        · exact Nat.ne_of_lt (Nat.lt_trans hlt hIL)
        · exact Nat.ne_of_lt (Nat.lt_trans (Heap.lt_size e) hIL)
      by_cases h0 : i = 0
      · rw [if_pos h0] at a₃
        exact add_first (s := { s₁ with heap := h₄, toks := tk₄ }) (kp₄ _ _ a₃) fun h₅ h5 sb5 => fin h₅ _ h5 sb5
      · rw [if_neg h0] at a₃
        exact add_again (s := { s₁ with heap := h₄, toks := tk₄ }) (kp₄ _ _ a₃) (fin h₄ _ (kp₄ _ _ a₃) (Heap.SameBut.refl ..))
    · obtain rfl : i = its.size := Nat.le_antisymm hi (Nat.not_lt.mp hlt')
      refine W.done _ _ _ hst' fun h₂ tk₂ hk₂ => ?_
      have k2 : ∀ b o, b ≠ s₁.heap.objs.size → h'.get? b = some o → h₂.get? b = some o := fun b o hb e => hk₂ b o (by simpa using hb) e
      rw [if_neg hz] at ha'
      refine ⟨m', hn'.at' fun o e => k2 _ o (Ne.symm hICne) e, fun h'' hs'' => ?_⟩
      have up : ∀ b o, b ≠ s₁.heap.objs.size → b ≠ H2.objs.size → h'.get? b = some o → h''.get? b = some o := fun b o hb hb2 e => hs''.extBut b o hb2 (k2 b o hb e)
      have kp : Kp s₁.heap h'' := fun b o e => up b o (Nat.ne_of_lt (Heap.lt_size e)) (Nat.ne_of_lt (Nat.lt_trans (Heap.lt_size e) (Nat.lt_trans hIL hDL))) (kp' b o e)
      have hDs : s₁.heap.get? H1.objs.size = none := fresh_get (Nat.le_of_lt hIL)
      exact done H1.objs.size h'' _ (fr_keep F kp) (news_new F N kp hDs (up _ _ (Ne.symm hIDne) hDCne ha')) fun p hp => Nat.lt_trans (Heap.lt_size (N p hp).1) hIL
  exact start_set (loop _ rfl) (W.self 0 _ _ _ hst₁ (loop _ rfl))
end
end
section
noncomputable abbrev bestObj (vs : List Value) (n : Nat) : Obj := { cls := .type "list", dict := none, data := .seq vs.toArray n, slots := #[] }

section
variable {prog : Program} {w : World} {A : Around} {E : Value → Shared → Prop} {s : Shared} {h₀ : Heap} {L : Addr} {m : Str → Option Value} {news : List (Addr × Obj)}
/-- the min of two lists of texts -/
theorem min_lists {S a b : Addr} {n na nb : Nat} {vs us : List Value} {xs ys : List Str} {Q : Value → Shared → Prop} (hh : A.handled = none) (F : Fr h₀ L s.heap m) (N : News h₀ L s.heap news)
    (hS : (S, listOf #[.ref a, .ref b] n) ∈ news) (ha : (a, listOf vs.toArray na) ∈ news) (hb : (b, listOf us.toArray nb) ∈ news) (h1 : StrsAre vs xs) (h2 : StrsAre us ys) (hu : A.units + 1 < cLine)
    (h : ∀ h' tk, Fr h₀ L h' m → News h₀ L h' news → Q (.ref (if lexL ltS (decide (ys.length < xs.length)) ys xs = true then b else a)) { s with heap := h', toks := tk }) :
    wpAny (model prog w) A (call (.builtin "min") [.ref S]) Q E s := by
  have e1 := strsAre_len h1
  have e2 := strsAre_len h2
  rw [← e1, ← e2] at h
  have hname : (toString "min" ++ toString ".loop" : String) = "min.loop" := by decide
  have hols := (N _ hS).1
  have hls : s.heap.IsList S #[.ref a, .ref b] := ⟨_, hols, rfl, _, rfl⟩
  refine call_function_tree _root_.PySem.F.kind_min _root_.PySem.F.plain_min _root_.PySem.F.entry_min (_root_.PySem.F.args_min1 _) ?_
  show wpAny _ A.in1 (Builtin.Builtins.bindParams "min" ["key", "default"] 0 ⟨[], []⟩ >>= _) _ _ s
  refine wpAny_bind (wpAny_of_eq (show Builtin.Builtins.bindParams "min" ["key", "default"] 0 ⟨[], []⟩ = pure [none, none] from rfl) ?_)
  refine wpAny_bind (wpAny_pure ?_)
  refine wpAny_bind (wpAny_pyIter_list hls ?_)
  refine wpAny_bind (wpAny_newObj_type ?_)
  rw [hname]
  generalize hH1 : s.heap.push { cls := .type "list_iterator", data := .fields #[.ref S, .int 0 0] } = H1
  have hB : H1.objs.size = s.heap.objs.size + 1 := by rw [← hH1, Heap.size_push]
  have hIB : s.heap.objs.size < H1.objs.size := by rw [hB]; exact Nat.lt_succ_self _
  have ltI : ∀ c o, s.heap.get? c = some o → c ≠ s.heap.objs.size := fun c o e => Nat.ne_of_lt (Heap.lt_size e)
  have ltB : ∀ c o, s.heap.get? c = some o → c ≠ H1.objs.size := fun c o e => Nat.ne_of_lt (Nat.lt_trans (Heap.lt_size e) hIB)
  have W := Walks.list (prog := prog) (w := w) (A := A.in1) hh s.heap.objs.size S (ltI _ _ hols) #[.ref a, .ref b]
  generalize hI : s.heap.objs.size = I at hIB ltI W
  generalize hBn : H1.objs.size = B at hIB ltB
  have hk0 : ∀ c o, s.heap.get? c = some o → (H1.push (bestObj [] 0)).get? c = some o := fun c o e => Heap.get?_push_of_some _ (hH1 ▸ Heap.get?_push_of_some _ e)
  have hB0 : (H1.push (bestObj [] 0)).get? B = some (bestObj [] 0) := hBn ▸ Heap.get?_push_size _ rfl
  have hit0 : (H1.push (bestObj [] 0)).IsListIter I S 0 := ⟨_, Heap.get?_push_of_some _ (hH1 ▸ hI ▸ Heap.get?_push_size _ rfl), rfl, rfl⟩
  refine wpAny_pure ⟨plainId_quiet _root_.PySem.F.plain_min_loop _, codeAny_builtin _root_.PySem.F.entry_min_loop ?_⟩
  rw [Around.under_plainId _root_.PySem.F.plain_min_loop _]
  show wpAny _ A.in1 (seqItems? (.ref B) >>= _) _ _ _
  refine wpAny_bind (wpAny_seqItems hB0 rfl ?_)
  show wpAny _ A.in1 (tryCatch (pyNext (.ref I)) _ >>= _) _ _ _
  refine wpAny_bind (wpAny_tryCatch (W.item 0 _ _ _ (by show (0:Nat) < 2; omega) ⟨hit0, hls.at fun o e => hk0 _ o e⟩ fun v g1 tk1 hP st1 k1 => ?_))
  obtain rfl : v = .ref a := by simpa using hP.symm
  have up1 : ∀ c o, c ≠ I → (H1.push (bestObj [] 0)).get? c = some o → g1.get? c = some o := fun c o hc e => k1 c o (by simpa using hc) e
  have hB1 : g1.get? B = some (bestObj [] 0) := up1 _ _ (Nat.ne_of_gt hIB) hB0
  show wpAny _ A.in1 (updateSeq B (fun _ => #[.ref a, .ref a]) >>= _) _ _ _
  refine wpAny_bind ?_
  refine wpAny_updateSeq hB1 rfl ?_
  rw [hname]
  have hB2 := Heap.get?_update_self (Obj.mapSeq fun _ => #[Value.ref a, .ref a]) hB1 rfl
  have up2 : ∀ c o, c ≠ B → g1.get? c = some o → (g1.update B (Obj.mapSeq fun _ => #[Value.ref a, .ref a])).get? c = some o := fun c o hc e => (Heap.get?_update_other _ _ (Ne.symm hc)).trans e
  have st2 : (g1.update B (Obj.mapSeq fun _ => #[Value.ref a, .ref a])).IsListIter I S 1 ∧ (g1.update B (Obj.mapSeq fun _ => #[Value.ref a, .ref a])).IsList S #[.ref a, .ref b] := by
    refine ⟨?_, st1.2.at fun o e => up2 _ o (ltB _ _ hols) e⟩
    obtain ⟨o, e, r⟩ := st1.1
    exact ⟨o, up2 _ o (Nat.ne_of_lt hIB) e, r⟩
  have kp2 : ∀ c o, s.heap.get? c = some o → (g1.update B (Obj.mapSeq fun _ => #[Value.ref a, .ref a])).get? c = some o := fun c o e => up2 c o (ltB c o e) (up1 c o (ltI c o e) (hk0 c o e))
  generalize g1.update B (Obj.mapSeq fun _ => #[Value.ref a, .ref a]) = g2 at hB2 up2 st2 kp2
  refine wpAny_pure ⟨plainId_quiet _root_.PySem.F.plain_min_loop _, codeAny_builtin _root_.PySem.F.entry_min_loop ?_⟩
  rw [Around.under_plainId _root_.PySem.F.plain_min_loop _]
  show wpAny _ A.in1 (seqItems? (.ref B) >>= _) _ _ _
  refine wpAny_bind (wpAny_seqItems hB2 rfl ?_)
  show wpAny _ A.in1 (tryCatch (pyNext (.ref I)) _ >>= _) _ _ _
  refine wpAny_bind (wpAny_tryCatch (W.item 1 _ _ _ (by show (1:Nat) < 2; omega) st2 fun v g3 tk3 hP st3 k3 => ?_))
  obtain rfl : v = .ref b := by simpa using hP.symm
  have up3 : ∀ c o, c ≠ I → g2.get? c = some o → g3.get? c = some o := fun c o hc e => k3 c o (by simpa using hc) e
  have hB3 := up3 _ _ (Nat.ne_of_gt hIB) hB2
  have kp3 : ∀ c o, s.heap.get? c = some o → g3.get? c = some o := fun c o e => up3 c o (ltI c o e) (kp2 c o e)
  show wpAny _ A.in1 (tryCatch (holding [.ref b, .ref b] (richCompare .Lt (.ref b) (.ref a) >>= _)) _ >>= _) _ _ _
  refine wpAny_bind (wpAny_tryCatch (wpAny_holding (wpAny_bind (rc_lt (s := { s with heap := g3, toks := tk3 }) (kp3 _ _ (N _ hb).1) (kp3 _ _ (N _ ha).1) h2 h1 hu ?_))))
  refine wpAny_bind (wpAny_holding (wpAny_truthy_bool ?_))
  refine wpAny_bind (wpAny_letGo (wpAny_pure ?_))
  have rest : ∀ g4 tk4 (c : Addr) n, (∀ h' tk, Fr h₀ L h' m → News h₀ L h' news → Q (.ref c) { s with heap := h', toks := tk }) → g4.get? B = some (bestObj [.ref c, .ref c] n) → (∀ d o, d ≠ B → g3.get? d = some o → g4.get? d = some o) →
      codeAny (model prog w) A (.builtin "min.loop" ⟨[.ref I, .none, .ref B], []⟩) (fun r s' => match r with | .ok (.ret v) => Q v s' | .ok _ => False | .error e => E e s') { s with heap := g4, toks := tk4 } := by
    intro g4 tk4 c n hq hB4 up4
    have st4 : g4.IsListIter I S 2 ∧ g4.IsList S #[.ref a, .ref b] := by
      refine ⟨?_, st3.2.at fun o e => up4 _ o (ltB _ _ hols) e⟩
      obtain ⟨o, e, r⟩ := st3.1
      exact ⟨o, up4 _ o (Nat.ne_of_lt hIB) e, r⟩
    refine codeAny_builtin _root_.PySem.F.entry_min_loop ?_
    rw [Around.under_plainId _root_.PySem.F.plain_min_loop _]
    show wpAny _ A.in1 (seqItems? (.ref B) >>= _) _ _ _
    refine wpAny_bind (wpAny_seqItems hB4 rfl ?_)
    show wpAny _ A.in1 (tryCatch (pyNext (.ref I)) _ >>= _) _ _ _
    refine wpAny_bind (wpAny_tryCatch (W.done _ _ _ st4 fun g5 tk5 k5 => ?_))
    have up5 : ∀ c o, c ≠ I → g4.get? c = some o → g5.get? c = some o := fun c o hc e => k5 c o (by simpa using hc) e
    show wpAny _ A.in1 (updateSeq B (fun _ => #[]) >>= _) _ _ _
    refine wpAny_bind ?_
    refine wpAny_updateSeq (up5 _ _ (Nat.ne_of_gt hIB) hB4) rfl (wpAny_bind (wpAny_letGo (wpAny_pure ?_)))
    have kp : ∀ d o, s.heap.get? d = some o → (g5.update B (Obj.mapSeq fun _ => #[])).get? d = some o := fun d o e => (Heap.get?_update_other _ _ (Ne.symm (ltB d o e))).trans (up5 d o (ltI d o e) (up4 d o (ltB d o e) (kp3 d o e)))
    exact hq _ _ (fr_keep F kp) (news_keep N kp)
  cases hb' : lexL ltS (decide (us.length < vs.length)) ys xs with
  | true =>
    simp only [hb', if_true] at h ⊢
    refine wpAny_bind ?_
    refine wpAny_updateSeq hB3 rfl (wpAny_bind (wpAny_letGo ?_))
    rw [hname]
    exact wpAny_pure ⟨plainId_quiet _root_.PySem.F.plain_min_loop _, rest _ _ b _ h (Heap.get?_update_self _ hB3 rfl) fun d o hd e => (Heap.get?_update_other _ _ (Ne.symm hd)).trans e⟩
  | false =>
    simp only [hb', Bool.false_eq_true, if_false] at h ⊢
    refine wpAny_bind (wpAny_letGo ?_)
    rw [hname]
    exact wpAny_pure ⟨plainId_quiet _root_.PySem.F.plain_min_loop _, rest _ _ a _ h hB3 fun d o hd e => e⟩
end

section
variable {prog : Program} {w : World} {A : Around} {E : Value → Shared → Prop} {s : Shared} {h₀ : Heap} {L : Addr} {m : Str → Option Value} {news : List (Addr × Obj)}
/-- the max of two lists of texts -/
theorem max_lists {S a b : Addr} {n na nb : Nat} {vs us : List Value} {xs ys : List Str} {Q : Value → Shared → Prop} (hh : A.handled = none) (F : Fr h₀ L s.heap m) (N : News h₀ L s.heap news)
    (hS : (S, listOf #[.ref a, .ref b] n) ∈ news) (ha : (a, listOf vs.toArray na) ∈ news) (hb : (b, listOf us.toArray nb) ∈ news) (h1 : StrsAre vs xs) (h2 : StrsAre us ys) (hu : A.units + 1 < cLine)
    (h : ∀ h' tk, Fr h₀ L h' m → News h₀ L h' news → Q (.ref (if lexL gtS (decide (ys.length > xs.length)) ys xs = true then b else a)) { s with heap := h', toks := tk }) :
    wpAny (model prog w) A (call (.builtin "max") [.ref S]) Q E s := by
  have e1 := strsAre_len h1
  have e2 := strsAre_len h2
  rw [← e1, ← e2] at h
  have hname : (toString "max" ++ toString ".loop" : String) = "max.loop" := by decide
  have hols := (N _ hS).1
  have hls : s.heap.IsList S #[.ref a, .ref b] := ⟨_, hols, rfl, _, rfl⟩
  refine call_function_tree _root_.PySem.F.kind_max _root_.PySem.F.plain_max _root_.PySem.F.entry_max (_root_.PySem.F.args_max1 _) ?_
  show wpAny _ A.in1 (Builtin.Builtins.bindParams "max" ["key", "default"] 0 ⟨[], []⟩ >>= _) _ _ s
  refine wpAny_bind (wpAny_of_eq (show Builtin.Builtins.bindParams "max" ["key", "default"] 0 ⟨[], []⟩ = pure [none, none] from rfl) ?_)
  refine wpAny_bind (wpAny_pure ?_)
  refine wpAny_bind (wpAny_pyIter_list hls ?_)
  refine wpAny_bind (wpAny_newObj_type ?_)
  rw [hname]
  generalize hH1 : s.heap.push { cls := .type "list_iterator", data := .fields #[.ref S, .int 0 0] } = H1
  have hB : H1.objs.size = s.heap.objs.size + 1 := by rw [← hH1, Heap.size_push]
  have hIB : s.heap.objs.size < H1.objs.size := by rw [hB]; exact Nat.lt_succ_self _
  have ltI : ∀ c o, s.heap.get? c = some o → c ≠ s.heap.objs.size := fun c o e => Nat.ne_of_lt (Heap.lt_size e)
  have ltB : ∀ c o, s.heap.get? c = some o → c ≠ H1.objs.size := fun c o e => Nat.ne_of_lt (Nat.lt_trans (Heap.lt_size e) hIB)
  have W := Walks.list (prog := prog) (w := w) (A := A.in1) hh s.heap.objs.size S (ltI _ _ hols) #[.ref a, .ref b]
  generalize hI : s.heap.objs.size = I at hIB ltI W
  generalize hBn : H1.objs.size = B at hIB ltB
  have hk0 : ∀ c o, s.heap.get? c = some o → (H1.push (bestObj [] 0)).get? c = some o := fun c o e => Heap.get?_push_of_some _ (hH1 ▸ Heap.get?_push_of_some _ e)
  have hB0 : (H1.push (bestObj [] 0)).get? B = some (bestObj [] 0) := hBn ▸ Heap.get?_push_size _ rfl
  have hit0 : (H1.push (bestObj [] 0)).IsListIter I S 0 := ⟨_, Heap.get?_push_of_some _ (hH1 ▸ hI ▸ Heap.get?_push_size _ rfl), rfl, rfl⟩
  refine wpAny_pure ⟨plainId_quiet _root_.PySem.F.plain_max_loop _, codeAny_builtin _root_.PySem.F.entry_max_loop ?_⟩
  rw [Around.under_plainId _root_.PySem.F.plain_max_loop _]
  show wpAny _ A.in1 (seqItems? (.ref B) >>= _) _ _ _
  refine wpAny_bind (wpAny_seqItems hB0 rfl ?_)
  show wpAny _ A.in1 (tryCatch (pyNext (.ref I)) _ >>= _) _ _ _
  refine wpAny_bind (wpAny_tryCatch (W.item 0 _ _ _ (by show (0:Nat) < 2; omega) ⟨hit0, hls.at fun o e => hk0 _ o e⟩ fun v g1 tk1 hP st1 k1 => ?_))
  obtain rfl : v = .ref a := by simpa using hP.symm
  have up1 : ∀ c o, c ≠ I → (H1.push (bestObj [] 0)).get? c = some o → g1.get? c = some o := fun c o hc e => k1 c o (by simpa using hc) e
  have hB1 : g1.get? B = some (bestObj [] 0) := up1 _ _ (Nat.ne_of_gt hIB) hB0
  show wpAny _ A.in1 (updateSeq B (fun _ => #[.ref a, .ref a]) >>= _) _ _ _
  refine wpAny_bind ?_
  refine wpAny_updateSeq hB1 rfl ?_
  rw [hname]
  have hB2 := Heap.get?_update_self (Obj.mapSeq fun _ => #[Value.ref a, .ref a]) hB1 rfl
  have up2 : ∀ c o, c ≠ B → g1.get? c = some o → (g1.update B (Obj.mapSeq fun _ => #[Value.ref a, .ref a])).get? c = some o := fun c o hc e => (Heap.get?_update_other _ _ (Ne.symm hc)).trans e
  have st2 : (g1.update B (Obj.mapSeq fun _ => #[Value.ref a, .ref a])).IsListIter I S 1 ∧ (g1.update B (Obj.mapSeq fun _ => #[Value.ref a, .ref a])).IsList S #[.ref a, .ref b] := by
    refine ⟨?_, st1.2.at fun o e => up2 _ o (ltB _ _ hols) e⟩
    obtain ⟨o, e, r⟩ := st1.1
    exact ⟨o, up2 _ o (Nat.ne_of_lt hIB) e, r⟩
  have kp2 : ∀ c o, s.heap.get? c = some o → (g1.update B (Obj.mapSeq fun _ => #[Value.ref a, .ref a])).get? c = some o := fun c o e => up2 c o (ltB c o e) (up1 c o (ltI c o e) (hk0 c o e))
  generalize g1.update B (Obj.mapSeq fun _ => #[Value.ref a, .ref a]) = g2 at hB2 up2 st2 kp2
  refine wpAny_pure ⟨plainId_quiet _root_.PySem.F.plain_max_loop _, codeAny_builtin _root_.PySem.F.entry_max_loop ?_⟩
  rw [Around.under_plainId _root_.PySem.F.plain_max_loop _]
  show wpAny _ A.in1 (seqItems? (.ref B) >>= _) _ _ _
  refine wpAny_bind (wpAny_seqItems hB2 rfl ?_)
  show wpAny _ A.in1 (tryCatch (pyNext (.ref I)) _ >>= _) _ _ _
  refine wpAny_bind (wpAny_tryCatch (W.item 1 _ _ _ (by show (1:Nat) < 2; omega) st2 fun v g3 tk3 hP st3 k3 => ?_))
  obtain rfl : v = .ref b := by simpa using hP.symm
  have up3 : ∀ c o, c ≠ I → g2.get? c = some o → g3.get? c = some o := fun c o hc e => k3 c o (by simpa using hc) e
  have hB3 := up3 _ _ (Nat.ne_of_gt hIB) hB2
  have kp3 : ∀ c o, s.heap.get? c = some o → g3.get? c = some o := fun c o e => up3 c o (ltI c o e) (kp2 c o e)
  show wpAny _ A.in1 (tryCatch (holding [.ref b, .ref b] (richCompare .Gt (.ref b) (.ref a) >>= _)) _ >>= _) _ _ _
  refine wpAny_bind (wpAny_tryCatch (wpAny_holding (wpAny_bind (rc_gt (s := { s with heap := g3, toks := tk3 }) (kp3 _ _ (N _ hb).1) (kp3 _ _ (N _ ha).1) h2 h1 hu ?_))))
  refine wpAny_bind (wpAny_holding (wpAny_truthy_bool ?_))
  refine wpAny_bind (wpAny_letGo (wpAny_pure ?_))
  have rest : ∀ g4 tk4 (c : Addr) n, (∀ h' tk, Fr h₀ L h' m → News h₀ L h' news → Q (.ref c) { s with heap := h', toks := tk }) → g4.get? B = some (bestObj [.ref c, .ref c] n) → (∀ d o, d ≠ B → g3.get? d = some o → g4.get? d = some o) →
      codeAny (model prog w) A (.builtin "max.loop" ⟨[.ref I, .none, .ref B], []⟩) (fun r s' => match r with | .ok (.ret v) => Q v s' | .ok _ => False | .error e => E e s') { s with heap := g4, toks := tk4 } := by
    intro g4 tk4 c n hq hB4 up4
    have st4 : g4.IsListIter I S 2 ∧ g4.IsList S #[.ref a, .ref b] := by
      refine ⟨?_, st3.2.at fun o e => up4 _ o (ltB _ _ hols) e⟩
      obtain ⟨o, e, r⟩ := st3.1
      exact ⟨o, up4 _ o (Nat.ne_of_lt hIB) e, r⟩
    refine codeAny_builtin _root_.PySem.F.entry_max_loop ?_
    rw [Around.under_plainId _root_.PySem.F.plain_max_loop _]
    show wpAny _ A.in1 (seqItems? (.ref B) >>= _) _ _ _
    refine wpAny_bind (wpAny_seqItems hB4 rfl ?_)
    show wpAny _ A.in1 (tryCatch (pyNext (.ref I)) _ >>= _) _ _ _
    refine wpAny_bind (wpAny_tryCatch (W.done _ _ _ st4 fun g5 tk5 k5 => ?_))
    have up5 : ∀ c o, c ≠ I → g4.get? c = some o → g5.get? c = some o := fun c o hc e => k5 c o (by simpa using hc) e
    show wpAny _ A.in1 (updateSeq B (fun _ => #[]) >>= _) _ _ _
    refine wpAny_bind ?_
    refine wpAny_updateSeq (up5 _ _ (Nat.ne_of_gt hIB) hB4) rfl (wpAny_bind (wpAny_letGo (wpAny_pure ?_)))
    have kp : ∀ d o, s.heap.get? d = some o → (g5.update B (Obj.mapSeq fun _ => #[])).get? d = some o := fun d o e => (Heap.get?_update_other _ _ (Ne.symm (ltB d o e))).trans (up5 d o (ltI d o e) (up4 d o (ltB d o e) (kp3 d o e)))
    exact hq _ _ (fr_keep F kp) (news_keep N kp)
  cases hb' : lexL gtS (decide (us.length > vs.length)) ys xs with
  | true =>
    simp only [hb', if_true] at h ⊢
    refine wpAny_bind ?_
    refine wpAny_updateSeq hB3 rfl (wpAny_bind (wpAny_letGo ?_))
    rw [hname]
    exact wpAny_pure ⟨plainId_quiet _root_.PySem.F.plain_max_loop _, rest _ _ b _ h (Heap.get?_update_self _ hB3 rfl) fun d o hd e => (Heap.get?_update_other _ _ (Ne.symm hd)).trans e⟩
  | false =>
    simp only [hb', Bool.false_eq_true, if_false] at h ⊢
    refine wpAny_bind (wpAny_letGo ?_)
    rw [hname]
    exact wpAny_pure ⟨plainId_quiet _root_.PySem.F.plain_max_loop _, rest _ _ a _ h hB3 fun d o hd e => e⟩
end
end
section
/-- a loop over any target, its source reckoned -/
noncomputable def EnumAt (prog : Program) (w : World) (A : Around) (env : Env) (target : Expr) (body : List Stmt) (Q : Flow → Shared → Prop) (xv : Value) (s₁ : Shared) : Prop :=
  wpAny (model prog w) A (pyIter xv) (fun it s₂ => codeAny (model prog w) A (.forLoop target it body [] env) (fun r s' => match r with | .ok f => Q f s' | .error _ => False) s₂) (fun _ _ => False) s₁
section
variable {prog : Program} {w : World} {A : Around} {s : Shared} {env : Env} {h₀ : Heap} {L : Addr} {target : Expr} {body : List Stmt} {Q : Flow → Shared → Prop}
theorem enum_in {E : Value → Shared → Prop} {iter : Expr} {pos : Pos} (h : wpAny (model prog w) A (eval iter env) (fun xv s₁ => EnumAt prog w A env target body Q xv s₁) E s) (hs : ∀ x, foldedSetIterable iter env x = pure x) :
    wpAny (model prog w) A (exec (.For target iter body [] pos) env) Q E s :=
  wpAny_For (wpAny_mono h (fun xv s₁ h₁ => wpAny_mono h₁ (fun it s₂ h₂ => codeAny_mono h₂ fun r s' hr => by
    cases r with
    | ok f => exact hr
    | error e => exact hr.elim) fun _ _ x => x.elim) fun _ _ e => e) hs
theorem enum_at {E : Value → Shared → Prop} {l : Addr} {vs : List Value} {nn : Nat} {m₀ : Str → Option Value} {news : List (Addr × Obj)} {elts : List Expr} {k : Nat} {px : Pos} (J : Nat → (Str → Option Value) → List (Addr × Obj) → Prop)
    (hh : A.handled = none) (hl : (l, listOf vs.toArray nn) ∈ news) (F : Fr h₀ L s.heap m₀) (N : News h₀ L s.heap news) (hj : J 0 m₀ news)
    (turn : ∀ i v m₁ news₁ h tk own T t, vs[i]? = some v → OwnOff own (news₁.map (·.1)) → (l, listOf vs.toArray nn) ∈ news₁ → J i m₁ news₁ → Fr h₀ L h m₁ → News h₀ L h (news₁ ++ own) → IsTup h T #[.int i t, v] →
      wpAny (model prog w) A (assign (.Tuple elts k px) env (.ref T)) (fun _ s₂ => wpAny (model prog w) A (execs body env) (InvPostG h₀ L (fun m' nx => (l, listOf vs.toArray nn) ∈ nx ∧ J (i + 1) m' nx) own { s with heap := h, toks := tk } Q) (fun _ _ => False) s₂) (fun _ _ => False) { s with heap := h, toks := tk })
    (done : ∀ m₁ news₁ h tk, J vs.length m₁ news₁ → Fr h₀ L h m₁ → News h₀ L h news₁ → (l, listOf vs.toArray nn) ∈ news₁ → Q .next { s with heap := h, toks := tk }) :
    wpAny (model prog w) A (call (.type "enumerate") [.ref l]) (fun xv s₁ => EnumAt prog w A env (.Tuple elts k px) body Q xv s₁) E s := by
  have hol : s.heap.get? l = some (listOf vs.toArray nn) := (N _ hl).1
  refine call_enumerate_1 hol fun g he hit hsz hk => ?_
  unfold EnumAt
  have hlI : l < s.heap.objs.size := Heap.lt_size hol
  generalize hI : s.heap.objs.size = I at he hit hlI
  have hlt1 : I < I + 1 := Nat.lt_succ_self I
  have hIL : L < I := hI ▸ F.ns.lt
  have W := WalksT.enumerate (prog := prog) (w := w) hh (I + 1) I l (Nat.ne_of_gt hlt1) (Nat.ne_of_lt (Nat.lt_trans hlI hlt1)) (Nat.ne_of_lt hlI) vs.toArray
  have hls : s.heap.IsList l vs.toArray := ⟨_, hol, rfl, nn, rfl⟩
  have st0 : (∃ old, IsEnum g (I + 1) I ((0 : Nat) : Int) old) ∧ g.IsListIter I l 0 ∧ g.IsList l vs.toArray := ⟨⟨_, he⟩, hit, hls.at fun o e => hk _ o e⟩
  refine W.self 0 { s with heap := g } _ _ st0 ?_
  have hI0 : h₀.get? I = none := by rw [← hI]; exact next_is_new F
  have hI1 : h₀.get? (I + 1) = none := by
    cases e : h₀.get? (I + 1) with
    | none => rfl
    | some o => have := Heap.lt_size (F.keep _ _ e); rw [hI] at this; exact absurd this (Nat.not_lt.mpr (Nat.le_succ I))
  let Inv : Nat → Shared → Prop := fun n s' => ∃ i h tk m₁ news₁, n = vs.length - i ∧ i ≤ vs.length ∧ s' = { s with heap := h, toks := tk } ∧ ((∃ old, IsEnum h (I + 1) I (i : Int) old) ∧ h.IsListIter I l i ∧ h.IsList l vs.toArray) ∧ (l, listOf vs.toArray nn) ∈ news₁ ∧ (∀ p ∈ news₁, p.1 ≠ I ∧ p.1 ≠ I + 1) ∧ J i m₁ news₁ ∧ Fr h₀ L h m₁ ∧ News h₀ L h news₁
  refine codeAny_forLoop_any Inv ?_ (vs.length - 0) ⟨0, _, s.toks, m₀, news, rfl, Nat.zero_le _, rfl, st0, hl, ?_, hj, fr_keep F hk, news_keep N hk⟩
  · rintro n s' ⟨i, h, tk, m₁, news₁, rfl, hi, rfl, st, hl₁, hne, hJ, F₁, N₁⟩
    by_cases hlt : i < vs.length
    · refine W.item i _ _ _ (by simpa using hlt) st fun T vals h1 tk1 hP hTlt hT hmid k1 => ?_
      obtain ⟨t, x, hx, rfl⟩ := hP
      dsimp only
      refine W.go elts k px i T { s with heap := h1, toks := tk1 } _ _ hmid fun h2 st2 k2 => ?_
      dsimp only
      have kk : ∀ b o, b ≠ I → b ≠ I + 1 → h.get? b = some o → h2.get? b = some o := fun b o hb hb1 e => k2 b o (by simp; exact ⟨hb1, hb⟩) (k1 b o (by simp; exact ⟨hb1, hb⟩) e)
      have hTw := W.apart i T h1 hmid
      have hTI : T ≠ I := fun q => hTw (by simp [q])
      have hTI1 : T ≠ I + 1 := fun q => hTw (by simp [q])
      have hT2 : IsTup h2 T #[.int i t, x] := by
        obtain ⟨oT, hoT, r⟩ := hT
        exact ⟨oT, k2 T oT (by simp; exact ⟨hTI1, hTI⟩) hoT, r⟩
      have F₂ : Fr h₀ L h2 m₁ := ⟨F₁.ns.at' fun o e => kk _ o (Nat.ne_of_lt hIL) (Nat.ne_of_lt (Nat.lt_trans hIL hlt1)) e, fun b o e => kk b o (fun q => by rw [q, hI0] at e; cases e) (fun q => by rw [q, hI1] at e; cases e) (F₁.keep b o e), F₁.above⟩
      obtain ⟨old2, he2⟩ := st2.1
      obtain ⟨oI, hoI, hoI'⟩ := id st2.2.1
      have N₂ : News h₀ L h2 (news₁ ++ [(I, oI), (I + 1, ({ cls := .type "enumerate", dict := none, data := .fields #[.none, .bool false, .ref I, rawInt ((i + 1 : Nat) : Int), .none, old2], slots := #[] } : Obj))]) := by
        intro p hp
        rcases List.mem_append.mp hp with hp | hp
        · exact ⟨kk _ _ (hne p hp).1 (hne p hp).2 (N₁ p hp).1, (N₁ p hp).2⟩
        · rcases List.mem_cons.mp hp with rfl | hp
          · exact ⟨hoI, Nat.ne_of_gt hIL, hI0⟩
          · rw [List.mem_singleton.mp hp]; exact ⟨he2, Nat.ne_of_gt (Nat.lt_trans hIL hlt1), hI1⟩
      have hoff : OwnOff [(I, oI), (I + 1, ({ cls := .type "enumerate", dict := none, data := .fields #[.none, .bool false, .ref I, rawInt ((i + 1 : Nat) : Int), .none, old2], slots := #[] } : Obj))] (news₁.map (·.1)) := by
        intro p hp b hb e
        obtain ⟨q, hq, rfl⟩ := List.mem_map.mp hb
        rcases List.mem_cons.mp hp with rfl | hp
        · exact (hne q hq).1 e.symm
        · rw [List.mem_singleton.mp hp] at e; exact (hne q hq).2 e.symm
      have hx' : vs[i]? = some x := by simpa using hx
      refine wpAny_mono (turn i x m₁ news₁ h2 tk1 _ T t hx' hoff hl₁ hJ F₂ N₂ hT2) (fun _ s₂ h₂ => wpAny_mono h₂ (fun f s₃ h₃ => ?_) fun _ _ x => x.elim) fun _ _ x => x.elim
      have fin : InvEndG h₀ L (fun m' nx => (l, listOf vs.toArray nn) ∈ nx ∧ J (i + 1) m' nx) [(I, oI), (I + 1, ({ cls := .type "enumerate", dict := none, data := .fields #[.none, .bool false, .ref I, rawInt ((i + 1 : Nat) : Int), .none, old2], slots := #[] } : Obj))] { s with heap := h2, toks := tk1 } s₃ → ∃ m, m < vs.length - i ∧ Inv m s₃ := by
        rintro ⟨h'', tk'', m', news', nx, rfl, F₃, N₃, hn, ho, ha, hl₂, hJ'⟩
        have nI := ho _ (List.Mem.head _)
        have nE := ho _ (List.Mem.tail _ (List.Mem.head _))
        refine ⟨vs.length - (i + 1), by omega, i + 1, h'', tk'', m', nx, rfl, hlt, rfl, ⟨⟨old2, (N₃ _ nE).1⟩, ⟨oI, (N₃ _ nI).1, hoI'⟩, ⟨_, (N₃ _ (hn _ hl₂)).1, rfl, nn, rfl⟩⟩, hl₂, fun p hp => ⟨fun e => ?_, fun e => ?_⟩, hJ', F₃, fun p hp => N₃ p (hn p hp)⟩
        · exact ha (I, oI) (List.Mem.head _) p.1 (List.mem_map.mpr ⟨p, hp, rfl⟩) e.symm
        · exact ha _ (List.Mem.tail _ (List.Mem.head _)) p.1 (List.mem_map.mpr ⟨p, hp, rfl⟩) e.symm
      cases f with
      | ret v => exact h₃
      | brk => exact h₃
      | next => exact fin h₃
      | cont => exact fin h₃
    · have e : i = vs.length := by omega
      subst e
      have st' : (∃ old, IsEnum h (I + 1) I ((vs.toArray.size : Nat) : Int) old) ∧ h.IsListIter I l vs.toArray.size ∧ h.IsList l vs.toArray := by simpa using st
      refine W.done _ _ _ st' fun h' tk' hs' => ?_
      dsimp only
      refine wpAny_execs_nil ?_
      have kk : ∀ b o, b ≠ I → b ≠ I + 1 → h.get? b = some o → h'.get? b = some o := fun b o hb hb1 e => hs' b o (by simp; exact ⟨hb1, hb⟩) e
      have F₂ : Fr h₀ L h' m₁ := ⟨F₁.ns.at' fun o e => kk _ o (Nat.ne_of_lt hIL) (Nat.ne_of_lt (Nat.lt_trans hIL hlt1)) e, fun b o e => kk b o (fun q => by rw [q, hI0] at e; cases e) (fun q => by rw [q, hI1] at e; cases e) (F₁.keep b o e), F₁.above⟩
      exact done m₁ news₁ h' tk' hJ F₂ (fun p hp => ⟨kk _ _ (hne p hp).1 (hne p hp).2 (N₁ p hp).1, (N₁ p hp).2⟩) hl₁
  · intro p hp
    have := Heap.lt_size (N p hp).1
    rw [hI] at this
    exact ⟨Nat.ne_of_lt this, Nat.ne_of_lt (Nat.lt_trans this hlt1)⟩
end
end
section
theorem off1_of {D : Addr} : ∀ {l : List (Addr × Obj)}, (∀ p ∈ l, p.1 ≠ D) → LCg.Off1 D l
  | [], _ => trivial
  | _ :: _, h => ⟨h _ (List.Mem.head _), off1_of fun p hp => h p (List.Mem.tail _ hp)⟩
noncomputable def TestEnd (b : Bool) (s₃ : Shared) (ok : Bool) (s₄ : Shared) : Prop := ok = b ∧ Keeps s₃ s₄
noncomputable def SameEnd (v : Value) (s₃ : Shared) (y : Value) (s₄ : Shared) : Prop := y = v ∧ Keeps s₃ s₄
noncomputable def keepS (y : Str) : Bool := !decide ((y.length : Int) = 0) && y != Str.ofString "."
theorem keep1 {c : Str} (h : (c.length : Int) ≠ 0) (h2 : (c != Str.ofString ".") = true) : true = keepS c := by unfold keepS; rw [h2, decide_eq_false h]; rfl
theorem keep2 {c : Str} (h : (c.length : Int) ≠ 0) (h2 : (c != Str.ofString ".") = false) : false = keepS c := by unfold keepS; rw [h2, decide_eq_false h]; rfl
theorem keep3 {c : Str} (h : (c.length : Int) = 0) : false = keepS c := by unfold keepS; rw [decide_eq_true h]; rfl
theorem tend1 {c : Str} {t : Tok} {s₃ : Shared} {tk : Nat} (h : (c.length : Int) ≠ 0) (h2 : (c != Str.ofString ".") = true) : TestEnd (strP keepS (.str c t)) s₃ true { heap := s₃.heap, gens := s₃.gens, drawn := s₃.drawn, toks := tk, os := s₃.os } := ⟨keep1 h h2, _, _, rfl, fun _ _ e => e⟩
theorem tend2 {c : Str} {t : Tok} {s₃ : Shared} {tk : Nat} (h : (c.length : Int) ≠ 0) (h2 : (c != Str.ofString ".") = false) : TestEnd (strP keepS (.str c t)) s₃ false { heap := s₃.heap, gens := s₃.gens, drawn := s₃.drawn, toks := tk, os := s₃.os } := ⟨keep2 h h2, _, _, rfl, fun _ _ e => e⟩
theorem tend3 {c : Str} {t : Tok} {s₃ : Shared} {tk : Nat} (h : (c.length : Int) = 0) : TestEnd (strP keepS (.str c t)) s₃ false { heap := s₃.heap, gens := s₃.gens, drawn := s₃.drawn, toks := tk, os := s₃.os } := ⟨keep3 h, _, _, rfl, fun _ _ e => e⟩
section
variable {prog : Program} {w : World} {A : Around} {E : Value → Shared → Prop} {s : Shared} {env : Env} {h₀ : Heap} {L a : Addr} {m : Str → Option Value} {news : List (Addr × Obj)} {elts : List Expr} {k : Nat} {pos : Pos}
theorem assign_set1 {Q : Unit → Shared → Prop} (F : Fr h₀ L s.heap m) (N : News h₀ L s.heap news) (ha : (a, set1 (!byT w)) ∈ news) (hh : A.handled = none) (hn : (assignEach elts env).length = 1)
    (hstar : (assignEach elts env).findIdx? (·.1) = none) (h : ∀ h', Fr h₀ L h' m → News h₀ L h' news → wpAny (model prog w) A (assignInOrder ((assignEach elts env).map (·.2)) [.bool true]) Q E { s with heap := h' }) :
    wpAny (model prog w) A (assign (.Tuple elts k pos) env (.ref a)) Q E s := by
  rw [assign_Tuple]
  refine wpAny_bind (wpAny_standAt ?_)
  unfold unpack
  rw [hn, hstar]
  exact wpAny_bind (wpAny_holding (unpack_set hh (N _ ha).1 fun h' he => h h' (F.extBut he (Nat.le_refl _)) (N.extBut he (Nat.le_refl _))))
end

noncomputable def cX (x : Str) : List Str := (Txt.split x (Str.ofString "/")).filter keepS
noncomputable def cB1 (x y : Str) : Bool := lexL ltS (decide ((cX y).length < (cX x).length)) (cX y) (cX x)
noncomputable def cB2 (x y : Str) : Bool := lexL gtS (decide ((cX y).length > (cX x).length)) (cX y) (cX x)
noncomputable def cpre : List Str → List Str → List Str
  | x :: xs, y :: ys => if x = y then x :: cpre xs ys else []
  | _, _ => []
noncomputable def cS1 (x y : Str) : List Str := if cB1 x y = true then cX y else cX x
noncomputable def cS2 (x y : Str) : List Str := if cB2 x y = true then cX y else cX x
noncomputable def comF (x y : Str) : Str := Str.ofString "/" ++ Txt.join (Str.ofString "/") (cpre (cS1 x y) (cS2 x y))
theorem cpre_brk : ∀ {i : Nat} {xs ys : List Str} {a b : Str}, xs.take i = ys.take i → xs[i]? = some a → ys[i]? = some b → a ≠ b → cpre xs ys = xs.take i
  | 0, x :: xs, y :: ys, a, b, _, ha, hb, hne => by
    have e1 : x = a := by simpa using ha
    have e2 : y = b := by simpa using hb
    subst e1 e2
    unfold cpre; rw [if_neg hne]; rfl
  | 0, [], _, a, b, _, ha, _, _ => by simp at ha
  | 0, _ :: _, [], a, b, _, _, hb, _ => by simp at hb
  | i + 1, [], _, a, b, _, ha, _, _ => by simp at ha
  | i + 1, _ :: _, [], a, b, _, _, hb, _ => by simp at hb
  | i + 1, x :: xs, y :: ys, a, b, h, ha, hb, hne => by
    simp only [List.take_succ_cons, List.cons.injEq] at h
    obtain ⟨rfl, h⟩ := h
    unfold cpre; rw [if_pos rfl, cpre_brk h (by simpa using ha) (by simpa using hb) hne]; rfl
theorem cpre_end : ∀ {xs ys : List Str}, xs = ys.take xs.length → cpre xs ys = xs
  | [], ys, _ => by cases ys <;> rfl
  | x :: xs, [], h => by simp at h
  | x :: xs, y :: ys, h => by
    simp only [List.length_cons, List.take_succ_cons, List.cons.injEq] at h
    obtain ⟨rfl, h⟩ := h
    unfold cpre; rw [if_pos rfl, cpre_end h]
theorem map_first2 {x y : Str} {m : Str → Option Value} : m = fun z => if z = x then m x else if z = y then m y else m z := by
  funext z
  by_cases h : z = x
  · simp [h]
  · by_cases k : z = y
    · subst k; rw [if_neg h, if_pos rfl]
    · simp [h, k]
theorem take_next {i : Nat} {xs ys : List Str} {a : Str} (h : xs.take i = ys.take i) (ha : xs[i]? = some a) (hb : ys[i]? = some a) : xs.take (i + 1) = ys.take (i + 1) := by
  rw [List.take_add_one, List.take_add_one, h, ha, hb]
section
variable {prog : Program} {w : World} {A : Around} {E : Value → Shared → Prop} {s : Shared} {env : Env} {h₀ : Heap} {L : Addr} {m₀ : Str → Option Value} {news : List (Addr × Obj)} {body : List Stmt} {Q : Flow → Shared → Prop}
theorem enum_at2 {l : Addr} {vs : List Value} {nn : Nat} {elts : List Expr} {k : Nat} {px : Pos} (a b : Str) (P : Nat → Prop)
    (hh : A.handled = none) (hl : (l, listOf vs.toArray nn) ∈ news) (F : Fr h₀ L s.heap m₀) (N : News h₀ L s.heap news) (hj : P 0)
    (turn : ∀ i v h tk own T t u1 u2, vs[i]? = some v → OwnOff own (news.map (·.1)) → P i → Fr h₀ L h (fun z => if z = a then u1 else if z = b then u2 else m₀ z) → News h₀ L h (news ++ own) → IsTup h T #[.int i t, v] →
      wpAny (model prog w) A (assign (.Tuple elts k px) env (.ref T)) (fun _ s₂ => wpAny (model prog w) A (execs body env) (InvPostG h₀ L (fun m' nx => (l, listOf vs.toArray nn) ∈ nx ∧ ∃ u1 u2, (m' = fun z => if z = a then u1 else if z = b then u2 else m₀ z) ∧ nx = news ∧ P (i + 1)) own { s with heap := h, toks := tk } Q) (fun _ _ => False) s₂) (fun _ _ => False) { s with heap := h, toks := tk })
    (done : ∀ h tk u1 u2, P vs.length → Fr h₀ L h (fun z => if z = a then u1 else if z = b then u2 else m₀ z) → News h₀ L h news → Q .next { s with heap := h, toks := tk }) :
    wpAny (model prog w) A (call (.type "enumerate") [.ref l]) (fun xv s₁ => EnumAt prog w A env (.Tuple elts k px) body Q xv s₁) E s := by
  refine enum_at (fun i m₁ news₁ => ∃ u1 u2, (m₁ = fun z => if z = a then u1 else if z = b then u2 else m₀ z) ∧ news₁ = news ∧ P i) hh hl F N ⟨_, _, map_first2, rfl, hj⟩ ?_ ?_
  · rintro i v m₁ news₁ h tk own T t hvi hoff hl₁ ⟨u1, u2, rfl, rfl, hP⟩ F₁ N₁ hT
    exact turn i v h tk own T t u1 u2 hvi hoff hP F₁ N₁ hT
  · rintro m₁ news₁ h tk ⟨u1, u2, rfl, rfl, hP⟩ F₁ N₁ _
    exact done h tk u1 u2 hP F₁ N₁
theorem item_at {value slice : PySem.Expr} {l : Addr} {vs : List Value} {n i : Nat} {u : Tok} {v : Value} {Q : Value → Shared → Prop} (N : News h₀ L s.heap news) (hm : (l, listOf vs.toArray n) ∈ news) (hx : vs[i]? = some v) (hz : vs.length ≤ 1000) (h : Q v s)
    (hs : subscripted slice false (.ref l) (.int (i : Int) u) = operate [.ref l, .int (i : Int) u] (getItem (.ref l) (.int (i : Int) u))) :
    wpAny (model prog w) A (subscriptTail value slice (.ref l) (.int (i : Int) u)) Q E s := by
  have hl := at_list N hm
  have hi : i < vs.length := (List.getElem?_eq_some_iff.mp hx).1
  exact tail_any hl.typeIs slot_list_getitem.lookup (wpAny_getItem_list hl (by omega) (by omega) (by simpa using hx) h) hs
end
/-- what commonpath asks of two texts -/
structure ComOk (x y : Str) : Prop where
  hx : x.length ≤ 100
  hy : y.length ≤ 100
  lx : (Txt.split x (Str.ofString "/")).length ≤ 1000
  ly : (Txt.split y (Str.ofString "/")).length ≤ 1000
  px : ∀ c ∈ Txt.split x (Str.ofString "/"), c.length ≤ 100
  py : ∀ c ∈ Txt.split y (Str.ofString "/"), c.length ≤ 100
  sx : Txt.startswith x (Str.ofString "/") = true
  sy : Txt.startswith y (Str.ofString "/") = true
  nb : (cB1 x y && cB2 x y) = false
  ok : ∀ i, i < (cS1 x y).length → (cS1 x y).take i = (cS2 x y).take i → i < (cS2 x y).length
  sl : (cS1 x y).length ≤ 20
  sl2 : (cS2 x y).length ≤ 1000
  jl : ∀ i, i ≤ 20 → (Txt.join (Str.ofString "/") ((cS1 x y).take i)).length ≤ 1000
  jw : ∀ i, i ≤ 20 → (((cS1 x y).take i).map (·.length)).sum + ((cS1 x y).take i).length ≤ 1048576
theorem map_two {a b : Str} (hab : a ≠ b) {p q : Value} {u v : Option Value} {M : Str → Option Value} : (fun y => if y = b then some p else if y = a then some q else if y = a then u else if y = b then v else M y) = fun y => if y = a then some q else if y = b then some p else M y := by
  funext y
  by_cases h : y = a
  · subst h; simp [hab]
  · by_cases k : y = b
    · subst k; simp [h]
    · simp [h, k]
end
section
local macro_rules | `(tactic| walk_at "call builtin:issubclass") => `(tactic| (k_here; with_unfolding_all refine' issub_str (by exact News.get (by k_asm) (by k_mem)) ?_))
local macro_rules | `(tactic| walk_at "call builtin:str.split") => `(tactic| (k_here; k_dflt (refine' split_t (by k_asm) (by k_asm) (by decide) ?_ (by (rw [sizeLine_eq]; omega)); k_whole); intro D' vs' h' k' a' F' N' l1; (try dsimp only)))
local macro_rules | `(tactic| walk_at "call builtin:str.join") => `(tactic| (k_here; k_dflt (refine' join_t (by k_asm) (by k_asm) (by k_mem) (by k_asm) (by decide) (by first | assumption | omega) ?_; k_whole); intro t' k'; (try dsimp only)))


local macro_rules | `(tactic| walk_at "eval Name") => `(tactic| (k_here; (with_reducible show wpAny _ _ (eval (Expr.Name _ _) (compEnvC _ _ _ _)) _ _ _); k_dflt (refine' nameB_L (by k_asm) (by exact rfl) ?_ (by exact rfl) (by exact rfl) (by decide); k_whole)))
local macro_rules | `(tactic| walk_at "eval Name") => `(tactic| (k_here; (with_reducible show wpAny _ _ (eval (Expr.Name _ _) (compEnvC _ _ _ _)) _ _ _); k_dflt (refine' nameB_C (by k_asm) (by exact rfl) (by k_mem) (by k_asm) ?_ (by exact rfl) (by exact rfl) (by decide); k_whole)))

local macro_rules | `(tactic| walk_at "call type:map") => `(tactic| (k_here; k_dflt (refine' map_at (by k_asm) (by k_asm) (by k_mem) ?_; k_whole); intro M' TI' I' h' F' N' hne' hlt'; (try dsimp only)))
local macro_rules | `(tactic| walk_at "call type:tuple") => `(tactic| (k_here; k_dflt (refine' tuple_map_at (by k_asm) (by k_asm) (by k_asm) (by k_asm) (by k_mem) (by k_asm) (by k_asm) (by k_asm) (by exact Nat.le_of_ble_eq_true rfl) (by (dsimp only [Ar, Around.deeper, Around.in1]; omega)) ?_; k_whole); intro D' h' tk' F' N' l1; (try k_lt l1); (try dsimp only)))
local macro_rules | `(tactic| walk_at "call builtin:str.split") => `(tactic| (k_here; k_dflt (refine' split_t (by k_asm) (by k_asm) (by decide) ?_ (by (rw [sizeLine_eq]; omega)); k_whole); intro D' vs' h' k' a' F' N' l1; (try k_lt l1); (try dsimp only)))
local macro_rules | `(tactic| walk_at "call builtin:min") => `(tactic| (k_here; k_dflt (refine' min_lists (by exact rfl) (by k_asm) (by k_asm) (by k_mem) (by k_mem) (by k_mem) (by k_asm) (by k_asm) (by (dsimp only [Ar, Around.deeper, Around.in1]; omega)) ?_; k_whole); intro h' tk' F' N'; (try dsimp only)))
local macro_rules | `(tactic| walk_at "call builtin:max") => `(tactic| (k_here; k_dflt (refine' max_lists (by exact rfl) (by k_asm) (by k_asm) (by k_mem) (by k_mem) (by k_mem) (by k_asm) (by k_asm) (by (dsimp only [Ar, Around.deeper, Around.in1]; omega)) ?_; k_whole); intro h' tk' F' N'; (try dsimp only)))
local macro_rules | `(tactic| walk_at "subscriptTail Name Name ref int") => `(tactic| (k_here; k_dflt (refine' item_at (by k_asm) (by k_mem) (by with_reducible assumption) (by omega) ?_ (by with_unfolding_all rfl); k_whole)))
local macro_rules | `(tactic| walk_at "subscriptTail Name Slice ref ref") => `(tactic| (k_here; (with_reducible show wpAny _ _ (subscriptTail _ (Expr.Slice none (some _) none _) _ _) _ _ _); k_dflt (refine' to_t _ (by k_asm) (by k_asm) (by k_mem) (by k_asm) ?_ (by with_unfolding_all rfl) (by intro _; with_unfolding_all rfl) (by (rw [sizeLine_eq]; omega)); k_whole); intro D' ws' h' a' F' N' l1; (try k_lt l1); (try dsimp only)))
local macro_rules | `(tactic| walk_at "exec For Tuple Call cons nil") => `(tactic| (k_here; refine hold_in ?_))
local macro_rules | `(tactic| walk_at "exec Assign cons ListComp") => `(tactic| (k_here; refine hold_in ?_))

theorem news_four {h₀ h : Heap} {L L1 l0 : Addr} {a b : Addr × Obj} {oc od : Obj} {r : List (Addr × Obj)} (N : News h₀ L h (a :: b :: r)) (hc : (L1, oc) ∈ r) (hd : (l0, od) ∈ r) : News h₀ L h [a, b, (L1, oc), (l0, od)] := by
  intro p hp
  rcases List.mem_cons.mp hp with rfl | hp
  · exact N _ (.head _)
  rcases List.mem_cons.mp hp with rfl | hp
  · exact N _ (.tail _ (.head _))
  rcases List.mem_cons.mp hp with rfl | hp
  · exact N _ (.tail _ (.tail _ hc))
  rw [List.mem_singleton.mp hp]
  exact N _ (.tail _ (.tail _ hd))
theorem news_tail {h₀ h : Heap} {L : Addr} {a : Addr × Obj} {r : List (Addr × Obj)} (N : News h₀ L h (a :: r)) : News h₀ L h r := fun p hp => N p (.tail _ hp)
theorem pick_mem {h₀ h : Heap} {L : Addr} {news : List (Addr × Obj)} {b : Bool} {Dx Dy : Addr} {vx vy : List Value} {nx ny : Nat} {cx cy : List Str} (N : News h₀ L h news) (hx : (Dx, listOf (List.toArray vx) nx) ∈ news) (hy : (Dy, listOf (List.toArray vy) ny) ∈ news) (sx : StrsAre vx cx) (sy : StrsAre vy cy) :
    ∃ l v n, (if b = true then Dy else Dx) = l ∧ StrsAre v (if b = true then cy else cx) ∧ News h₀ L h ((l, listOf (List.toArray v) n) :: news) := by
  have add : ∀ a ∈ news, News h₀ L h (a :: news) := fun a ha p hp => by
    rcases List.mem_cons.mp hp with rfl | hp
    · exact N _ ha
    · exact N p hp
  cases b with
  | true => exact ⟨Dy, vy, ny, rfl, sy, add _ hy⟩
  | false => exact ⟨Dx, vx, nx, rfl, sx, add _ hx⟩
local macro_rules | `(tactic| k_ne) => `(tactic| ((try dsimp only); first | with_reducible assumption | with_reducible exact Ne.symm (by with_reducible assumption) | ((repeat (rename _ ∧ _ => hh; obtain ⟨_, _⟩ := hh)); first | with_reducible assumption | with_reducible exact Ne.symm (by with_reducible assumption) | exact Nat.ne_of_lt (by with_reducible assumption) | exact Nat.ne_of_gt (by with_reducible assumption))))
local macro_rules | `(tactic| walk_at "eval ListComp") => `(tactic| (k_here; refine hold_in ?_))
local macro_rules | `(tactic| walk_at "assign Tuple") => `(tactic| (k_here; (with_reducible show wpAny _ _ (assign (Expr.Tuple _ _ _) _ (Value.ref _)) _ _ _); k_dflt (refine' assign_set1 (by k_asm) (by k_asm) (by k_mem) (by exact rfl) (by exact rfl) (by exact rfl) ?_; k_whole); intro h' F' N'; (try k_sweep)))

local macro_rules | `(tactic| walk_at "execs cons") => `(tactic| (k_here; (with_reducible refine wpAny_execs_cons ?_); k_fold))
theorem commonpath_ok {w : World} {mean : ExcName → Option Value} {mg mb : Str → Option Value} (x y : Str) (ok : ComOk x y) (l : Addr) (n : Nat) (t u : Tok) :
    Does w mean mg mb 163 [.ref l] [(l, listOf [Value.str x t, Value.str y u].toArray n)] 20 (fun _ v _ => ∃ t', v = .str (comF x y) t') := by
  unfold Does
  intro dp un fr gd s hB Q E X T kB hn ha hdp hun ret
  w_on
  (revert X; k_fill; intro X)
  k_dflt (refine' enterC [(l, listOf [Value.str x t, Value.str y u].toArray n)] (binds := [(Str.ofString "paths", .ref l)]) ?k1 ?k2 ?ka ?kb ?kc ?k3 ?k4 ?k5 ?k6 ?k7 ?k8 ?_ ?c2 ?c3 ?c4; (case k1 => k_asm); (case k2 => k_asm); (case ka => k_asm); (case kb => k_asm); (case kc => k_asm); (case k3 => k_is); (case k4 => k_is); (case k5 => (dsimp only [Ar, Around.deeper, Around.in1]; omega)); (case k6 => exact BindsTo.of_eq rfl); (case k7 => exact rfl); (case k8 => decide +kernel); (case c2 => exact rfl); (case c3 => exact rfl); (case c4 => exact rfl); k_whole)
  intro L' h' tk' cells' X' T' F' N' Y' l1
  (try k_lt l1)
  k_cells Y'
  (try simp only [List.cons_append, List.nil_append] at N')
  (try dsimp only)
  (try k_fold)
  obtain ⟨hx, hy, lx, ly, px, py, sx, sy, nb, ok', sl, sl2, jl, jw⟩ := ok
  have hv : StrsAre [Value.str x t, Value.str y u] [x, y] := .cons _ _ (.cons _ _ .nil)
  replace F' : Fr (hid s.heap [(l, listOf [Value.str x t, Value.str y u].toArray n)]) L' h' (fun y => if y = Str.ofString "paths" then some (.ref l) else none) := F'
  k_steps
  unfold Hold
  refine assign_comp_tuple (cl := [(Str.ofString "sep", L' + 1)]) (by k_asm) (by rfl) (by with_unfolding_all rfl) (by with_unfolding_all rfl) (by decide) (by rfl) (by decide) (by rfl) (by rfl) (by rfl) ?_ (by intro _; rfl)
  k_steps
  refine ⟨_, _, _, rfl, rfl, by k_asm, by k_asm, .inr ⟨_, by k_mem, rfl, _, rfl⟩, Nat.le_of_ble_eq_true rfl, ?_⟩
  intro g'
  lcg_lit
  k_steps
  refine set_comp (cl := [(Str.ofString "sep", L' + 1)]) (by k_asm) (by rfl) (by decide) rfl (by decide) rfl ?_ (by intro _; rfl)
  k_steps
  refine ⟨_, _, _, rfl, rfl, by k_asm, by k_asm, by k_mem, (by simp), ?_, ?_⟩
  · intro C s₃ v m₃ E' hv₃ F₃ N₃ k₃
    dsimp only at F₃ N₃ k₃
    have X₃ := Frag.In.keeps X' k₃
    have T₃ := T'.keeps k₃
    simp only [List.mem_cons, List.not_mem_nil, or_false] at hv₃
    rcases hv₃ with rfl | rfl
    · k_steps
      exact ⟨by rw [sx], keeps_refl _⟩
    · k_steps
      exact ⟨by rw [sy], keeps_refl _⟩
  · intro D₅ h₅ tk₅ F₅ N₅ l₅
    (try k_lt l₅)
    dsimp only
    k_steps
    unfold Hold
    (repeat (rename _ ∧ _ => hh; obtain ⟨_, _⟩ := hh))
    (rename News _ _ _ _ => NQ)
    replace NQ := news_tail NQ
    refine LCg.Assign_ListComp_U (cl := [(Str.ofString "curdir", L' + 1 + 1)]) (F₀ := by k_asm) (by rfl) (by with_unfolding_all rfl) (by with_unfolding_all rfl) (by decide) (by rfl) (by decide) (by rfl) (by rfl) (by rfl) ?_
    k_steps
    unfold Hold
    (repeat (rename _ ∧ _ => hh; obtain ⟨_, _⟩ := hh))
    (rename StrsAre _ (Txt.split x (Str.ofString "/")) => hvx)
    (rename StrsAre _ (Txt.split y (Str.ofString "/")) => hvy)
    refine lc_free (cl := [(Str.ofString "curdir", L' + 1 + 1)]) (strP keepS) (fun v y => y = v) (by rfl) (by decide) rfl (by decide) rfl ?_ (by intro _; rfl)
    k_steps
    refine' comp_list (strP keepS) (fun v y => y = v) ?kh ?kF ?kN ?kl ?_ ?_ ?_ ?_
    (case kh => exact rfl)
    (case kF => k_asm)
    (case kN => k_asm)
    (case kl => k_mem)
    · rw [strsAre_len hvx, sizeLine_eq]; omega
    · intro C s₃ v m₃ E' hv₃ F₃ N₃ k₃
      obtain ⟨c, t₃, rfl, hc₃⟩ := strs_mem hvx hv₃
      have hcl := px c hc₃
      dsimp only at F₃ N₃ k₃
      have X₃ := Frag.In.keeps X' k₃
      have T₃ := T'.keeps k₃
      refine tests1 ?_
      refine wpAny_mono (Q := TestEnd (strP keepS (.str c t₃)) s₃) ?_ (fun _ _ q => q) fun _ _ x => x
      k_steps
      all_goals first
        | with_reducible exact tend1 (by with_reducible assumption) (by with_reducible assumption)
        | with_reducible exact tend2 (by with_reducible assumption) (by with_reducible assumption)
        | with_reducible exact tend3 (by with_reducible assumption)
    · intro C s₃ v m₃ E' hv₃ hp F₃ N₃ k₃
      dsimp only at F₃ N₃ k₃
      have X₃ := Frag.In.keeps X' k₃
      have T₃ := T'.keeps k₃
      refine wpAny_mono (Q := SameEnd v s₃) ?_ (fun _ _ q => q) fun _ _ x => x
      k_steps
      exact ⟨rfl, keeps_refl _⟩
    intro Dhvx n₆ ws₆ h₆ tk₆ hpair F₆ N₆ hne
    obtain rfl := paired_eq hpair
    have hvxw := strs_filter keepS hvx
    have o1 := off1_of hne
    simp only [LCg.Off1, and_true] at o1
    (repeat (rename _ ∧ _ => hh; obtain ⟨_, _⟩ := hh))
    clear hpair hne
    dsimp only
    lcg_end
    k_steps
    unfold Hold
    (repeat (rename _ ∧ _ => hh; obtain ⟨_, _⟩ := hh))
    refine lc_free (cl := [(Str.ofString "curdir", L' + 1 + 1)]) (strP keepS) (fun v y => y = v) (by rfl) (by decide) rfl (by decide) rfl ?_ (by intro _; rfl)
    k_steps
    refine' comp_list (strP keepS) (fun v y => y = v) ?kh ?kF ?kN ?kl ?_ ?_ ?_ ?_
    (case kh => exact rfl)
    (case kF => k_asm)
    (case kN => k_asm)
    (case kl => k_mem)
    · rw [strsAre_len hvy, sizeLine_eq]; omega
    · intro C s₃ v m₃ E' hv₃ F₃ N₃ k₃
      obtain ⟨c, t₃, rfl, hc₃⟩ := strs_mem hvy hv₃
      have hcl := py c hc₃
      dsimp only at F₃ N₃ k₃
      have X₃ := Frag.In.keeps X' k₃
      have T₃ := T'.keeps k₃
      refine tests1 ?_
      refine wpAny_mono (Q := TestEnd (strP keepS (.str c t₃)) s₃) ?_ (fun _ _ q => q) fun _ _ x => x
      k_steps
      all_goals first
        | with_reducible exact tend1 (by with_reducible assumption) (by with_reducible assumption)
        | with_reducible exact tend2 (by with_reducible assumption) (by with_reducible assumption)
        | with_reducible exact tend3 (by with_reducible assumption)
    · intro C s₃ v m₃ E' hv₃ hp F₃ N₃ k₃
      dsimp only at F₃ N₃ k₃
      have X₃ := Frag.In.keeps X' k₃
      have T₃ := T'.keeps k₃
      refine wpAny_mono (Q := SameEnd v s₃) ?_ (fun _ _ q => q) fun _ _ x => x
      k_steps
      exact ⟨rfl, keeps_refl _⟩
    intro Dhvy n₆ ws₆ h₆ tk₆ hpair F₆ N₆ hne
    obtain rfl := paired_eq hpair
    have hvyw := strs_filter keepS hvy
    have o1 := off1_of hne
    simp only [LCg.Off1, and_true] at o1
    (repeat (rename _ ∧ _ => hh; obtain ⟨_, _⟩ := hh))
    clear hpair hne
    dsimp only
    lcg_end
    k_steps
    unfold Hold
    (repeat (rename _ ∧ _ => hh; obtain ⟨_, _⟩ := hh))
    (rename Fr _ _ _ _ => FF)
    (rename News _ _ _ _ => NN)
    change StrsAre _ (cX x) at hvxw
    change StrsAre _ (cX y) at hvyw
    obtain ⟨l1, v1, n1, e1, hv1, N₁⟩ := pick_mem (b := lexL ltS (decide ((List.filter keepS (Txt.split y (Str.ofString "/"))).length < (List.filter keepS (Txt.split x (Str.ofString "/"))).length)) (List.filter keepS (Txt.split y (Str.ofString "/"))) (List.filter keepS (Txt.split x (Str.ofString "/")))) (Dx := Dhvx) (Dy := Dhvy) NN (by k_mem) (by k_mem) hvxw hvyw
    obtain ⟨l2, v2, n2, e2, hv2, N₂⟩ := pick_mem (b := lexL gtS (decide ((List.filter keepS (Txt.split y (Str.ofString "/"))).length > (List.filter keepS (Txt.split x (Str.ofString "/"))).length)) (List.filter keepS (Txt.split y (Str.ofString "/"))) (List.filter keepS (Txt.split x (Str.ofString "/")))) (Dx := Dhvx) (Dy := Dhvy) N₁ (by k_mem) (by k_mem) hvxw hvyw
    rw [e1, e2] at FF
    change StrsAre v1 (cS1 x y) at hv1
    change StrsAre v2 (cS2 x y) at hv2
    have NN4 := news_four (L1 := L' + 1) (l0 := l) N₂ (by k_mem) (by k_mem)
    clear NN N₁ N₂ e1 e2 hvxw hvyw
    (rename News _ _ _ _ => NN)
    have hz1 := strsAre_len hv1
    have hz2 := strsAre_len hv2
    refine enum_in ?_ (by intro _; rfl)
    k_steps
    refine' enum_at2 (Str.ofString "i") (Str.ofString "c") (fun i => (cS1 x y).take i = (cS2 x y).take i) ?hh ?fl FF NN rfl ?_ ?_
    (case hh => exact rfl)
    (case fl => k_mem)
    · intro i v h₇ tk₇ own T₇ t₇ u1 u2 hvi hoff hP F₇ N₇ hT₇
      obtain ⟨c, tc, rfl, hc⟩ := strsAre_get hv1 i v hvi
      have hil : i < (cS1 x y).length := (List.getElem?_eq_some_iff.mp hc).1
      have hi2 := ok' i hil hP
      obtain ⟨d, hd⟩ : ∃ d, (cS2 x y)[i]? = some d := ⟨_, List.getElem?_eq_getElem hi2⟩
      obtain ⟨td, hd'⟩ := strsAre_get' hv2 i d hd
      simp only [List.cons_append, List.nil_append] at N₇
      simp only [List.map_cons, List.map_nil] at hoff
      have hji := jl i (by omega)
      have hwi := jw i (by omega)
      k_steps
      · (rename News _ _ _ _ => NE)
        (rename Fr _ _ _ _ => FE)
        have hne : (c != d) = true := by with_reducible assumption
        have e : comF x y = Str.ofString "/" ++ Txt.join (Str.ofString "/") ((cS1 x y).take i) := by unfold comF; rw [cpre_brk hP hc hd (by simpa using hne)]
        refine ret _ _ _ (kp_out FE NE (fun p hp => by rw [List.mem_singleton.mp hp]; k_mem) ha) ?_
        exact ⟨_, by rw [e]⟩
      · (rename News _ _ _ _ => NE)
        (rename Fr _ _ _ _ => FE)
        have hne : (c != d) = false := by with_reducible assumption
        have hcd : c = d := by simpa using hne
        subst hcd
        exact InvEndG.intro (fr_off FE (map_two (by decide))) NE ⟨by k_mem, _, _, rfl, rfl, take_next hP hc hd⟩ hoff (fun p hp => List.mem_append_left own hp) (fun p hp => by simp only [List.mem_cons]; simp only [hp, or_true])
    · intro h₇ tk₇ u1 u2 hP F₇ N₇
      have hjn := jl (cS1 x y).length (by omega)
      have hwn := jw (cS1 x y).length (by omega)
      rw [List.take_length] at hjn hwn
      rw [hz1, List.take_length] at hP
      dsimp only
      k_steps
      (rename News _ _ _ _ => NE)
      (rename Fr _ _ _ _ => FE)
      have e : comF x y = Str.ofString "/" ++ Txt.join (Str.ofString "/") (cS1 x y) := by unfold comF; rw [cpre_end hP]
      refine ret _ _ _ (kp_out FE NE (fun p hp => by rw [List.mem_singleton.mp hp]; k_mem) ha) ?_
      exact ⟨_, by rw [e]⟩
end
section
theorem enterR {prog : Program} {w : World} {A : Around} {s : Shared} {K : Frag} {p : Program} {loose : List Str} {mean : ExcName → Option Value} {mg mb : Str → Option Value} {Q E : Value → Shared → Prop}
    {name qual : Str} {params : Arguments} {body : List Stmt} {scope : Scope} {dV kV doc pm cdv ct oc : Value} {an od : Option Addr} {osl : Array (Option Value)} {f : Addr} {args : List Value} {vs : List Value} {g₁ : Addr → Option (List (Str × Value))} {binds : Addr → List (Str × Value)}
    {h₀ : Heap} {L : Addr} {m : Str → Option Value} {news : List (Addr × Obj)}
    (X : K.In h₀) (T : Top p loose mean mg mb h₀) (F : Fr h₀ L s.heap m) (N : News h₀ L s.heap news)
    (ho : K.lookup f = some ⟨oc, od, .func (fnOf name qual params body scope dV kV doc pm an cdv ct), osl⟩) (hcd : codeIn K cdv qual = true) (hroom : A.depth < recursionLimit)
    (hp : peek1 K ⟨prog, w.params⟩ (bindArgs (fnOf name qual params body scope dV kV doc pm an cdv ct) ⟨args, []⟩) = some (({ cls := .type "tuple", data := .seq vs.toArray } : Obj), g₁))
    (hg : ∀ D, g₁ D = some (binds D)) (hloc : ∀ D, ∀ y ∈ binds D, scope.names.lookup y.1 = some .local)
    (h : ∀ D L' h' h₁, Fr h₀ L h' m → News h₀ L h' ((D, ({ cls := .type "tuple", data := .seq vs.toArray } : Obj)) :: news) → K.In (hid h' [(D, ({ cls := .type "tuple", data := .seq vs.toArray } : Obj))]) → Top p loose mean mg mb (hid h' [(D, ({ cls := .type "tuple", data := .seq vs.toArray } : Obj))]) →
      Fr (hid h' [(D, ({ cls := .type "tuple", data := .seq vs.toArray } : Obj))]) L' h₁ (fun y => (binds D).reverse.lookup y) → News (hid h' [(D, ({ cls := .type "tuple", data := .seq vs.toArray } : Obj))]) L' h₁ [(D, ({ cls := .type "tuple", data := .seq vs.toArray } : Obj))] →
      wpAny (model prog w) (A.deeper (envOf qual scope L' f cdv)) (execs body (envOf qual scope L' f cdv))
        (fun fl s' => Q (match fl with | .ret v => v | _ => .none) s') (fun _ _ => False) { s with heap := h₁, toks := s.toks + (binds D).length })
    (hco : scope.isCoroutine = false) (hgen : scope.isGenerator = false) (hk : scope.kind = .function) (hcell : ∀ x ∈ scope.names, x.2 ≠ .cell) :
    wpAny (model prog w) A (call (.ref f) args) Q E s := by
  refine wpAny_call (codeAny_call_function (fd := fnOf name qual params body scope dV kV doc pm an cdv ct) (body := body) hroom ((X.keeps F.keep) _ _ ho) rfl hco hgen rfl (codeRec_of (X.keeps F.keep) hcd) ?_)
  refine wp_of_peek1 (o := ({ cls := .type "tuple", data := .seq vs.toArray } : Obj)) F N (X.keeps F.keep) rfl (r := binds) (fun D h' F' N' l => ?_) _ g₁ hp hg
  refine wpAny_newFunctionEnv hcell (hloc D) (fun h₁ hns hsb => ⟨(T.nolimit.keeps F'.keep).fresh _ hsb, codeAny_func ?_⟩) hk
  have hk₁ : ∀ b o, h'.get? b = some o → h₁.get? b = some o := fun b o e => hsb.extBut b o (Nat.ne_of_lt (Heap.lt_size e)) (Heap.get?_push_of_some _ e)
  have hD := N' _ (List.Mem.head _)
  have kh : Kp h₀ (hid h' [(D, ({ cls := .type "tuple", data := .seq vs.toArray } : Obj))]) := kp_hid F'.keep fun q hq => by rw [List.mem_singleton.mp hq]; exact hD.2.2
  exact wpAny_mono (h D h'.objs.size h' h₁ F' N' (X.keeps kh) (T.keeps kh) ⟨hns, fun b o e => hk₁ b o (of_hideAll _ e), Nat.le_of_eq (hideAll_size _ _)⟩
    (fun q hq => by rw [List.mem_singleton.mp hq]; exact ⟨hk₁ _ _ hD.1, Nat.ne_of_lt (Heap.lt_size hD.1), hideAll_none _ (List.mem_map_of_mem (List.mem_singleton.mpr rfl))⟩)) (fun _ _ x => x) fun _ _ x => x.elim
noncomputable def joinF (x y : Str) : Str := if Txt.startswith y (Str.ofString "/") = true then y else if (x.length : Int) = 0 then y else if Txt.endswith x (Str.ofString "/") = true then x ++ y else x ++ (Str.ofString "/" ++ y)
theorem join_1 {x y : Str} (h : Txt.startswith y (Str.ofString "/") = true) : joinF x y = y := by unfold joinF; rw [if_pos h]
theorem join_2 {x y : Str} (h : Txt.startswith y (Str.ofString "/") = false) (h2 : (x.length : Int) = 0) : joinF x y = y := by unfold joinF; rw [if_neg (by rw [h]; exact Bool.false_ne_true), if_pos h2]
theorem join_3 {x y : Str} (h : Txt.startswith y (Str.ofString "/") = false) (h2 : (x.length : Int) ≠ 0) (h3 : Txt.endswith x (Str.ofString "/") = true) : joinF x y = x ++ y := by unfold joinF; rw [if_neg (by rw [h]; exact Bool.false_ne_true), if_neg h2, if_pos h3]
theorem join_4 {x y : Str} (h : Txt.startswith y (Str.ofString "/") = false) (h2 : (x.length : Int) ≠ 0) (h3 : Txt.endswith x (Str.ofString "/") = false) : joinF x y = x ++ (Str.ofString "/" ++ y) := by unfold joinF; rw [if_neg (by rw [h]; exact Bool.false_ne_true), if_neg h2, if_neg (by rw [h3]; exact Bool.false_ne_true)]


local macro_rules | `(tactic| walk_at "call ref") => `(tactic| (k_here; (with_reducible show wpAny _ _ (call (Value.ref 130) _) _ _ _); k_dflt (refine' fspath_at (by k_asm) (by k_asm) (by k_asm) (by k_asm) (by (dsimp only [Ar, Around.deeper, Around.in1]; omega)) ?_; k_whole); intro h' tk' F' N'; (try dsimp only); (try k_sweep)))
local macro_rules | `(tactic| walk_at "call ref") => `(tactic| (k_here; (with_reducible show wpAny _ _ (call (Value.ref 144) _) _ _ _); k_dflt (refine' getsep_at (by k_asm) (by k_asm) (by k_asm) (by k_asm) (by (dsimp only [Ar, Around.deeper, Around.in1]; omega)) ?_; k_whole); intro t' h' tk' F' N'; (try dsimp only); (try k_sweep)))


section
variable {w : World} {mean : ExcName → Option Value} {mg mb : Str → Option Value} {dp un : Nat} {fr : Option (List Env)} {gd : Option (List Code)} {s : Shared} {Q E : Value → Shared → Prop}
  {h₀ : Heap} {L : Addr} {m : Str → Option Value} {news : List (Addr × Obj)}
    (F : Fr h₀ L s.heap m) (N : News h₀ L s.heap news) (X : (Mine.hd.heap_39 w.params).In h₀) (T : Top Mine.hd.view_39 (looseW Mine.hd.view_39 [Str.ofString "IPV4_RE"]) mean mg mb h₀)
include F N X T
theorem join_at (hdp : dp + 4 < recursionLimit) {x y : Str} {t u : Tok} (hx : x.length ≤ 100) (hy : y.length ≤ 100) (ret : ∀ t' h' tk', Fr h₀ L h' m → News h₀ L h' news → Q (.str (joinF x y) t') { s with heap := h', toks := tk' }) :
    wpAny (model PySem.Challenge.rw_pd0169_01.row.prog w) (Ar dp un fr gd) (call (.ref 151) [.str x t, .str y u]) Q E s := by
  w_on
  (revert X; k_fill; intro X)
  k_dflt (refine' enterR (vs := [.str y u]) (binds := fun D => [(Str.ofString "a", .str x t), (Str.ofString "p", .ref D)]) ?k1 ?k2 ?kF ?kN ?k3 ?k4 ?k5 ?k6 ?k7 ?k8 ?_ ?c2 ?c3 ?c4 ?c5; (case k1 => k_asm); (case k2 => k_asm); (case kF => k_asm); (case kN => k_asm); (case k3 => k_is); (case k4 => k_is); (case k5 => (dsimp only [Ar, Around.deeper, Around.in1]; omega)); (case k6 => exact rfl); (case k7 => exact fun _ => rfl); (case k8 => exact fun _ => locs rfl); (case c2 => exact rfl); (case c3 => exact rfl); (case c4 => exact rfl); (case c5 => decide); k_whole)
  intro D₁ L' h₁ h' FO NO X' T' F' N'
  (try dsimp only)
  (try k_fold)
  k_steps
  all_goals
    (rename News _ _ _ _ => NE)
    (rename Fr _ _ _ _ => FE)
    have kp := kp_out FE NE (fun p hp => by rw [List.mem_singleton.mp hp]; k_mem) (fun p hp => by rw [List.mem_singleton.mp hp]; exact (NO _ (List.Mem.head _)).1)
    have fo := fr_keep FO kp
    have no := news_keep (fun p hp => NO p (List.Mem.tail _ hp)) kp
    show Q _ _
    first
      | (have e := join_1 (x := x) (y := y) (by with_reducible assumption); rw [e] at ret; exact ret _ _ _ fo no)
      | (have e := join_2 (x := x) (y := y) (by with_reducible assumption) (by with_reducible assumption); rw [e] at ret; exact ret _ _ _ fo no)
      | (have e := join_3 (x := x) (y := y) (by with_reducible assumption) (by with_reducible assumption) (by with_reducible assumption); rw [e] at ret; exact ret _ _ _ fo no)
      | (have e := join_4 (x := x) (y := y) (by with_reducible assumption) (by with_reducible assumption) (by with_reducible assumption); rw [e] at ret; exact ret _ _ _ fo no)
end
end
section
section
variable {prog : Program} {w : World} {A : Around} {s : Shared} {env : Env} {h₀ : Heap} {L : Addr} {x : Str} {px : Pos} {body : List Stmt} {Q : Flow → Shared → Prop}
theorem for_range {r : Addr} {a b : Int} {t₀ u₀ v₀ : Tok} {k : Nat} {m₀ : Str → Option Value} {news : List (Addr × Obj)} (J : Nat → (Str → Option Value) → List (Addr × Obj) → Prop)
    (hh : A.handled = none) (F : Fr h₀ L s.heap m₀) (N : News h₀ L s.heap news) (hr : IsRange s.heap r a b 1 t₀ u₀ v₀) (hk : b = a + k) (hz : k ≤ 1000) (ha : 0 ≤ a) (hb : b ≤ 1000000) (hj : J 0 m₀ news)
    (turn : ∀ i t m₁ news₁ h tk own, i < k → OwnOff own (news₁.map (·.1)) → J i m₁ news₁ → Fr h₀ L h m₁ → News h₀ L h (news₁ ++ own) →
      wpAny (model prog w) A (storeName env x (.int (a + (i : Int)) t)) (fun _ s₂ => wpAny (model prog w) A (execs body env) (InvPostG h₀ L (J (i + 1)) own { s with heap := h, toks := tk } Q) (fun _ _ => False) s₂) (fun _ _ => False) { s with heap := h, toks := tk })
    (done : ∀ m₁ news₁ h tk, J k m₁ news₁ → Fr h₀ L h m₁ → News h₀ L h news₁ → Q .next { s with heap := h, toks := tk }) :
    ForAt prog w A env x px body Q (.ref r) s := by
  unfold ForAt
  subst hk
  have hsz : Builtin.Range.rangeSize a (a + (k : Int)) 1 = (k : Int) := by rw [rangeSize_one]; split <;> omega
  refine wpAny_pyIter_range hr (small_one (by omega) (by omega) (by omega) (by omega)) ?_
  rw [hsz]
  generalize hI : s.heap.objs.size = I
  have hIL : L ≠ I := by rw [← hI]; exact Nat.ne_of_lt F.ns.lt
  have hI0 : h₀.get? I = none := by rw [← hI]; exact next_is_new F
  have W := Walks.range (prog := prog) (w := w) hh I a 1 k
  let Inv : Nat → Shared → Prop := fun n s' => ∃ i h tk m₁ news₁, n = k - i ∧ i ≤ k ∧ s' = { s with heap := h, toks := tk } ∧ IsRangeIter h I (a + ((i : Nat) : Int) * 1) ((k : Int) - ((i : Nat) : Int)) 1 ∧ (∀ p ∈ news₁, p.1 ≠ I) ∧ J i m₁ news₁ ∧ Fr h₀ L h m₁ ∧ News h₀ L h news₁
  refine codeAny_forLoop_any Inv ?_ (k - 0) ⟨0, _, s.toks, m₀, news, rfl, Nat.zero_le _, rfl, ?_, ?_, hj, F.push _, fun p hp => ⟨Heap.get?_push_of_some _ (N p hp).1, (N p hp).2⟩⟩
  · rintro n s' ⟨i, h, tk, m₁, news₁, rfl, hi, rfl, st, hne, hJ, F₁, N₁⟩
    by_cases hlt : i < k
    · refine W.item i _ _ _ hlt st fun v h1 tk1 hP st1 k1 => ?_
      obtain ⟨t, rfl⟩ := hP
      rw [Int.mul_one]
      dsimp only
      refine wpAny_pure ?_
      have kk : ∀ b o, b ≠ I → h.get? b = some o → h1.get? b = some o := fun b o hb e => k1 b o (by simpa using hb) e
      have F₂ : Fr h₀ L h1 m₁ := ⟨F₁.ns.at' fun o e => kk _ o hIL e, fun b o e => kk b o (fun q => by rw [q, hI0] at e; cases e) (F₁.keep b o e), F₁.above⟩
      obtain ⟨oI, st2, heq⟩ : ∃ o : Obj, h1.get? I = some o ∧ o = ({ cls := .type "range_iterator", data := .fields #[rawInt (a + ((i + 1 : Nat) : Int) * 1), rawInt ((k : Int) - ((i + 1 : Nat) : Int)), rawInt 1] } : Obj) := ⟨_, st1, rfl⟩
      have N₂ : News h₀ L h1 (news₁ ++ [(I, oI)]) := by
        intro p hp
        rcases List.mem_append.mp hp with hp | hp
        · exact ⟨kk p.1 _ (hne p hp) (N₁ p hp).1, (N₁ p hp).2⟩
        · rw [List.mem_singleton.mp hp]; exact ⟨st2, Ne.symm hIL, hI0⟩
      have hoff : OwnOff [(I, oI)] (news₁.map (·.1)) := by
        intro p hp b hb e
        rw [List.mem_singleton.mp hp] at e
        obtain ⟨q, hq, rfl⟩ := List.mem_map.mp hb
        exact hne q hq e.symm
      refine wpAny_assign_Name (wpAny_mono (turn i t m₁ news₁ h1 tk1 [(I, oI)] hlt hoff hJ F₂ N₂) (fun _ s₂ h₂ => wpAny_mono h₂ (fun f s₃ h₃ => ?_) fun _ _ x => x.elim) fun _ _ x => x.elim)
      have fin : InvEndG h₀ L (J (i + 1)) [(I, oI)] { s with heap := h1, toks := tk1 } s₃ → ∃ m, m < k - i ∧ Inv m s₃ := by
        rintro ⟨h'', tk'', m', news', nx, rfl, F₃, N₃, hn, ho, hoffx, hJ'⟩
        refine ⟨k - (i + 1), by omega, i + 1, h'', tk'', m', nx, rfl, hlt, rfl, ?_, fun p hp e => ?_, hJ', F₃, fun p hp => N₃ p (hn p hp)⟩
        · have z := (N₃ _ (ho _ (List.mem_singleton.mpr rfl))).1
          show h''.get? I = some ({ cls := .type "range_iterator", data := .fields #[rawInt (a + ((i + 1 : Nat) : Int) * 1), rawInt ((k : Int) - ((i + 1 : Nat) : Int)), rawInt 1] } : Obj)
          rw [← heq]; exact z
        · exact hoffx (I, oI) (List.mem_singleton.mpr rfl) p.1 (List.mem_map.mpr ⟨p, hp, rfl⟩) e.symm
      cases f with
      | ret v => exact h₃
      | brk => exact h₃
      | next => exact fin h₃
      | cont => exact fin h₃
    · have e : i = k := by omega
      subst e
      refine W.done _ _ _ st fun h' tk' hs' => ?_
      dsimp only
      refine wpAny_execs_nil ?_
      have kk : ∀ b o, b ≠ I → h.get? b = some o → h'.get? b = some o := fun b o hb e => hs' b o (by simpa using hb) e
      have F₂ : Fr h₀ L h' m₁ := ⟨F₁.ns.at' fun o e => kk _ o hIL e, fun b o e => kk b o (fun q => by rw [q, hI0] at e; cases e) (F₁.keep b o e), F₁.above⟩
      exact done m₁ news₁ h' tk' hJ F₂ (fun p hp => ⟨kk _ _ (hne p hp) (N₁ p hp).1, (N₁ p hp).2⟩)
  · show IsRangeIter _ _ _ _ _
    have e1 : a + ((0 : Nat) : Int) * 1 = a := by omega
    have e2 : (k : Int) - ((0 : Nat) : Int) = k := by omega
    rw [e1, e2, ← hI]
    exact Heap.get?_push_size _ rfl
  · intro p hp e
    have := Heap.lt_size (N p hp).1
    rw [e, hI] at this
    exact Nat.lt_irrefl _ this
end
end
section
local macro_rules | `(tactic| walk_at "exec For Name Call cons nil") => `(tactic| (k_here; refine hold_in ?_))
local macro_rules | `(tactic| walk_at "pyIter ref") => `(tactic| (k_here; refine hold_in ?_))

local macro_rules | `(tactic| walk_at "call builtin:list.append") => `(tactic| (k_here; k_dflt (refine' append_K (by k_asm) (by k_asm) (by k_upd) ?_ (by (simp only [List.size_toArray]; rw [sizeLine_eq]; omega)); k_whole); intro h' F' N'; (try dsimp only); (try k_sweep)))

local macro_rules | `(tactic| k_all) => `(tactic| (refine OwnOff.ne (by assumption) ?_; k_mem))

section
variable {prog : Program} {w : World} {A : Around} {E : Value → Shared → Prop} {s : Shared} {h₀ : Heap} {L : Addr} {news : List (Addr × Obj)}
theorem item_z {value slice : PySem.Expr} {l : Addr} {vs : List Value} {n i : Nat} {k : Int} {u : Tok} {v : Value} {Q : Value → Shared → Prop} (N : News h₀ L s.heap news) (hm : (l, listOf vs.toArray n) ∈ news) (hk : k = (i : Int)) (hx : vs[i]? = some v) (hz : vs.length ≤ 1000) (h : Q v s)
    (hs : subscripted slice false (.ref l) (.int k u) = operate [.ref l, .int k u] (getItem (.ref l) (.int k u))) :
    wpAny (model prog w) A (subscriptTail value slice (.ref l) (.int k u)) Q E s := by
  subst hk
  exact item_at N hm hx hz h hs
end
local macro_rules | `(tactic| walk_at "subscriptTail") => `(tactic| (k_here; (with_reducible show wpAny _ _ (subscriptTail _ _ (Value.ref _) (Value.int _ _)) _ _ _); k_dflt (refine' item_z (by k_asm) (by k_mem) (by with_reducible assumption) (by first | with_reducible assumption | exact rfl) (by first | omega | exact Nat.le_of_ble_eq_true rfl) ?_ (by with_unfolding_all rfl); k_whole)))
local macro_rules | `(tactic| walk_at "call ref") => `(tactic| (k_here; (with_reducible show wpAny _ _ (call (Value.ref 151) _) _ _ _); k_dflt (refine' join_at (by k_asm) (by k_asm) (by k_asm) (by k_asm) (by (dsimp only [Ar, Around.deeper, Around.in1]; omega)) (by k_asm) (by first | k_asm | decide) ?_; k_whole); intro t' h' tk' F' N'; (try dsimp only); (try k_sweep)))

noncomputable def pathL (top : Str) : Nat → List Str
  | 0 => [Str.ofString "/", Str.ofString "/" ++ top]
  | i + 1 => pathL top i ++ [joinF ((pathL top i).getD ((i + 2) / 2) (Str.ofString "")) (if i % 2 = 0 then Str.ofString "a" else Str.ofString "aba")]
theorem pathL_len (top : Str) : ∀ i, (pathL top i).length = i + 2
  | 0 => rfl
  | i + 1 => by
    show (pathL top i ++ [_]).length = _
    rw [List.length_append, pathL_len top i]; rfl
theorem pathL_get (top : Str) (i : Nat) : (pathL top i)[(i + 2) / 2]? = some ((pathL top i).getD ((i + 2) / 2) (Str.ofString "")) := by
  have h : (i + 2) / 2 < (pathL top i).length := by rw [pathL_len]; omega
  rw [List.getD_eq_getElem?_getD, List.getElem?_eq_getElem h]; rfl
theorem pathL_mem (top : Str) (i : Nat) : (pathL top i).getD ((i + 2) / 2) (Str.ofString "") ∈ pathL top i := List.mem_of_getElem? (pathL_get top i)
theorem paths_ok {w : World} {mean : ExcName → Option Value} {mg mb : Str → Option Value} (top : Str) (t : Tok) (htop : top.length ≤ 10) (hlen : ∀ i, i < 15 → ∀ y ∈ pathL top i, y.length ≤ 100) :
    Does w mean mg mb 177 [.str top t] [] 20 (NewL fun ws => StrsAre ws (pathL top 14)) := by
  unfold Does
  intro dp un fr gd s hB Q E X T kB hn ha hdp hun ret
  w_on
  (revert X; k_fill; intro X)
  k_dflt (refine' enterL [] (binds := [(Str.ofString "top", .str top t)]) ?k1 ?k2 ?ka ?kb ?kc ?k3 ?k4 ?k5 ?k6 ?k7 ?_ ?c2 ?c3 ?c4 ?c5; (case k1 => k_asm); (case k2 => k_asm); (case ka => k_asm); (case kb => k_asm); (case kc => k_asm); (case k3 => k_is); (case k4 => k_is); (case k5 => (dsimp only [Ar, Around.deeper, Around.in1]; omega)); (case k6 => exact BindsTo.of_eq rfl); (case k7 => exact locs rfl); (case c2 => exact rfl); (case c3 => exact rfl); (case c4 => exact rfl); (case c5 => decide); k_whole)
  intro L' h' X' T' F' N'
  (try dsimp only)
  (try k_fold)
  replace F' : Fr (hid s.heap []) L' h' (fun y => if y = Str.ofString "top" then some (.str top t) else none) := fr_off F' (by funext z; show List.lookup z [(Str.ofString "top", Value.str top t)] = _; rw [List.lookup_cons]; by_cases hz : z = Str.ofString "top"; (· subst hz; simp); (· rw [if_neg hz, beq_eq_false_iff_ne.mpr hz]; rfl))
  k_steps
  unfold Hold
  refine for_in ?_ (by intro _; rfl)
  k_steps
  (rename News _ _ _ _ => NE)
  (rename Fr _ _ _ _ => FE)
  refine' for_range (a := 2) (b := 16) (k := 14) (fun i m₁ news₁ => ∃ D u vs n, (m₁ = fun z => if z = Str.ofString "node" then u else if z = Str.ofString "paths" then some (.ref D) else if z = Str.ofString "top" then some (.str top t) else none) ∧ news₁ = [(D, listOf (List.toArray vs) n)] ∧ StrsAre vs (pathL top i)) rfl FE NE ?hr rfl (by omega) (by omega) (by omega) ?hj ?_ ?_
  (case hr => k_asm)
  (case hj => exact ⟨_, _, _, _, map_first, rfl, .cons _ _ (.cons _ _ .nil)⟩)
  · rintro i t₅ m₁ news₁ h₁ tk₁ own hi hoff ⟨D, u, vs, n, rfl, rfl, hvs⟩ F₁ N₁
    obtain ⟨ty, hy⟩ := strsAre_get' hvs ((i + 2) / 2) ((pathL top i).getD ((i + 2) / 2) (Str.ofString "")) (pathL_get top i)
    have hyl := hlen i (by omega) _ (pathL_mem top i)
    have hvl := strsAre_len hvs
    rw [pathL_len] at hvl
    simp only [List.cons_append, List.nil_append] at N₁
    simp only [List.map_cons, List.map_nil] at hoff
    have hq : (2 + (i : Int)).fdiv 2 = (((i + 2) / 2 : Nat) : Int) := by rw [Int.fdiv_eq_ediv_of_nonneg _ (by omega)]; omega
    by_cases hpar : i % 2 = 0
    · have hm : (2 + (i : Int)).fmod 2 = ((0 : Nat) : Int) := by rw [Int.fmod_eq_emod_of_nonneg _ (by omega)]; omega
      k_steps
      (rename News _ _ _ _ => NE)
      (rename Fr _ _ _ _ => FE)
      rw [List.push_toArray] at NE
      rw [map_again] at FE
      refine InvEndG.intro FE NE ⟨D, _, _, _, rfl, rfl, ?_⟩ hoff (fun p hp => by rw [List.mem_singleton.mp hp]; k_mem) (fun p hp => by simp only [List.mem_cons]; simp only [hp, or_true])
      show StrsAre _ (pathL top i ++ [joinF _ (if i % 2 = 0 then _ else _)])
      rw [if_pos hpar]
      exact strsAre_append hvs (.cons _ _ .nil)
    · have hm : (2 + (i : Int)).fmod 2 = ((1 : Nat) : Int) := by rw [Int.fmod_eq_emod_of_nonneg _ (by omega)]; omega
      k_steps
      (rename News _ _ _ _ => NE)
      (rename Fr _ _ _ _ => FE)
      rw [List.push_toArray] at NE
      rw [map_again] at FE
      refine InvEndG.intro FE NE ⟨D, _, _, _, rfl, rfl, ?_⟩ hoff (fun p hp => by rw [List.mem_singleton.mp hp]; k_mem) (fun p hp => by simp only [List.mem_cons]; simp only [hp, or_true])
      show StrsAre _ (pathL top i ++ [joinF _ (if i % 2 = 0 then _ else _)])
      rw [if_neg hpar]
      exact strsAre_append hvs (.cons _ _ .nil)
  · rintro m₁ news₁ h₁ tk₁ ⟨D, u, vs, n, rfl, rfl, hvs⟩ F₁ N₁
    dsimp only
    k_steps
    (rename News _ _ _ _ => NE)
    (rename Fr _ _ _ _ => FE)
    exact ret _ _ _ (kp_out FE NE (fun p hp => by cases hp) ha) ⟨D, vs, n, rfl, new_out NE (List.Mem.head _) (fun p hp => by cases hp), NE.get (List.Mem.head _), hvs⟩
end
section
/-- two frames, one above the other; the ledger's objects are no records -/
structure Fix (h₀ : Heap) (L' L : Addr) (env envL : Env) (news : List (Addr × Obj)) (dL : Data) : Prop where
  hf : env.frame = some L'
  hfL : envL.frame = some L
  hk : env.scope.kind ≠ .module
  hkL : envL.scope.kind ≠ .module
  nL : h₀.get? L = none
  ne : L ≠ L'
  hd : ∀ vs, dL ≠ .fields vs
  hn : ∀ p ∈ news, (∀ vs, p.2.data ≠ .fields vs) ∧ p.1 ≠ L
structure Sit (h₀ : Heap) (L' L : Addr) (m : Str → Option Value) (news : List (Addr × Obj)) (dL : Data) (h : Heap) : Prop where
  fr : Fr h₀ L' h m
  ns : News h₀ L' h news
  law : ∃ o, h.get? L = some o ∧ o.data = dL
/-- an exception in flight, its last entry's mark fl, what it came upon c -/
noncomputable def Rec (h₀ : Heap) (e : Addr) (fl c : Value) (h : Heap) : Prop :=
  ∃ oe vs T oT ts, h.get? e = some oe ∧ oe.cls = .type "IndexError" ∧ oe.data = .fields vs ∧ vs[1]? = some (.ref T) ∧ vs[2]? = some c ∧ T ≠ e ∧ h₀.get? T = none ∧ h.get? T = some oT ∧ oT.data = .fields ts ∧ ts[3]? = some fl
/-- fresh: no entry yet -/
noncomputable def Raw (e : Addr) (c : Value) (h : Heap) : Prop := ∃ oe vs, h.get? e = some oe ∧ oe.cls = .type "IndexError" ∧ oe.data = .fields vs ∧ vs[1]? = some .none ∧ vs[2]? = some c
section
variable {h₀ h h' : Heap} {L' L : Addr} {env envL : Env} {m : Str → Option Value} {news : List (Addr × Obj)} {dL : Data}
theorem Sit.above (S : Sit h₀ L' L m news dL h) : h₀.get? L' = none := Heap.get?_none_of_le S.fr.above
/-- all but records kept -/
theorem Sit.kept (X : Fix h₀ L' L env envL news dL) (S : Sit h₀ L' L m news dL h) (b0 : ∀ b o, h₀.get? b = some o → h'.get? b = some o) (k : ∀ b o, h.get? b = some o → (∀ vs, o.data ≠ .fields vs) → h'.get? b = some o) : Sit h₀ L' L m news dL h' := by
  obtain ⟨oL, hoL, hd⟩ := S.law
  refine ⟨⟨?_, b0, S.fr.above⟩, fun p hp => ⟨k _ _ (S.ns p hp).1 (X.hn p hp).1, (S.ns p hp).2⟩, ⟨oL, k _ _ hoL (fun vs q => X.hd vs (hd ▸ q)), hd⟩⟩
  obtain ⟨o, es, ep, ho, hdd, r⟩ := S.fr.ns
  exact ⟨o, es, ep, k _ _ ho (fun vs q => by rw [hdd] at q; cases q), hdd, r⟩
theorem Sit.slots (X : Fix h₀ L' L env envL news dL) (S : Sit h₀ L' L m news dL h) (hs : Heap.SlotsOnly [L', L] h h') : Sit h₀ L' L m news dL h' := by
  obtain ⟨oL, hoL, hd⟩ := S.law
  have same : ∀ b, b ≠ L' → b ≠ L → h'.get? b = h.get? b := fun b h1 h2 => hs.2.1 b (by simp; exact ⟨h1, h2⟩)
  refine ⟨⟨?_, fun b o e => (same b (fun q => by rw [q, S.above] at e; cases e) (fun q => by rw [q, X.nL] at e; cases e)).trans (S.fr.keep b o e), S.fr.above⟩,
    fun p hp => ⟨(same p.1 (S.ns p hp).2.1 (X.hn p hp).2).trans (S.ns p hp).1, (S.ns p hp).2⟩, ?_⟩
  · obtain ⟨o, es, ep, ho, hdd, r⟩ := S.fr.ns
    obtain ⟨sl, hsl⟩ := hs.2.2 _ _ ho
    exact ⟨_, es, ep, hsl, hdd, r⟩
  · obtain ⟨sl, hsl⟩ := hs.2.2 _ _ hoL
    exact ⟨_, hsl, hd⟩
end
section
variable {M : Model} {A : Around} {E : Value → Shared → Prop} {s : Shared} {h₀ : Heap} {L' L e : Addr} {env envL : Env} {m : Str → Option Value} {news : List (Addr × Obj)} {dL : Data} {c fl : Value}
theorem note_raw {Q : Unit → Shared → Prop} (X : Fix h₀ L' L env envL news dL) (hfr : A.frames = some [env, envL]) (S : Sit h₀ L' L m news dL s.heap) (R : Raw e c s.heap) (h0e : h₀.get? e = none)
    (h : ∀ h', Sit h₀ L' L m news dL h' → Rec h₀ e (rawInt L') c h' → Q () { s with heap := h' }) : wpAny M A (noteFrame (.ref e) env) Q E s := by
  obtain ⟨oe, vs, he, hc, hd, h1, h2⟩ := R
  have hsz : 1 < vs.size := (Array.getElem?_eq_some_iff.mp h1).1
  obtain ⟨oL, hoL, hdL⟩ := S.law
  have hl : s.heap.FunFrames h₀ [env, envL] := by
    obtain ⟨o, es, ep, ho, hdd, _⟩ := S.fr.ns
    exact ⟨X.hk, ⟨L', o, X.hf, S.above, ho, fun vs q => by rw [hdd] at q; cases q⟩, X.hkL, ⟨L, oL, X.hfL, X.nL, hoL, fun vs q => X.hd vs (hdL ▸ q)⟩, trivial⟩
  have heL' : e ≠ L' := fun q => by
    obtain ⟨o, es, ep, ho, hdd, _⟩ := S.fr.ns
    rw [← q, he] at ho; cases ho; rw [hd] at hdd; cases hdd
  have heL : e ≠ L := fun q => by rw [← q, he] at hoL; cases hoL; exact X.hd vs (hdL ▸ hd)
  unfold noteFrame
  simp only [X.hf]
  refine wpAny_bind (wpAny_field he hd h1 ?_)
  rw [if_neg (by decide)]
  refine wpAny_bind (wpAny_frameOf_fun hfr hl X.hf fun h₁ hs₁ => ?_)
  have hs₁' : Heap.SlotsOnly [L', L] s.heap h₁ := by simpa [X.hf, X.hfL] using hs₁
  have S₁ := S.slots X hs₁'
  have he₁ : h₁.get? e = some oe := (hs₁'.2.1 e (by simp; exact ⟨heL', heL⟩)).trans he
  refine wpAny_bind (wpAny_entryPlaceOf fun pl hpl => ?_)
  unfold EntryCells.newEntry newFields
  refine wpAny_bind (wpAny_newObj_type ?_ (hpl.sizeOk5 _ _ _ _ _))
  refine wpAny_setField (Heap.get?_push_of_some _ he₁) hd hsz (h _ ?_ ?_)
  · refine S₁.kept X (fun b o hb => ?_) fun b o hb hnf => ?_
    · have hbe : b ≠ e := fun q => by rw [q, h0e] at hb; cases hb
      exact (Heap.get?_update_other _ _ (Ne.symm hbe)).trans (Heap.get?_push_of_some _ (S₁.fr.keep b o hb))
    · have hbe : b ≠ e := fun q => by rw [q, he₁] at hb; cases hb; exact hnf vs hd
      exact (Heap.get?_update_other _ _ (Ne.symm hbe)).trans (Heap.get?_push_of_some _ hb)
  · have hTe : h₁.objs.size ≠ e := Nat.ne_of_gt (Heap.lt_size he₁)
    have hd₃ := Obj.data_mapFields hd (·.setIfInBounds 1 (Value.ref h₁.objs.size))
    refine ⟨_, _, h₁.objs.size, _, _, Heap.get?_update_self _ (Heap.get?_push_of_some _ he₁) (Obj.isFreed_of_fields hd₃), (Obj.cls_mapFields _ _).trans hc, hd₃, by simp [hsz], ?_, hTe, ?_, (Heap.get?_update_other _ _ (Ne.symm hTe)).trans (Heap.get?_push_size _ rfl), rfl, ?_⟩
    · rw [Array.getElem?_setIfInBounds_ne (by decide)]; exact h2
    · cases q : h₀.get? h₁.objs.size with
      | none => rfl
      | some o => exact absurd (Heap.lt_size (S₁.fr.keep _ _ q)) (Nat.lt_irrefl _)
    · first | (simp; done) | (rcases hpl with rfl | ⟨_, _, _, _, _, _, _, rfl⟩ <;> simp)
theorem note_rec {Q : Unit → Shared → Prop} (hf : env.frame = some L') (R : Rec h₀ e (rawInt L') c s.heap) (h : Q () s) : wpAny M A (noteFrame (.ref e) env) Q E s := by
  obtain ⟨oe, vs, T, oT, ts, he, _, hd, h1, _, hTe, _, hT, hdT, h3⟩ := R
  unfold noteFrame
  simp only [hf]
  refine wpAny_bind (wpAny_field he hd h1 ?_)
  rw [if_pos (show (Value.ref T != Value.none) = true from by simp)]
  refine wpAny_bind (wpAny_field hT hdT h3 ?_)
  rw [if_pos (show (rawInt L' == rawInt L') = true from by simp)]
  exact wpAny_pure h
theorem flight_rec {Q : Unit → Shared → Prop} (X : Fix h₀ L' L env envL news dL) (S : Sit h₀ L' L m news dL s.heap) (R : Rec h₀ e fl c s.heap) (f : Option Addr)
    (h : ∀ h', Sit h₀ L' L m news dL h' → Rec h₀ e (f.elim Value.none fun a => rawInt a) c h' → Q () { s with heap := h' }) : wpAny M A (setFlight (.ref e) f) Q E s := by
  obtain ⟨oe, vs, T, oT, ts, he, hc, hd, h1, h2, hTe, h0, hT, hdT, h3⟩ := R
  have hsz3 : 3 < ts.size := (Array.getElem?_eq_some_iff.mp h3).1
  have other : ∀ b, b ≠ T → (s.heap.update T (Obj.mapFields (·.setIfInBounds 3 (f.elim Value.none fun a => rawInt a)))).get? b = s.heap.get? b := fun b hb => Heap.get?_update_other _ _ (Ne.symm hb)
  unfold setFlight
  refine wpAny_bind (wpAny_field he hd h1 ?_)
  rw [if_pos (show (Value.ref T != Value.none) = true from by simp)]
  refine wpAny_setField hT hdT hsz3 (h _ ?_ ?_)
  · refine S.kept X (fun b o hb => (other b fun q => by rw [q, h0] at hb; cases hb).trans (S.fr.keep b o hb)) fun b o hb hnf => (other b fun q => ?_).trans hb
    rw [q, hT] at hb; cases hb; exact hnf ts hdT
  · exact ⟨oe, vs, T, _, _, (other e (Ne.symm hTe)).trans he, hc, hd, h1, h2, hTe, h0, Heap.get?_update_self _ hT (Obj.isFreed_of_fields (Obj.data_mapFields hdT _)), Obj.data_mapFields hdT _, by simp [hsz3]⟩
theorem came_rec {E' : Value → Shared → Prop} (X : Fix h₀ L' L env envL news dL) (S : Sit h₀ L' L m news dL s.heap) (R : Rec h₀ e fl c s.heap)
    (h : ∀ h', Sit h₀ L' L m news dL h' → Rec h₀ e (rawInt L') c h' → E' (.ref e) { s with heap := h' }) : cameBackBy M A env E' (.ref e) s := by
  obtain ⟨oe, vs, T, oT, ts, he, _, hd, h1, _⟩ := id R
  unfold cameBackBy
  refine wpAny_bind (wpAny_field he hd h1 ?_)
  rw [if_neg (show ¬ ((Value.ref T == Value.none) = true) from by simp)]
  rw [X.hf]
  exact flight_rec X S R (some L') h
theorem pass_rec {α : Type} {what : String} {Q : α → Shared → Prop} (X : Fix h₀ L' L env envL news dL) (S : Sit h₀ L' L m news dL s.heap) (R : Rec h₀ e fl c s.heap)
    (h : ∀ h', Sit h₀ L' L m news dL h' → Rec h₀ e (rawInt L') c h' → E (.ref e) { s with heap := h' }) : wpAny M A (PySem.passOn what (.ref e) env : Sem α) Q E s := by
  obtain ⟨oe, vs, T, oT, ts, he, _, hd, h1, _⟩ := id R
  unfold PySem.passOn
  refine wpAny_bind (wpAny_field he hd h1 ?_)
  rw [if_neg (show ¬ ((Value.ref T == Value.none) = true) from by simp)]
  rw [X.hf]
  exact wpAny_bind (flight_rec X S R (some L') fun h' S' R' => wpAny_throw (h h' S' R'))
end
end
section
theorem raw_new {h h' : Heap} {e : Addr} (x : Heap.NewExc h h' e "IndexError") : Raw e .none h' := by
  obtain ⟨ob, t, ho, hc, hd⟩ := x.there
  exact ⟨ob, _, ho, hc, hd, rfl, rfl⟩
theorem Rec.typeIs {s : Shared} {h₀ : Heap} {e : Addr} {fl c : Value} (R : Rec h₀ e fl c s.heap) : s.TypeIs (.ref e) "IndexError" := by
  obtain ⟨oe, vs, T, oT, ts, he, hc, _⟩ := R
  exact ⟨oe, he, hc⟩
section
variable {prog : Program} {w : World} {A : Around} {E : Value → Shared → Prop} {s : Shared} {h₀ : Heap} {L' L e a : Addr} {envL : Env} {name : Str} {scope : Scope} {cd : Value} {m : Str → Option Value} {news : List (Addr × Obj)} {dL : Data} {c fl : Value}
  {p : Program} {loose : List Str} {mg mb : Str → Option Value}
/-- except IndexError: the suite is run with the exception at hand -/
theorem handle_rec {np pos : Pos} {b₀ : Stmt} {suite : List Stmt} {rest : List ExceptHandler} {Q : Flow → Shared → Prop} (X : Fix h₀ L' L (envOf name scope L' a cd) envL news dL) (S : Sit h₀ L' L m news dL s.heap) (R : Rec h₀ e fl c s.heap) (T : TopRead p loose mg mb h₀)
    (h : ∀ h', Sit h₀ L' L m news dL h' → wpAny (model prog w) (A.mark (some (.ref e))) (execs (b₀ :: suite) (envOf name scope L' a cd)) Q (notedBy (model prog w) (A.mark (some (.ref e))) (envOf name scope L' a cd) (cameBackBy (model prog w) A (envOf name scope L' a cd) E)) { s with heap := h' })
    (h1 : (Str.ofString "IndexError") ∉ startupNames) (h2 : (Str.ofString "IndexError") ∉ loose) (h3 : (Str.ofString "IndexError") ∉ (recsOf p).map (·.name)) (h4 : (Str.ofString "IndexError") ∉ (litsOf p).map (·.1)) (h4c : (Str.ofString "IndexError") ∉ (clssOf p loose).map (·.name))
    (hk : scope.kind = .function) (hx : (envOf name scope L' a cd).kindOf (Str.ofString "IndexError") = some .globalImplicit) :
    wpAny (model prog w) A (handleBy (.ref e) (envOf name scope L' a cd) (.ExceptHandler (some (.Name (Str.ofString "IndexError") np)) none (b₀ :: suite) pos :: rest)) Q E s := by
  have hn : (Str.ofString "IndexError") ≠ "__name__" := by decide +kernel
  refine wpAny_handleBy_builtin (X := "IndexError") (T := "IndexError") (b := true) PySem.F.isExc_IndexError PySem.F.notTuple_IndexError (by rw [isSubtype_type]; kernel_rfl)
    (ld_builtin_at S.fr T.g (T.free _ h1 h2 h3 h4 h4c) T.b ((T.builtins _ hn).trans PyProof.Rows.Boot.«IndexError») ⟨rfl, R.typeIs, ?_⟩ hk hx (by decide))
  rw [if_pos rfl]
  exact flight_rec X S R none fun h' S' _ => h h' S'
end
theorem plain_unchain : plainId "proto.unchain" = true := by decide +kernel
theorem entry_unchain : entryFor table "proto.unchain" = some Builtin.«proto.unchain» := entryFor_of_fast (by kernel_rfl)
section
variable {α : Type} {prog : Program} {w : World} {A : Around} {E : Value → Shared → Prop} {s : Shared} {e₀ : Addr}
/-- a second exception, raised while a first is at hand -/
theorem raise_second {msg : String} {Q : α → Shared → Prop} (hh : A.handled = some (.ref e₀)) (R : ∃ oe vs, s.heap.get? e₀ = some oe ∧ oe.data = .fields vs ∧ vs[2]? = some .none)
    (h : ∀ h' tk e, (∀ b o, s.heap.get? b = some o → h'.get? b = some o) → s.heap.get? e = none → Raw e (.ref e₀) h' → E (.ref e) { s with heap := h', toks := tk }) :
    wpAny (model prog w) A (raiseErrorWords "IndexError" msg : Sem α) Q E s := by
  obtain ⟨oe, vs, he, hd, h2⟩ := R
  unfold raiseErrorWords
  refine wpAny_bind (wpAny_mkText (wpAny_bind ?_))
  unfold newExc newTuple
  refine wpAny_bind (wpAny_newObj_type ?_)
  refine wpAny_bind (m := firstArgMember _ _) (wpAny_of_eq (a := Value.none) (by simp only [firstArgMember, plainExc_IndexError.first]; rfl) ?_)
  rw [plainExc_IndexError.own]
  refine wpAny_newObj_type ?_
  generalize hH1 : s.heap.push { cls := .type "tuple", data := .seq [Value.str msg s.toks].toArray } = H1
  have k1 : ∀ b o, s.heap.get? b = some o → H1.get? b = some o := fun b o q => hH1 ▸ Heap.get?_push_of_some _ q
  have hlt : e₀ < H1.objs.size := Heap.lt_size (k1 _ _ he)
  unfold raiseNew
  refine wpAny_bind (wpAny_handled ?_)
  rw [hh]
  dsimp only
  have hne : (Value.ref e₀ != Value.ref H1.objs.size) = true := by
    rw [bne_iff_ne]; intro q; injection q with q; exact Nat.lt_irrefl _ (q ▸ hlt)
  rw [if_pos hne]
  generalize hoe2 : ({ cls := Value.type "IndexError", data := Data.fields (#[Value.ref s.heap.objs.size, Value.none, Value.none, Value.none, Value.bool false, Value.none] ++ #[]) } : Obj) = ob
  have hk2 : ∀ b o, H1.get? b = some o → (H1.push ob).get? b = some o := fun b o q => Heap.get?_push_of_some _ q
  have hob : (H1.push ob).get? H1.objs.size = some ob := Heap.get?_push_size _ (by rw [← hoe2]; rfl)
  have hobd : ob.data = .fields #[Value.ref s.heap.objs.size, Value.none, Value.none, Value.none, Value.bool false, Value.none] := by rw [← hoe2]; rfl
  have hobc : ob.cls = .type "IndexError" := by rw [← hoe2]
  refine wpAny_bind (wpAny_holding (wpAny_runValue (codeAny_builtin entry_unchain ?_)))
  rw [Around.under_plainId plain_unchain _]
  show wpAny _ _ (field (.ref e₀) 2 >>= _) _ _ _
  refine wpAny_bind (wpAny_field (hk2 _ _ (k1 _ _ he)) hd h2 ?_)
  rw [if_pos (by decide)]
  refine wpAny_pure ?_
  refine wpAny_bind (show wpAny _ _ (setField (.ref H1.objs.size) 2 (.ref e₀)) _ _ _ from wpAny_setField hob hobd (by simp) ?_)
  refine wpAny_throw (h _ _ _ (fun b o q => ?_) ?_ ?_)
  · have hb : b ≠ H1.objs.size := Nat.ne_of_lt (Heap.lt_size (k1 _ _ q))
    exact (Heap.get?_update_other _ _ (Ne.symm hb)).trans (hk2 _ _ (k1 _ _ q))
  · refine fresh_get ?_
    rw [← hH1, Heap.size_push]; exact Nat.le_succ _
  · have hd3 := Obj.data_mapFields hobd (·.setIfInBounds 2 (Value.ref e₀))
    refine ⟨_, _, Heap.get?_update_self _ hob (Obj.isFreed_of_fields hd3), (Obj.cls_mapFields _ _).trans hobc, hd3, rfl, rfl⟩
end
section
variable {prog : Program} {w : World} {A : Around} {E : Value → Shared → Prop} {s : Shared} {e₀ l : Addr}
theorem item_out2 {value slice : PySem.Expr} {items : Array Value} {k : Int} {j : Nat} {u : Tok} {Q : Value → Shared → Prop} (hh : A.handled = some (.ref e₀)) (R : ∃ oe vs, s.heap.get? e₀ = some oe ∧ oe.data = .fields vs ∧ vs[2]? = some .none) (hl : s.heap.IsList l items)
    (hk : k = (j : Int)) (hout : items.size ≤ j) (hlo : -(2 ^ 63) ≤ k) (hhi : k < 2 ^ 63)
    (h : ∀ h' tk e, (∀ b o, s.heap.get? b = some o → h'.get? b = some o) → s.heap.get? e = none → Raw e (.ref e₀) h' → E (.ref e) { s with heap := h', toks := tk })
    (hs : subscripted slice false (.ref l) (.int k u) = operate [.ref l, .int k u] (getItem (.ref l) (.int k u))) :
    wpAny (model prog w) A (subscriptTail value slice (.ref l) (.int k u)) Q E s := by
  refine tail_any hl.typeIs slot_list_getitem.lookup ?_ hs
  obtain ⟨o, ho, hc, ne, hd⟩ := id hl
  unfold getItem
  try with_reducible refine wpAny_holding ?_
  first | refine wpAny_bind (wpAny_pure ?_) | skip
  refine wpAny_bind (wpAny_sequenceKey hl.typeIs (by decide) ?_)
  refine wpAny_bind (wpAny_callSpecial?_slot (name := Str.ofString "__getitem__") hl.typeIs slot_list_getitem
    (wpAny_call_entry slot_list_getitem hl.typeIs entry_list_getitem ?_ (args_list_getitem _ _)))
  show wpAny _ _ (Builtin.List.listSubscript? (.int k u) >>= _) _ _ s
  refine wpAny_bind (wpAny_listSubscript_int (fitsIndex_both hlo hhi) ?_)
  clear hlo hhi
  subst hk
  have hx : items[j]? = none := Array.getElem?_eq_none hout
  show wpAny _ _ ((seqItemAt l j >>= fun r => pure (r.map (j, ·))) >>= _) _ _ s
  refine wpAny_bind (wpAny_bind (wpAny_seqItemAt ho hd (wpAny_pure ?_)))
  rw [hx]
  exact wpAny_bind (wpAny_rule (wpAny_bind (raise_second hh R h)))
end
end
section
theorem enterS {prog : Program} {w : World} {A : Around} {s : Shared} {K : Frag} {p : Program} {loose : List Str} {mean : ExcName → Option Value} {mg mb : Str → Option Value} {Q E : Value → Shared → Prop}
    {name qual : Str} {params : Arguments} {body : List Stmt} {scope : Scope} {dV kV doc pm cdv ct oc : Value} {an od : Option Addr} {osl : Array (Option Value)} {f : Addr} {vs : List Value} {binds : List (Str × Value)}
    {h₀ : Heap} {L : Addr} {m : Str → Option Value} {news : List (Addr × Obj)}
    (X : K.In h₀) (T : Top p loose mean mg mb h₀) (F : Fr h₀ L s.heap m) (N : News h₀ L s.heap news)
    (ho : K.lookup f = some ⟨oc, od, .func (fnOf name qual params body scope dV kV doc pm an cdv ct), osl⟩) (hcd : codeIn K cdv qual = true) (hroom : A.depth < recursionLimit)
    (hbind : BindsTo s (fnOf name qual params body scope dV kV doc pm an cdv ct) ⟨vs, []⟩ binds) (hloc : ∀ y ∈ binds, scope.names.lookup y.1 = some .local)
    (h : ∀ L' h₁ oL es ep, oL.data = .dict es ep → (∀ h' : Heap, (∃ o : Obj, h'.get? L = some o ∧ o.data = oL.data) → h'.Ns L m) → h₀.get? L = none → L < L' → (∀ p ∈ news, p.1 ≠ L) → (∀ p ∈ news, p.1 < L') → Fr h₀ L' h₁ (fun y => binds.reverse.lookup y) → News h₀ L' h₁ ((L, oL) :: news) →
      wpAny (model prog w) (A.deeper (envOf qual scope L' f cdv)) (execs body (envOf qual scope L' f cdv))
        (fun fl s' => Q (match fl with | .ret v => v | _ => .none) s') (fun _ _ => False) { s with heap := h₁, toks := s.toks + binds.length })
    (hco : scope.isCoroutine = false) (hgen : scope.isGenerator = false) (hk : scope.kind = .function) (hcell : ∀ x ∈ scope.names, x.2 ≠ .cell) :
    wpAny (model prog w) A (call (.ref f) vs) Q E s := by
  obtain ⟨oL, es, ep, hoL, hdL, hr⟩ := id F.ns
  have nL : h₀.get? L = none := Heap.get?_none_of_le F.above
  refine wpAny_call (codeAny_call_def (fd := fnOf name qual params body scope dV kV doc pm an cdv ct) (body := body) (binds := binds) hroom ((X.keeps F.keep) _ _ ho) rfl (T.nolimit.keeps F.keep) (codeRec_of (X.keeps F.keep) hcd) rfl hbind hcell hloc (fun h₁ hns hk₁ => ?_) hco hgen hk)
  have F₁ : Fr h₀ s.heap.objs.size h₁ (fun y => binds.reverse.lookup y) := ⟨hns, fun b o e => hk₁ b o (F.keep b o e), Nat.le_trans F.above (Nat.le_of_lt F.ns.lt)⟩
  have N₁ : News h₀ s.heap.objs.size h₁ ((L, oL) :: news) := by
    intro q hq
    rcases List.mem_cons.mp hq with rfl | hq
    · exact ⟨hk₁ _ _ hoL, Nat.ne_of_lt F.ns.lt, nL⟩
    · exact ⟨hk₁ _ _ (N q hq).1, Nat.ne_of_lt (Heap.lt_size (N q hq).1), (N q hq).2.2⟩
  exact wpAny_mono (h s.heap.objs.size h₁ oL es ep hdL (fun h' ⟨o, ho, hd⟩ => ⟨o, es, ep, ho, hd.trans hdL, hr⟩) nL F.ns.lt (fun q hq => (N q hq).2.1) (fun q hq => Heap.lt_size (N q hq).1) F₁ N₁) (fun _ _ x => x) fun _ _ x => x.elim
/-- how a while's turn ends -/
noncomputable def WPost (I : Nat → Shared → Prop) (n : Nat) (Q : Flow → Shared → Prop) (f : Flow) (s : Shared) : Prop :=
  match f with
  | .brk => Q .next s
  | .ret v => Q (.ret v) s
  | _ => ∃ m, m < n ∧ I m s
section
variable {prog : Program} {w : World} {A : Around} {E : Value → Shared → Prop} {s : Shared} {env : Env} {test : Expr} {body : List Stmt} {pos : Pos} {Q : Flow → Shared → Prop}
theorem while_at (I : Nat → Shared → Prop) (n : Nat) (h : I n s)
    (turn : ∀ n s', I n s' → wpAny (model prog w) A (isTrue test env (eval test env)) (fun b s₂ => if b = true then wpAny (model prog w) A (execs body env) (WPost I n Q) (fun _ _ => False) s₂ else Q .next s₂) (fun _ _ => False) s') :
    wpAny (model prog w) A (exec (.While test body [] pos) env) Q E s := by
  refine wpAny_While (codeAny_whileLoop I (fun n s' hI => wpAny_mono (turn n s' hI) (fun b s₂ h₂ => ?_) fun _ _ x => x.elim) n h)
  cases b with
  | true =>
    simp only [if_true] at h₂ ⊢
    refine wpAny_mono h₂ (fun f s₃ h₃ => ?_) fun _ _ x => x.elim
    cases f <;> exact h₃
  | false =>
    simp only [Bool.false_eq_true, if_false] at h₂ ⊢
    exact wpAny_execs_nil h₂
/-- the test answered no -/
noncomputable def NoTurn (b : Bool) (P : Prop) : Prop := b = false ∧ P
/-- a while that is not entered, or whose test raises -/
theorem while_no (h : wpAny (model prog w) A (isTrue test env (eval test env)) (fun b s₂ => NoTurn b (Q .next s₂)) (notedBy (model prog w) A env (cameBackBy (model prog w) A env E)) s) :
    wpAny (model prog w) A (exec (.While test body [] pos) env) Q E s := by
  refine wpAny_While (codeAny_whileLoop (fun _ s' => s' = s) (fun n s' hI => ?_) 0 rfl)
  subst hI
  refine wpAny_mono h (fun b s₂ h₂ => ?_) fun _ _ x => x
  obtain ⟨rfl, h₂⟩ := h₂
  simp only [Bool.false_eq_true, if_false]
  exact wpAny_execs_nil h₂
end
section
variable {prog : Program} {w : World} {A : Around} {E : Value → Shared → Prop} {s : Shared} {x y : Str} {t u : Tok} {Q : Value → Shared → Prop}
theorem ltX (h : Hold (Q (.bool (ltS x y)) s)) : wpAny (model prog w) A (compareOp .Lt (.str x t) (.str y u)) Q E s := PyProof.Rows.lt_str h
theorem gtX (h : Hold (Q (.bool (ltS y x)) s)) : wpAny (model prog w) A (compareOp .Gt (.str x t) (.str y u)) Q E s := PySem.P.gt_str h
theorem eqX (h : Hold (Q (.bool (x == y)) s)) : wpAny (model prog w) A (compareOp .Eq (.str x t) (.str y u)) Q E s := PyProof.Rows.eq_str h
end
theorem strsAre_some {vs : List Value} {xs : List Str} {i : Nat} (h : StrsAre vs xs) (hi : i < xs.length) : ∃ X t, vs[i]? = some (.str X t) ∧ xs[i]? = some X ∧ xs.drop i = X :: xs.drop (i + 1) := by
  obtain ⟨t, ht⟩ := strsAre_get' h i xs[i] (List.getElem?_eq_getElem hi)
  exact ⟨_, t, ht, List.getElem?_eq_getElem hi, List.drop_eq_getElem_cons hi⟩
/-- a list made longer by another one -/
theorem extend_K {prog : Program} {w : World} {A : Around} {E : Value → Shared → Prop} {s : Shared} {h₀ : Heap} {L : Addr} {m : Str → Option Value} {news : List (Addr × Obj)} {news' : Nat → List (Addr × Obj)} {D b : Addr} {ys zs : List Value} {n n2 : Nat} {Q : Value → Shared → Prop}
    (F : Fr h₀ L s.heap m) (N : News h₀ L s.heap news) (hb : (b, listOf (List.toArray zs) n2) ∈ news) (U : ∀ n', Upd D (listOf (List.toArray ys) n) (listOf (List.toArray (ys ++ zs)) n') news (news' n'))
    (h : ∀ h' n', Fr h₀ L h' m → News h₀ L h' (news' n') → Q .none { s with heap := h' }) (hsz : ys.length + zs.length ≤ sizeLine) :
    wpAny (model prog w) A (call (.builtin "list.extend") [.ref D, .ref b]) Q E s := by
  obtain ⟨pre, post, e1, e2, a, c⟩ := (U (if (ys.toArray ++ zs.toArray).size == ys.toArray.size then n else n + 1)).split
  have hb' := (N _ hb).1
  subst e1
  have hm := N (D, listOf ys.toArray n) (List.mem_append_right pre (.head post))
  have hsz' : ys.toArray.size + zs.toArray.size ≤ sizeLine := by simpa using hsz
  refine call_meets PySem.F.slot_list_extend ⟨_, hm.1, rfl⟩ PySem.F.entry_list_extend (PySem.F.args_list_extend_2 _ _) (AutoSeq1.list_extend_list_list_0 D ys.toArray n b zs.toArray n2 (extend_door hsz') (Nat.le_trans (Nat.le_add_right _ _) hsz')) ⟨hm.1, hb', ?_⟩
  have ho' : (s.heap.update D (Obj.mapSeq fun x => x ++ zs.toArray)).get? D = some (listOf (List.toArray (ys ++ zs)) (if (ys.toArray ++ zs.toArray).size == ys.toArray.size then n else n + 1)) := by
    rw [Heap.get?_update_self _ hm.1 (by rw [mapSeq_app]; rfl), mapSeq_app, List.append_toArray]
  exact h _ _ (F.change (Heap.SameBut.update ..) hm.2.1 hm.2.2) (e2 ▸ N.setIn a c (Heap.SameBut.update ..) ho')
noncomputable def sldF : List Str → List Str → List Str × List Str
  | [], ys => ([], ys)
  | x :: xs, [] => (x :: xs, [])
  | x :: xs, y :: ys => if ltS x y = true then (x :: (sldF xs (y :: ys)).1, (sldF xs (y :: ys)).2) else if ltS y x = true then ((sldF (x :: xs) ys).1, y :: (sldF (x :: xs) ys).2) else sldF xs ys
termination_by xs ys => xs.length + ys.length

local macro_rules | `(tactic| walk_at "call builtin:list.append") => `(tactic| (k_here; k_dflt (refine' append_K (by k_asm) (by k_asm) (by k_upd) ?_ (by (simp only [List.size_toArray]; rw [sizeLine_eq]; omega)); k_whole); intro h' F' N'; (try dsimp only); (try k_sweep)))

local macro_rules | `(tactic| k_all) => `(tactic| (refine OwnOff.ne (by assumption) ?_; k_mem))

theorem all_ne {M : Addr} : ∀ {news : List (Addr × Obj)}, AllLt M news → ∀ p ∈ news, p.1 ≠ M
  | [], _, _, h => nomatch h
  | q :: r, x, p, h => by
    rcases List.mem_cons.mp h with rfl | h
    · exact Nat.ne_of_lt x.1
    · exact all_ne x.2 p h
theorem lt_mem {M : Addr} : ∀ {news : List (Addr × Obj)}, AllLt M news → ∀ p ∈ news, @LT.lt Nat _ p.1 M
  | [], _, _, h => nomatch h
  | q :: r, x, p, h => by
    rcases List.mem_cons.mp h with rfl | h
    · exact x.1
    · exact lt_mem x.2 p h
theorem sit_of {h₀ h h' : Heap} {L' L : Addr} {m : Str → Option Value} {oL : Obj} {a b : Addr × Obj} {r : List (Addr × Obj)} (F : Fr h₀ L' h m) (N : News h₀ L' h (a :: b :: (L, oL) :: r)) (k : Kp h h') : Sit h₀ L' L m (a :: b :: r) oL.data h' := by
  have N' := news_keep N k
  refine ⟨fr_keep F k, fun p hp => N' p ?_, ⟨oL, (N' _ (.tail _ (.tail _ (.head _)))).1, rfl⟩⟩
  rcases List.mem_cons.mp hp with rfl | hp
  · exact .head _
  · rcases List.mem_cons.mp hp with rfl | hp
    · exact .tail _ (.head _)
    · exact .tail _ (.tail _ (.tail _ hp))
theorem sit_back {h₀ h : Heap} {L' L : Addr} {m : Str → Option Value} {dL : Data} {a b : Addr × Obj} {r : List (Addr × Obj)} (S : Sit h₀ L' L m (a :: b :: r) dL h) (nL : h₀.get? L = none) (ne : L ≠ L') : ∃ oL : Obj, oL.data = dL ∧ News h₀ L' h (a :: b :: (L, oL) :: r) := by
  obtain ⟨oL, ho, hd⟩ := S.law
  refine ⟨oL, hd, fun p hp => ?_⟩
  rcases List.mem_cons.mp hp with rfl | hp
  · exact S.ns _ (.head _)
  · rcases List.mem_cons.mp hp with rfl | hp
    · exact S.ns _ (.tail _ (.head _))
    · rcases List.mem_cons.mp hp with rfl | hp
      · exact ⟨ho, ne, nL⟩
      · exact S.ns p (.tail _ (.tail _ hp))
theorem new_base {h₀ h : Heap} {L' e : Addr} {m : Str → Option Value} (F : Fr h₀ L' h m) (x : h.get? e = none) : h₀.get? e = none := by
  cases q : h₀.get? e with
  | none => rfl
  | some o => rw [F.keep _ _ q] at x; cases x
theorem fix_of {h₀ : Heap} {L' L : Addr} {env envL : Env} {news : List (Addr × Obj)} {dL : Data} {es : Array DictEntry} {ep : Nat} {a b c d : Addr × Obj} (hd : dL = .dict es ep) (hf : env.frame = some L') (hk : env.scope.kind ≠ .module) (hfL : envL.frame = some L) (hkL : envL.scope.kind ≠ .module) (nL : h₀.get? L = none) (ne : L ≠ L')
    (h1 : (∀ vs, a.2.data ≠ .fields vs) ∧ a.1 ≠ L) (h2 : (∀ vs, b.2.data ≠ .fields vs) ∧ b.1 ≠ L) (h3 : (∀ vs, c.2.data ≠ .fields vs) ∧ c.1 ≠ L) (h4 : (∀ vs, d.2.data ≠ .fields vs) ∧ d.1 ≠ L) (hn : ∀ p ∈ news, ∀ vs, p.2.data ≠ .fields vs) (hnL : ∀ p ∈ news, p.1 ≠ L) :
    Fix h₀ L' L env envL (a :: b :: c :: d :: news) dL := ⟨hf, hfL, hk, hkL, nL, ne, fun vs q => (by rw [hd] at q; cases q), fun p hp => by
    rcases List.mem_cons.mp hp with rfl | hp
    · exact h1
    · rcases List.mem_cons.mp hp with rfl | hp
      · exact h2
      · rcases List.mem_cons.mp hp with rfl | hp
        · exact h3
        · rcases List.mem_cons.mp hp with rfl | hp
          · exact h4
          · exact ⟨hn p hp, hnL p hp⟩⟩
/-- an exception's two objects stand in the ledger while its handler runs -/
theorem rec_led {h₀ h : Heap} {L' e : Addr} {m : Str → Option Value} {news : List (Addr × Obj)} {fl c : Value} (F : Fr h₀ L' h m) (N : News h₀ L' h news) (R : Rec h₀ e fl c h) (h0e : h₀.get? e = none) :
    ∃ oe T oT vs, News h₀ L' h ((e, oe) :: (T, oT) :: news) ∧ oe.data = .fields vs ∧ vs[2]? = some c ∧ (∀ h' : Heap, h'.get? e = some oe → h'.get? T = some oT → Rec h₀ e fl c h') := by
  obtain ⟨oe, vs, T, oT, ts, he, hc, hd, h1, h2, hTe, h0, hT, hdT, h3⟩ := R
  have ne : ∀ (a : Addr) (o : Obj) (ws : Array Value), h.get? a = some o → o.data = .fields ws → a ≠ L' := by
    intro a o ws ha hw q
    obtain ⟨o2, es, ep, ho, hdd, _⟩ := F.ns
    rw [← q, ha] at ho; cases ho; rw [hw] at hdd; cases hdd
  refine ⟨oe, T, oT, vs, fun p hp => ?_, hd, h2, fun h' a b => ⟨oe, vs, T, oT, ts, a, hc, hd, h1, h2, hTe, h0, b, hdT, h3⟩⟩
  rcases List.mem_cons.mp hp with rfl | hp
  · exact ⟨he, ne _ _ _ he hd, h0e⟩
  rcases List.mem_cons.mp hp with rfl | hp
  · exact ⟨hT, ne _ _ _ hT hdT, h0⟩
  exact N p hp
theorem item_out2K {prog : Program} {w : World} {A : Around} {E : Value → Shared → Prop} {s : Shared} {h₀ : Heap} {L e₀ l : Addr} {oe : Obj} {vs ws : Array Value} {n : Nat} {news : List (Addr × Obj)} {value slice : PySem.Expr} {k : Int} {j : Nat} {u : Tok} {Q : Value → Shared → Prop} (hh : A.handled = some (.ref e₀)) (N : News h₀ L s.heap news) (hm : (e₀, oe) ∈ news) (hd : oe.data = .fields vs) (h2 : vs[2]? = some .none)
    (hl : (l, listOf ws n) ∈ news) (hk : k = (j : Int)) (hout : ws.size ≤ j) (hlo : -(2 ^ 63) ≤ k) (hhi : k < 2 ^ 63)
    (h : ∀ h' tk e, Kp s.heap h' → s.heap.get? e = none → Raw e (.ref e₀) h' → E (.ref e) { s with heap := h', toks := tk })
    (hs : subscripted slice false (.ref l) (.int k u) = operate [.ref l, .int k u] (getItem (.ref l) (.int k u))) :
    wpAny (model prog w) A (subscriptTail value slice (.ref l) (.int k u)) Q E s :=
  item_out2 hh ⟨oe, vs, (N _ hm).1, hd, h2⟩ (at_list N hl) hk hout hlo hhi h hs
noncomputable abbrev nmS (lx ly M U : Addr) (ti tj : Tok) (i j : Nat) (ue ua : Option Value) : Str → Option Value := fun y =>
  if y = Str.ofString "a" then ua else if y = Str.ofString "e" then ue else if y = Str.ofString "j" then some (.int (j : Int) tj) else if y = Str.ofString "i" then some (.int (i : Int) ti)
  else if y = Str.ofString "unexpected" then some (.ref U) else if y = Str.ofString "missing" then some (.ref M) else if y = Str.ofString "actual" then some (.ref ly) else if y = Str.ofString "expected" then some (.ref lx) else none
local macro_rules | `(tactic| k_all) => `(tactic| exact all_ne (by assumption))
local macro_rules | `(tactic| walk_at "subscriptTail Name Name ref int") => `(tactic| (k_here; k_dflt (refine' item_outK (by exact rfl) (by exact at_list (by k_asm) (by k_mem)) (by (right; simp only [List.size_toArray]; omega)) (by omega) (by omega) ?_ (by with_unfolding_all rfl); k_whole); intro h' tk' e' hx'; (try dsimp only)))
local macro_rules | `(tactic| walk_at "subscriptTail Name Name ref int") => `(tactic| (k_here; k_dflt (refine' item_at (by k_asm) (by k_mem) (by with_reducible assumption) (by omega) ?_ (by with_unfolding_all rfl); k_whole)))
local macro_rules | `(tactic| walk_at "subscriptTail Name Slice ref ref") => `(tactic| (k_here; (with_reducible show wpAny _ _ (subscriptTail _ (Expr.Slice (some _) none none _) _ _) _ _ _); k_dflt (refine' from_t _ (by k_asm) (by k_asm) (by k_mem) (by with_reducible assumption) ?_ (by with_unfolding_all rfl) (by intro _; with_unfolding_all rfl) (by (rw [sizeLine_eq]; omega)); k_whole); intro D' ws' h' a' F' N' l1; have l2 := strsAre_len a'; rw [List.length_drop] at l2; (try k_lt l1); (try dsimp only)))
local macro_rules | `(tactic| walk_at "call builtin:list.extend") => `(tactic| (k_here; k_dflt (refine' extend_K (by k_asm) (by k_asm) (by k_mem) (by (intro n9; k_upd)) ?_ (by (rw [sizeLine_eq]; omega)); k_whole); intro h' n9 F' N'; (try dsimp only); (try k_sweep)))
local macro_rules | `(tactic| walk_at "call builtin:list.append") => `(tactic| (k_here; k_dflt (refine' append_K (by k_asm) (by k_asm) (by k_upd) ?_ (by (simp only [List.size_toArray]; rw [sizeLine_eq]; omega)); k_whole); intro h' F' N'; (try dsimp only); (try simp only [List.push_toArray] at N'); (try k_sweep)))
local macro_rules | `(tactic| walk_at "NMS") => `(tactic| (funext z; by_cases g1 : z = Str.ofString "a"; (· subst g1; rfl); by_cases g2 : z = Str.ofString "e"; (· subst g2; rfl); by_cases g3 : z = Str.ofString "j"; (· subst g3; rfl); by_cases g4 : z = Str.ofString "i"; (· subst g4; rfl); simp only [if_neg g1, if_neg g2, if_neg g3, if_neg g4]))
local macro_rules | `(tactic| walk_at "subscriptTail Name Name ref int") => `(tactic| (k_here; k_dflt (refine' item_out2K (by exact rfl) (by k_asm) (by k_mem) (by with_reducible assumption) (by with_reducible assumption) (by k_mem) (by exact rfl) (by (simp only [List.size_toArray]; omega)) (by omega) (by omega) ?_ (by with_unfolding_all rfl); k_whole); intro h' tk' e' hk' hnew' hraw'; (try dsimp only)))
local macro_rules | `(tactic| walk_at "compareOp Lt str str") => `(tactic| (k_here; refine ltX ?_))
local macro_rules | `(tactic| walk_at "compareOp Gt str str") => `(tactic| (k_here; refine gtX ?_))
local macro_rules | `(tactic| walk_at "compareOp Eq str str") => `(tactic| (k_here; refine eqX ?_))
local macro_rules | `(tactic| walk_at "exec While Compare cons nil") => `(tactic| (k_here; refine hold_in ?_))
local macro_rules | `(tactic| walk_at "subscriptTail Name Name ref int") => `(tactic| (k_here; k_dflt (refine' item_z (by k_asm) (by k_mem) (by first | exact rfl | with_reducible assumption) (by with_reducible assumption) (by omega) ?_ (by with_unfolding_all rfl); k_whole)))
local macro_rules | `(tactic| walk_at "exec While Constant cons nil") => `(tactic| (k_here; refine hold_in ?_))

theorem sldF_nil (xs : List Str) : sldF xs [] = (xs, []) := by cases xs <;> simp [sldF]
theorem sldF_lt {x y : Str} {xs ys : List Str} (h : ltS x y = true) : sldF (x :: xs) (y :: ys) = (x :: (sldF xs (y :: ys)).1, (sldF xs (y :: ys)).2) := by
  conv => lhs; unfold sldF
  rw [if_pos h]
theorem sldF_gt {x y : Str} {xs ys : List Str} (h : ¬ ltS x y = true) (h2 : ltS y x = true) : sldF (x :: xs) (y :: ys) = ((sldF (x :: xs) ys).1, y :: (sldF (x :: xs) ys).2) := by
  conv => lhs; unfold sldF
  rw [if_neg h, if_pos h2]
theorem sldF_eq {x y : Str} {xs ys : List Str} (h : ¬ ltS x y = true) (h2 : ¬ ltS y x = true) : sldF (x :: xs) (y :: ys) = sldF xs ys := by
  conv => lhs; unfold sldF
  rw [if_neg h, if_neg h2]
theorem fin_sld {h₀ h : Heap} {L' L D U M : Addr} {m m' : Str → Option Value} {oL : Data} {oL4 oD oU oM : Obj} {x1 x2 lx ly : Addr × Obj} {news : List (Addr × Obj)}
    (hback : ∀ h' : Heap, (∃ o : Obj, h'.get? L = some o ∧ o.data = oL) → h'.Ns L m) (hab : h₀.objs.size ≤ L)
    (F : Fr h₀ L' h m') (N : News h₀ L' h ((D, oD) :: x1 :: x2 :: (U, oU) :: (M, oM) :: (L, oL4) :: lx :: ly :: news)) (hd : oL4.data = oL)
    (hD : x1.1 < D ∧ x2.1 < D ∧ U < D ∧ M < D ∧ L < D ∧ lx.1 < D ∧ ly.1 < D ∧ AllLt D news) (hM : L < M) (hU : L < U) (hn : ∀ p ∈ news, p.1 ≠ L) : Fr h₀ L h m ∧ News h₀ L h ((D, oD) :: (M, oM) :: (U, oU) :: news) := by
  refine ⟨⟨hback _ ⟨oL4, (N _ (.tail _ (.tail _ (.tail _ (.tail _ (.tail _ (.head _))))))).1, hd⟩, F.keep, hab⟩, fun p hp => ?_⟩
  rcases List.mem_cons.mp hp with rfl | hp
  · exact ⟨(N _ (.head _)).1, Nat.ne_of_gt hD.2.2.2.2.1, (N _ (.head _)).2.2⟩
  rcases List.mem_cons.mp hp with rfl | hp
  · have z := N _ (.tail _ (.tail _ (.tail _ (.tail _ (.head _)))))
    exact ⟨z.1, Nat.ne_of_gt hM, z.2.2⟩
  rcases List.mem_cons.mp hp with rfl | hp
  · have z := N _ (.tail _ (.tail _ (.tail _ (.head _))))
    exact ⟨z.1, Nat.ne_of_gt hU, z.2.2⟩
  · have z := N p (.tail _ (.tail _ (.tail _ (.tail _ (.tail _ (.tail _ (.tail _ (.tail _ hp))))))))
    exact ⟨z.1, hn p hp, z.2.2⟩

theorem dec1 {a b i j : Nat} (h : i < a) : a - (i + 1) + (b - j) < a - i + (b - j) := by omega
theorem dec2 {a b i j : Nat} (h : j < b) : a - i + (b - (j + 1)) < a - i + (b - j) := by omega
theorem dec3 {a b i j : Nat} (h : i < a) (h2 : j < b) : a - (i + 1) + (b - (j + 1)) < a - i + (b - j) := by omega
noncomputable def sldDef : List Stmt × Scope := match (PySem.Challenge.pw_pd0169_01.main.body[23]? : Option Stmt) with
  | some (Stmt.FunctionDef _ _ body _ _ _ scope _ _ _) => (body, scope)
  | _ => ([], { kind := .module, names := [], isGenerator := false, isCoroutine := false, more := [] })
noncomputable def sldScope : Scope := sldDef.2
noncomputable def sldSuite : List Stmt := match (sldDef.1[3]? : Option Stmt) with
  | some (Stmt.While _ [Stmt.Try _ [ExceptHandler.ExceptHandler _ _ suite _] _ _ _] _ _) => suite
  | _ => []
noncomputable def sldRet : Stmt := sldDef.1.getD 4 (.Pass ⟨0, 0, 0, 0⟩)
noncomputable abbrev sldEnv (L' : Addr) : Env := envOf (Str.ofString "sorted_list_difference") sldScope L' 170 (.ref 169)
/-- what holds between the turns of sorted_list_difference -/
noncomputable abbrev SldI (h₀ : Heap) (L' L lx ly M U : Addr) (s : Shared) (vx vy : List Value) (nx ny : Nat) (xs ys : List Str) (oL : Obj) (news : List (Addr × Obj)) : Nat → Shared → Prop := fun n s' => ∃ (i j : Nat) (ti tj : Tok) (ms us : List Value) (n3 n4 : Nat) (p1 p2 : List Str) (ue ua : Option Value) (h : Heap) (tk : Nat), n = (xs.length - i) + (ys.length - j) ∧ i ≤ xs.length ∧ j ≤ ys.length ∧ s' = { s with heap := h, toks := tk } ∧
      Fr h₀ L' h (nmS lx ly M U ti tj i j ue ua) ∧ News h₀ L' h ((U, listOf us.toArray n4) :: (M, listOf ms.toArray n3) :: (L, oL) :: (lx, listOf vx.toArray nx) :: (ly, listOf vy.toArray ny) :: news) ∧ StrsAre ms p1 ∧ StrsAre us p2 ∧ p1.length ≤ i ∧ p2.length ≤ j ∧
      p1 ++ (sldF (xs.drop i) (ys.drop j)).1 = (sldF xs ys).1 ∧ p2 ++ (sldF (xs.drop i) (ys.drop j)).2 = (sldF xs ys).2
section
variable {w : World} {mean : ExcName → Option Value} {mg mb : Str → Option Value} {A : Around} {s : Shared} {Q : Flow → Shared → Prop} {E : Value → Shared → Prop} {h₀ : Heap} {L' L lx ly M U : Addr} {i j n3 n4 nx ny : Nat} {ti tj : Tok} {ue ua : Option Value} {vx vy ms us : List Value} {xs ys : List Str} {oL : Obj} {news : List (Addr × Obj)}
theorem sld_suite (F : Fr h₀ L' s.heap (nmS lx ly M U ti tj i j ue ua)) (N : News h₀ L' s.heap ((U, listOf us.toArray n4) :: (M, listOf ms.toArray n3) :: (L, oL) :: (lx, listOf vx.toArray nx) :: (ly, listOf vy.toArray ny) :: news)) (X : (Mine.hd.heap_39 w.params).In h₀) (T : Top Mine.hd.view_39 (looseW Mine.hd.view_39 [Str.ofString "IPV4_RE"]) mean mg mb h₀)
    (hvx : StrsAre vx xs) (hvy : StrsAre vy ys) (lM1 : @LT.lt Nat _ L M) (lM2 : AllLt M news) (lU1 : @LT.lt Nat _ M U) (lU2 : @LT.lt Nat _ L U) (lU3 : AllLt U news) (hlx : @LT.lt Nat _ lx M) (hly : @LT.lt Nat _ ly M) (hlx2 : @LT.lt Nat _ lx U) (hly2 : @LT.lt Nat _ ly U) (zx : xs.length ≤ 100) (zy : ys.length ≤ 100) (zm : ms.length ≤ 1000) (zu : us.length ≤ 1000) (hi : i ≤ 1000) (hj : j ≤ 1000)
    (ret : ∀ D1 ws1 D2 ws2 h' tk' n91 n92, StrsAre ws1 (xs.drop i) → StrsAre ws2 (ys.drop j) → Fr h₀ L' h' (nmS lx ly M U ti tj i j ue ua) → News h₀ L' h' ((D2, listOf (List.toArray ws2) 0) :: (D1, listOf (List.toArray ws1) 0) :: (U, listOf (List.toArray (us ++ ws2)) n92) :: (M, listOf (List.toArray (ms ++ ws1)) n91) :: (L, oL) :: (lx, listOf vx.toArray nx) :: (ly, listOf vy.toArray ny) :: news) → Q .brk { s with heap := h', toks := tk' }) :
    wpAny (model PySem.Challenge.rw_pd0169_01.row.prog w) A (execs sldSuite (sldEnv L')) Q E s := by
  have hzx := strsAre_len hvx
  have hzy := strsAre_len hvy
  unfold sldEnv
  (conv in sldSuite => whnf)
  (conv in sldScope => whnf)
  w_on
  (revert X; k_fill; intro X)
  (try k_fold)
  k_steps
  (rename News _ _ _ _ => NE)
  (rename Fr _ _ _ _ => FE)
  (rename StrsAre _ (List.drop i xs) => a1)
  (rename StrsAre _ (List.drop j ys) => a2)
  show Q .brk _
  exact ret _ _ _ _ _ _ _ _ a1 a2 FE NE
theorem sld_ret {x1 x2 : Addr × Obj} {oU oM : Obj} (F : Fr h₀ L' s.heap (nmS lx ly M U ti tj i j ue ua)) (N : News h₀ L' s.heap (x1 :: x2 :: (U, oU) :: (M, oM) :: (L, oL) :: (lx, listOf vx.toArray nx) :: (ly, listOf vy.toArray ny) :: news)) (X : (Mine.hd.heap_39 w.params).In h₀) (T : Top Mine.hd.view_39 (looseW Mine.hd.view_39 [Str.ofString "IPV4_RE"]) mean mg mb h₀)
    (ret : ∀ D h' tk', Fr h₀ L' h' (nmS lx ly M U ti tj i j ue ua) → News h₀ L' h' ((D, tupObj #[.ref M, .ref U]) :: x1 :: x2 :: (U, oU) :: (M, oM) :: (L, oL) :: (lx, listOf vx.toArray nx) :: (ly, listOf vy.toArray ny) :: news) → (x1.1 < D ∧ x2.1 < D ∧ U < D ∧ M < D ∧ L < D ∧ lx < D ∧ ly < D ∧ AllLt D news) → Q (.ret (.ref D)) { s with heap := h', toks := tk' }) :
    wpAny (model PySem.Challenge.rw_pd0169_01.row.prog w) A (exec sldRet (sldEnv L')) Q E s := by
  unfold sldEnv
  (conv in sldRet => whnf)
  (conv in sldScope => whnf)
  w_on
  (revert X; k_fill; intro X)
  (try k_fold)
  k_steps
  (rename News _ _ _ _ => NE)
  (rename Fr _ _ _ _ => FE)
  (rename _ < _ ∧ _ => l1)
  exact ret _ _ _ FE NE l1
end
local macro_rules | `(tactic| walk_at "exec Return some") => `(tactic| (k_here; refine hold_in ?_))
noncomputable def FoldOn : Prop := True
local macro_rules | `(tactic| walk_at "execs cons") => `(tactic| (k_here; (have _ : FoldOn := by with_reducible assumption); (with_reducible refine wpAny_execs_cons ?_); k_fold))
section
variable {w : World} {mean : ExcName → Option Value} {mg mb : Str → Option Value} {dp un : Nat} {envL : Env} {gd : Option (List Code)} {s : Shared} {Q E : Value → Shared → Prop}
  {h₀ : Heap} {L : Addr} {m : Str → Option Value} {news : List (Addr × Obj)}
    (F : Fr h₀ L s.heap m) (N : News h₀ L s.heap news) (X : (Mine.hd.heap_39 w.params).In h₀) (T : Top Mine.hd.view_39 (looseW Mine.hd.view_39 [Str.ofString "IPV4_RE"]) mean mg mb h₀)
include F N X T
theorem sld_at (hdp : dp + 4 < recursionLimit) (hun : un + 100 < cLine) (hfL : envL.frame = some L) (hkL : envL.scope.kind ≠ .module) (hnf : ∀ p ∈ news, ∀ vs, p.2.data ≠ .fields vs) {lx ly : Addr} {vx vy : List Value} {nx ny : Nat} {xs ys : List Str}
    (hx : (lx, listOf vx.toArray nx) ∈ news) (hy : (ly, listOf vy.toArray ny) ∈ news) (hvx : StrsAre vx xs) (hvy : StrsAre vy ys) (hsx : ∀ i X Y, xs[i]? = some X → xs[i + 1]? = some Y → (Y == X) = false) (hsy : ∀ i X Y, ys[i]? = some X → ys[i + 1]? = some Y → (Y == X) = false) (hzx0 : xs.length ≤ 100) (hzy0 : ys.length ≤ 100)
    (ret : ∀ D M U h' tk' ws us n3 n4, Fr h₀ L h' m → News h₀ L h' ((D, tupObj #[.ref M, .ref U]) :: (M, listOf (List.toArray ws) n3) :: (U, listOf (List.toArray us) n4) :: news) → StrsAre ws (sldF xs ys).1 → StrsAre us (sldF xs ys).2 → Q (.ref D) { s with heap := h', toks := tk' }) :
    wpAny (model PySem.Challenge.rw_pd0169_01.row.prog w) (Ar dp un (some [envL]) gd) (call (.ref 170) [.ref lx, .ref ly]) Q E s := by
  w_on
  (revert X; k_fill; intro X)
  k_dflt (refine' enterS (binds := [(Str.ofString "expected", .ref lx), (Str.ofString "actual", .ref ly)]) ?k1 ?k2 ?kF ?kN ?k3 ?k4 ?k5 ?k6 ?k7 ?_ ?c2 ?c3 ?c4 ?c5; (case k1 => k_asm); (case k2 => k_asm); (case kF => k_asm); (case kN => k_asm); (case k3 => k_is); (case k4 => k_is); (case k5 => (dsimp only [Ar, Around.deeper, Around.in1]; omega)); (case k6 => exact BindsTo.of_eq rfl); (case k7 => exact locs rfl); (case c2 => exact rfl); (case c3 => exact rfl); (case c4 => exact rfl); (case c5 => decide); k_whole)
  intro L' h₁ oL es ep hdL hback nL hLL hnL hltL F' N'
  (try dsimp only)
  (try k_fold)
  have hab := F.above
  have XH := X
  clear F N
  k_steps
  unfold Hold
  (rename News _ _ _ _ => NE)
  (rename Fr _ _ _ _ => FE)
  (rename (_ < _) ∧ (_ < _) ∧ AllLt _ _ => lU)
  (rename (_ < _) ∧ AllLt _ _ => lM)
  (rename_i q1 q2 M q3 q4 U q5 q6)
  have foldOn : FoldOn := trivial
  obtain ⟨lM1, lM2⟩ := lM
  obtain ⟨lU1, lU2, lU3⟩ := lU
  have hx' : (lx, listOf vx.toArray nx) ∈ (U, W.listOf #[] 0) :: (M, W.listOf #[] 0) :: (L, oL) :: news := by simp only [List.mem_cons]; simp only [hx, or_true]
  have hy' : (ly, listOf vy.toArray ny) ∈ (U, W.listOf #[] 0) :: (M, W.listOf #[] 0) :: (L, oL) :: news := by simp only [List.mem_cons]; simp only [hy, or_true]
  have hlx := lt_mem lM2 _ hx
  have hly := lt_mem lM2 _ hy
  have hlx2 := lt_mem lU3 _ hx
  have hly2 := lt_mem lU3 _ hy
  dsimp only at hlx hly hlx2 hly2
  have NE2 : News h₀ L' q6 ((U, W.listOf #[] 0) :: (M, W.listOf #[] 0) :: (L, oL) :: (lx, listOf vx.toArray nx) :: (ly, listOf vy.toArray ny) :: news) := by
    intro p hp
    simp only [List.mem_cons] at hp
    rcases hp with rfl | rfl | rfl | rfl | rfl | hp
    · exact NE _ (.head _)
    · exact NE _ (.tail _ (.head _))
    · exact NE _ (.tail _ (.tail _ (.head _)))
    · exact NE _ hx'
    · exact NE _ hy'
    · exact NE _ (.tail _ (.tail _ (.tail _ hp)))
  clear NE
  have hzx := strsAre_len hvx
  have FX1 : ∀ vs n, (∀ ws, (U, listOf (List.toArray vs) n).2.data ≠ Data.fields ws) ∧ (U, listOf (List.toArray vs) n).1 ≠ L := fun vs n => ⟨fun ws q => (by cases q), Nat.ne_of_gt lU2⟩
  have FX2 : ∀ vs n, (∀ ws, (M, listOf (List.toArray vs) n).2.data ≠ Data.fields ws) ∧ (M, listOf (List.toArray vs) n).1 ≠ L := fun vs n => ⟨fun ws q => (by cases q), Nat.ne_of_gt lM1⟩
  have FX3 : (∀ ws, (lx, listOf vx.toArray nx).2.data ≠ Data.fields ws) ∧ (lx, listOf vx.toArray nx).1 ≠ L := ⟨fun ws q => (by cases q), hnL _ hx⟩
  have FX4 : (∀ ws, (ly, listOf vy.toArray ny).2.data ≠ Data.fields ws) ∧ (ly, listOf vy.toArray ny).1 ≠ L := ⟨fun ws q => (by cases q), hnL _ hy⟩
  have hzy := strsAre_len hvy
  have XE : ∀ (v1 : List Value) (k1 : Nat) (v2 : List Value) (k2 : Nat), Fix h₀ L' L (envOf (Str.ofString "sorted_list_difference") { kind := ScopeKind.function, names := [(Str.ofString "expected", NameKind.local), (Str.ofString "actual", NameKind.local), (Str.ofString "i", NameKind.local), (Str.ofString "j", NameKind.local), (Str.ofString "missing", NameKind.local), (Str.ofString "unexpected", NameKind.local), (Str.ofString "e", NameKind.local), (Str.ofString "a", NameKind.local), (Str.ofString "IndexError", NameKind.globalImplicit)], isGenerator := false, isCoroutine := false } L' 170 (Value.ref 169)) envL ((U, listOf v1.toArray k1) :: (M, listOf v2.toArray k2) :: (lx, listOf vx.toArray nx) :: (ly, listOf vy.toArray ny) :: news) oL.data := fun v1 k1 v2 k2 => fix_of hdL rfl (fun q => ScopeKind.noConfusion q) hfL hkL nL (Nat.ne_of_lt hLL) (FX1 v1 k1) (FX2 v2 k2) FX3 FX4 hnf hnL
  refine while_at (SldI h₀ L' L lx ly M U s vx vy nx ny xs ys oL news) (xs.length + ys.length)
      ⟨0, 0, s.toks + 2, s.toks + 2, [], [], _, _, [], [], none, none, _, _, rfl, Nat.zero_le _, Nat.zero_le _, rfl, fr_off FE ?_, NE2, .nil, .nil, Nat.le_refl _, Nat.le_refl _, rfl, rfl⟩ ?_
  · funext z
    by_cases g1 : z = Str.ofString "a"; (· subst g1; rfl)
    by_cases g2 : z = Str.ofString "e"; (· subst g2; rfl)
    by_cases g3 : z = Str.ofString "j"; (· subst g3; rfl)
    by_cases g4 : z = Str.ofString "i"; (· subst g4; rfl)
    by_cases g5 : z = Str.ofString "unexpected"; (· subst g5; rfl)
    by_cases g6 : z = Str.ofString "missing"; (· subst g6; rfl)
    by_cases g7 : z = Str.ofString "actual"; (· subst g7; rfl)
    by_cases g8 : z = Str.ofString "expected"; (· subst g8; rfl)
    simp only [if_neg g1, if_neg g2, if_neg g3, if_neg g4, if_neg g5, if_neg g6, if_neg g7, if_neg g8]
    show List.lookup z [(Str.ofString "actual", Value.ref ly), (Str.ofString "expected", Value.ref lx)] = none
    rw [List.lookup_cons, beq_eq_false_iff_ne.mpr g7, List.lookup_cons, beq_eq_false_iff_ne.mpr g8]; rfl
  · rintro n' s' ⟨i, j, ti, tj, ms, us, n3, n4, p1, p2, ue, ua, h, tk', rfl, hi, hj, rfl, F₁, N₁, hms, hus, hp1, hp2, hr1, hr2⟩
    clear FE NE2
    have hzm := strsAre_len hms
    have hzu := strsAre_len hus
    by_cases hi2 : i < xs.length
    · by_cases hj2 : j < ys.length
      · obtain ⟨X, tX, hX, hX', dX⟩ := strsAre_some hvx hi2
        obtain ⟨Y, tY, hY, hY', dY⟩ := strsAre_some hvy hj2
        k_steps
        unfold Hold
        by_cases hlt : ltS X Y = true
        · rw [hlt]
          have hms' := strsAre_append hms (.cons X tX .nil)
          have hzm' : (ms ++ [Value.str X tX]).length = p1.length + 1 := by rw [List.length_append, hzm]; rfl
          have hr1n : (p1 ++ [X]) ++ (sldF (xs.drop (i + 1)) (ys.drop j)).1 = (sldF xs ys).1 := by rw [← hr1, dX, dY, sldF_lt hlt, List.append_assoc]; rfl
          have hr2n : p2 ++ (sldF (xs.drop (i + 1)) (ys.drop j)).2 = (sldF xs ys).2 := by rw [← hr2, dX, dY, sldF_lt hlt]
          k_steps
          unfold Hold
          (rename Fr _ _ _ _ => FE)
          have FE2 := fr_off (m' := nmS lx ly M U _ tj (i + 1) (j) (some (.str X tX)) (some (.str Y tY))) FE (by walk_at "NMS")
          clear FE

          refine while_no ?_
          by_cases hi3 : i + 1 < xs.length
          · obtain ⟨X2, tX2, hX2, hX2', dX2⟩ := strsAre_some hvx hi3
            k_steps
            unfold Hold
            rw [hsx i X X2 hX' hX2']
            k_steps
            refine ⟨rfl, ?_⟩
            k_steps
            dsimp only [WPost]
            (rename Fr _ _ _ _ => FE)
            (rename News _ _ _ _ => NE)
            refine' ⟨_, ?_, i + 1, j, _, _, ms ++ [.str X tX], us, _, _, p1 ++ [X], p2, _, _, _, _, rfl, ?_, ?_, rfl, FE, NE, ?_, ?_, ?_, ?_, ?_, ?_⟩
            · first | exact dec1 hi2 | exact dec2 hj2 | exact dec3 hi2 hj2
            · omega
            · omega
            · with_reducible assumption
            · with_reducible assumption
            · (try rw [List.length_append, List.length_singleton]); omega
            · (try rw [List.length_append, List.length_singleton]); omega
            · with_reducible assumption
            · with_reducible assumption

          · k_steps
            have hz1 : (p1 ++ [X]) ++ xs.drop (i + 1) = (sldF xs ys).1 := by rw [← hr1n, List.drop_eq_nil_of_le (by omega : xs.length ≤ i + 1)]; simp [sldF]
            have hz2 : p2 ++ ys.drop (j) = (sldF xs ys).2 := by rw [← hr2n, List.drop_eq_nil_of_le (by omega : xs.length ≤ i + 1)]; simp [sldF]
            (rename Heap.NewExc _ _ _ _ => hxe)
            (rename Fr _ _ _ _ => FE)
            (rename News _ _ _ _ => NE)
            have SE := sit_of FE NE hxe.keeps
            refine note_raw (XE _ _ _ _) rfl SE (raw_new hxe) (new_base FE hxe.new) fun g2 S2 R2 => ?_
            refine came_rec (XE _ _ _ _) S2 R2 fun g3 S3 R3 => ?_
            refine note_rec rfl R3 ?_
            refine flight_rec (XE _ _ _ _) S3 R3 none fun g4 S4 R4 => ?_
            refine handle_rec (XE _ _ _ _) S4 R4 (topRead_of T) (fun g5 S5 => ?_) (by decide +kernel) (by decide +kernel) (by decide +kernel) (by decide +kernel) (by decide +kernel) rfl rfl
            obtain ⟨oL4, hoL4, N4⟩ := sit_back S5 nL (Nat.ne_of_lt hLL)
            have F4 := S5.fr
            refine sld_suite (xs := xs) (ys := ys) F4 N4 XH T hvx hvy lM1 lM2 lU1 lU2 lU3 hlx hly hlx2 hly2 hzx0 hzy0 (by omega) (by omega) (by omega) (by omega) (fun D1 ws1 D2 ws2 h12 tk12 n91 n92 a1 a2 F9 N9 => ?_)
            (try dsimp only [WPost])
            k_steps
            (try dsimp only [WPost])
            (try k_steps)
            unfold Hold
            refine sld_ret F9 N9 XH T (fun D9 h13 tk13 F11 N11 l19 => ?_)
            clear F9 N9
            obtain ⟨F10, N10⟩ := fin_sld hback hab F11 N11 hoL4 l19 lM1 lU2 hnL
            k_steps
            refine ret D9 M U _ _ _ _ n91 n92 F10 N10 ?_ ?_
            · rw [← hz1]; exact strsAre_append (by with_reducible assumption) a1
            · rw [← hz2]; exact strsAre_append (by with_reducible assumption) a2

        · by_cases hgt : ltS Y X = true
          · rw [Bool.eq_false_iff.mpr hlt]
            have hus' := strsAre_append hus (.cons Y tY .nil)
            have hzu' : (us ++ [Value.str Y tY]).length = p2.length + 1 := by rw [List.length_append, hzu]; rfl
            have hr1n : p1 ++ (sldF (xs.drop i) (ys.drop (j + 1))).1 = (sldF xs ys).1 := by rw [← hr1, dX, dY, sldF_gt hlt hgt]
            have hr2n : (p2 ++ [Y]) ++ (sldF (xs.drop i) (ys.drop (j + 1))).2 = (sldF xs ys).2 := by rw [← hr2, dX, dY, sldF_gt hlt hgt, List.append_assoc]; rfl
            k_steps
            unfold Hold
            rw [hgt]
            k_steps
            unfold Hold
            (rename Fr _ _ _ _ => FE)
            have FE2 := fr_off (m' := nmS lx ly M U ti _ (i) (j + 1) (some (.str X tX)) (some (.str Y tY))) FE (by walk_at "NMS")
            clear FE

            refine while_no ?_
            by_cases hj3 : j + 1 < ys.length
            · obtain ⟨Y2, tY2, hY2, hY2', dY2⟩ := strsAre_some hvy hj3
              k_steps
              unfold Hold
              rw [hsy j Y Y2 hY' hY2']
              k_steps
              refine ⟨rfl, ?_⟩
              k_steps
              dsimp only [WPost]
              (rename Fr _ _ _ _ => FE)
              (rename News _ _ _ _ => NE)
              refine' ⟨_, ?_, i, j + 1, _, _, ms, us ++ [.str Y tY], _, _, p1, p2 ++ [Y], _, _, _, _, rfl, ?_, ?_, rfl, FE, NE, ?_, ?_, ?_, ?_, ?_, ?_⟩
              · first | exact dec1 hi2 | exact dec2 hj2 | exact dec3 hi2 hj2
              · omega
              · omega
              · with_reducible assumption
              · with_reducible assumption
              · (try rw [List.length_append, List.length_singleton]); omega
              · (try rw [List.length_append, List.length_singleton]); omega
              · with_reducible assumption
              · with_reducible assumption

            · k_steps
              have hz1 : p1 ++ xs.drop (i) = (sldF xs ys).1 := by rw [← hr1n, List.drop_eq_nil_of_le (by omega : ys.length ≤ j + 1), sldF_nil]
              have hz2 : (p2 ++ [Y]) ++ ys.drop (j + 1) = (sldF xs ys).2 := by rw [← hr2n, List.drop_eq_nil_of_le (by omega : ys.length ≤ j + 1), sldF_nil]
              (rename Heap.NewExc _ _ _ _ => hxe)
              (rename Fr _ _ _ _ => FE)
              (rename News _ _ _ _ => NE)
              have SE := sit_of FE NE hxe.keeps
              refine note_raw (XE _ _ _ _) rfl SE (raw_new hxe) (new_base FE hxe.new) fun g2 S2 R2 => ?_
              refine came_rec (XE _ _ _ _) S2 R2 fun g3 S3 R3 => ?_
              refine note_rec rfl R3 ?_
              refine flight_rec (XE _ _ _ _) S3 R3 none fun g4 S4 R4 => ?_
              refine handle_rec (XE _ _ _ _) S4 R4 (topRead_of T) (fun g5 S5 => ?_) (by decide +kernel) (by decide +kernel) (by decide +kernel) (by decide +kernel) (by decide +kernel) rfl rfl
              obtain ⟨oL4, hoL4, N4⟩ := sit_back S5 nL (Nat.ne_of_lt hLL)
              have F4 := S5.fr
              refine sld_suite (xs := xs) (ys := ys) F4 N4 XH T hvx hvy lM1 lM2 lU1 lU2 lU3 hlx hly hlx2 hly2 hzx0 hzy0 (by omega) (by omega) (by omega) (by omega) (fun D1 ws1 D2 ws2 h12 tk12 n91 n92 a1 a2 F9 N9 => ?_)
              (try dsimp only [WPost])
              k_steps
              (try dsimp only [WPost])
              (try k_steps)
              unfold Hold
              refine sld_ret F9 N9 XH T (fun D9 h13 tk13 F11 N11 l19 => ?_)
              clear F9 N9
              obtain ⟨F10, N10⟩ := fin_sld hback hab F11 N11 hoL4 l19 lM1 lU2 hnL
              k_steps
              refine ret D9 M U _ _ _ _ n91 n92 F10 N10 ?_ ?_
              · rw [← hz1]; exact strsAre_append (by with_reducible assumption) a1
              · rw [← hz2]; exact strsAre_append (by with_reducible assumption) a2

          · rw [Bool.eq_false_iff.mpr hlt]
            k_steps
            unfold Hold
            rw [Bool.eq_false_iff.mpr hgt]
            have hr1n : p1 ++ (sldF (xs.drop (i + 1)) (ys.drop (j + 1))).1 = (sldF xs ys).1 := by rw [← hr1, dX, dY, sldF_eq hlt hgt]
            have hr2n : p2 ++ (sldF (xs.drop (i + 1)) (ys.drop (j + 1))).2 = (sldF xs ys).2 := by rw [← hr2, dX, dY, sldF_eq hlt hgt]
            k_steps
            unfold Hold
            (rename Fr _ _ _ _ => FE)
            have FE2 := fr_off (m' := nmS lx ly M U _ tj (i + 1) (j) (some (.str X tX)) (some (.str Y tY))) FE (by walk_at "NMS")
            clear FE

            refine while_no ?_
            by_cases hi3 : i + 1 < xs.length
            · obtain ⟨X2, tX2, hX2, hX2', dX2⟩ := strsAre_some hvx hi3
              k_steps
              unfold Hold
              rw [hsx i X X2 hX' hX2']
              k_steps
              refine ⟨rfl, ?_⟩
              k_steps
              unfold Hold
              (rename Fr _ _ _ _ => FE)
              have FE2 := fr_off (m' := nmS lx ly M U _ _ (i + 1) (j + 1) (some (.str X tX)) (some (.str Y tY))) FE (by walk_at "NMS")
              clear FE

              refine while_no ?_
              by_cases hj3 : j + 1 < ys.length
              · obtain ⟨Y2, tY2, hY2, hY2', dY2⟩ := strsAre_some hvy hj3
                k_steps
                unfold Hold
                rw [hsy j Y Y2 hY' hY2']
                k_steps
                refine ⟨rfl, ?_⟩
                k_steps
                dsimp only [WPost]
                (rename Fr _ _ _ _ => FE)
                (rename News _ _ _ _ => NE)
                refine' ⟨_, ?_, i + 1, j + 1, _, _, ms, us, _, _, p1, p2, _, _, _, _, rfl, ?_, ?_, rfl, FE, NE, ?_, ?_, ?_, ?_, ?_, ?_⟩
                · first | exact dec1 hi2 | exact dec2 hj2 | exact dec3 hi2 hj2
                · omega
                · omega
                · with_reducible assumption
                · with_reducible assumption
                · (try rw [List.length_append, List.length_singleton]); omega
                · (try rw [List.length_append, List.length_singleton]); omega
                · with_reducible assumption
                · with_reducible assumption

              · k_steps
                have hz1 : p1 ++ xs.drop (i + 1) = (sldF xs ys).1 := by rw [← hr1n, List.drop_eq_nil_of_le (by omega : ys.length ≤ j + 1), sldF_nil]
                have hz2 : p2 ++ ys.drop (j + 1) = (sldF xs ys).2 := by rw [← hr2n, List.drop_eq_nil_of_le (by omega : ys.length ≤ j + 1), sldF_nil]
                (rename Heap.NewExc _ _ _ _ => hxe)
                (rename Fr _ _ _ _ => FE)
                (rename News _ _ _ _ => NE)
                have SE := sit_of FE NE hxe.keeps
                refine note_raw (XE _ _ _ _) rfl SE (raw_new hxe) (new_base FE hxe.new) fun g2 S2 R2 => ?_
                refine came_rec (XE _ _ _ _) S2 R2 fun g3 S3 R3 => ?_
                refine note_rec rfl R3 ?_
                refine came_rec (XE _ _ _ _) S3 R3 fun g4 S4 R4 => ?_
                refine note_rec rfl R4 ?_
                refine flight_rec (XE _ _ _ _) S4 R4 none fun g5 S5 R5 => ?_
                refine handle_rec (XE _ _ _ _) S5 R5 (topRead_of T) (fun g9 S9 => ?_) (by decide +kernel) (by decide +kernel) (by decide +kernel) (by decide +kernel) (by decide +kernel) rfl rfl
                obtain ⟨oL4, hoL4, N4⟩ := sit_back S9 nL (Nat.ne_of_lt hLL)
                have F4 := S9.fr
                refine sld_suite (xs := xs) (ys := ys) F4 N4 XH T hvx hvy lM1 lM2 lU1 lU2 lU3 hlx hly hlx2 hly2 hzx0 hzy0 (by omega) (by omega) (by omega) (by omega) (fun D1 ws1 D2 ws2 h12 tk12 n91 n92 a1 a2 F9 N9 => ?_)
                (try dsimp only [WPost])
                k_steps
                (try dsimp only [WPost])
                (try k_steps)
                unfold Hold
                refine sld_ret F9 N9 XH T (fun D9 h13 tk13 F11 N11 l19 => ?_)
                clear F9 N9
                obtain ⟨F10, N10⟩ := fin_sld hback hab F11 N11 hoL4 l19 lM1 lU2 hnL
                k_steps
                refine ret D9 M U _ _ _ _ n91 n92 F10 N10 ?_ ?_
                · rw [← hz1]; exact strsAre_append (by with_reducible assumption) a1
                · rw [← hz2]; exact strsAre_append (by with_reducible assumption) a2

            · k_steps
              (rename Heap.NewExc _ _ _ _ => hxe)
              (rename Fr _ _ _ _ => FE)
              (rename News _ _ _ _ => NE)
              have SE := sit_of FE NE hxe.keeps
              have hnewE := new_base FE hxe.new
              refine note_raw (XE _ _ _ _) rfl SE (raw_new hxe) hnewE fun g2 S2 R2 => ?_
              refine came_rec (XE _ _ _ _) S2 R2 fun g3 S3 R3 => ?_
              refine note_rec rfl R3 ?_
              refine ⟨ref_ne_byPass _, note_rec rfl R3 (flight_rec (XE _ _ _ _) S3 R3 none fun g4 S4 R4 => ?_)⟩
              obtain ⟨oL4, hoL4, N4⟩ := sit_back S4 nL (Nat.ne_of_lt hLL)
              have F4 := S4.fr
              obtain ⟨oe, T1, oT, vse, N5, hoe, hoe2, hrec⟩ := rec_led F4 N4 R4 hnewE
              clear N4 FE NE SE S2 R2 S3 R3 S4 R4 hxe
              k_steps

              unfold Hold
              (rename Fr _ _ _ _ => FE)
              have FE2 := fr_off (m' := nmS lx ly M U _ _ (i + 1) (j + 1) (some (.str X tX)) (some (.str Y tY))) FE (by walk_at "NMS")
              clear FE
              have hz1 : p1 ++ xs.drop (i + 1) = (sldF xs ys).1 := by rw [← hr1n, List.drop_eq_nil_of_le (by omega : xs.length ≤ i + 1)]; simp [sldF]
              have hz2 : p2 ++ ys.drop (j + 1) = (sldF xs ys).2 := by rw [← hr2n, List.drop_eq_nil_of_le (by omega : xs.length ≤ i + 1)]; simp [sldF]

              refine while_no ?_
              by_cases hj3 : j + 1 < ys.length
              · obtain ⟨Y2, tY2, hY2, hY2', dY2⟩ := strsAre_some hvy hj3
                k_steps
                unfold Hold
                rw [hsy j Y Y2 hY' hY2']
                k_steps
                refine ⟨rfl, ?_⟩
                k_steps
                (rename Fr _ _ _ _ => FE)
                (rename News _ _ _ _ => NE)
                have RE := hrec _ (NE _ (.head _)).1 (NE _ (.tail _ (.head _))).1
                have SE := sit_of FE (fun p hp => NE p (.tail _ (.tail _ hp))) (fun _ _ q => q)
                rw [hoL4] at SE
                refine pass_rec (XE _ _ _ _) SE RE fun g5 S5 R5 => ?_
                refine note_rec rfl R5 ?_
                refine flight_rec (XE _ _ _ _) S5 R5 none fun g6 S6 R6 => ?_
                clear FE NE SE RE
                refine handle_rec (XE _ _ _ _) S6 R6 (topRead_of T) (fun g9 S9 => ?_) (by decide +kernel) (by decide +kernel) (by decide +kernel) (by decide +kernel) (by decide +kernel) rfl rfl
                obtain ⟨oL4, hoL4, N4⟩ := sit_back S9 nL (Nat.ne_of_lt hLL)
                have F4 := S9.fr
                refine sld_suite (xs := xs) (ys := ys) F4 N4 XH T hvx hvy lM1 lM2 lU1 lU2 lU3 hlx hly hlx2 hly2 hzx0 hzy0 (by omega) (by omega) (by omega) (by omega) (fun D1 ws1 D2 ws2 h12 tk12 n91 n92 a1 a2 F9 N9 => ?_)
                (try dsimp only [WPost])
                k_steps
                (try dsimp only [WPost])
                (try k_steps)
                unfold Hold
                refine sld_ret F9 N9 XH T (fun D9 h13 tk13 F11 N11 l19 => ?_)
                clear F9 N9
                obtain ⟨F10, N10⟩ := fin_sld hback hab F11 N11 hoL4 l19 lM1 lU2 hnL
                k_steps
                refine ret D9 M U _ _ _ _ n91 n92 F10 N10 ?_ ?_
                · rw [← hz1]; exact strsAre_append (by with_reducible assumption) a1
                · rw [← hz2]; exact strsAre_append (by with_reducible assumption) a2

              · k_steps
                (rename Raw _ _ _ => hraw)
                (rename Kp _ _ => hkp)
                (rename Heap.get? _ _ = none => hnew2)
                (rename Fr _ _ _ _ => FE)
                (rename News _ _ _ _ => NE)
                have SE := sit_of FE (fun p hp => NE p (.tail _ (.tail _ hp))) hkp
                rw [hoL4] at SE
                refine note_raw (XE _ _ _ _) rfl SE hraw (new_base FE hnew2) fun g2 S2 R2 => ?_
                refine came_rec (XE _ _ _ _) S2 R2 fun g3 S3 R3 => ?_
                refine note_rec rfl R3 ?_
                refine came_rec (XE _ _ _ _) S3 R3 fun g6 S6 R6 => ?_
                refine note_rec rfl R6 ?_
                refine flight_rec (XE _ _ _ _) S6 R6 none fun g5 S5 R5 => ?_
                clear FE NE SE
                refine handle_rec (XE _ _ _ _) S5 R5 (topRead_of T) (fun g9 S9 => ?_) (by decide +kernel) (by decide +kernel) (by decide +kernel) (by decide +kernel) (by decide +kernel) rfl rfl
                obtain ⟨oL4, hoL4, N4⟩ := sit_back S9 nL (Nat.ne_of_lt hLL)
                have F4 := S9.fr
                refine sld_suite (xs := xs) (ys := ys) F4 N4 XH T hvx hvy lM1 lM2 lU1 lU2 lU3 hlx hly hlx2 hly2 hzx0 hzy0 (by omega) (by omega) (by omega) (by omega) (fun D1 ws1 D2 ws2 h12 tk12 n91 n92 a1 a2 F9 N9 => ?_)
                (try dsimp only [WPost])
                k_steps
                (try dsimp only [WPost])
                (try k_steps)
                unfold Hold
                refine sld_ret F9 N9 XH T (fun D9 h13 tk13 F11 N11 l19 => ?_)
                clear F9 N9
                obtain ⟨F10, N10⟩ := fin_sld hback hab F11 N11 hoL4 l19 lM1 lU2 hnL
                k_steps
                refine ret D9 M U _ _ _ _ n91 n92 F10 N10 ?_ ?_
                · rw [← hz1]; exact strsAre_append (by with_reducible assumption) a1
                · rw [← hz2]; exact strsAre_append (by with_reducible assumption) a2

      · obtain ⟨X, tX, hX, hX', dX⟩ := strsAre_some hvx hi2
        k_steps
        have hz1 : p1 ++ xs.drop i = (sldF xs ys).1 := by rw [← hr1, List.drop_eq_nil_of_le (by omega : ys.length ≤ j), sldF_nil]
        have hz2 : p2 ++ ys.drop j = (sldF xs ys).2 := by rw [← hr2, List.drop_eq_nil_of_le (by omega : ys.length ≤ j), sldF_nil]
        (rename Heap.NewExc _ _ _ _ => hxe)
        (rename Fr _ _ _ _ => FE)
        (rename News _ _ _ _ => NE)
        have SE := sit_of FE NE hxe.keeps
        refine note_raw (XE _ _ _ _) rfl SE (raw_new hxe) (new_base FE hxe.new) fun g2 S2 R2 => ?_
        refine flight_rec (XE _ _ _ _) S2 R2 none fun g3 S3 R3 => ?_
        refine handle_rec (XE _ _ _ _) S3 R3 (topRead_of T) (fun g4 S4 => ?_) (by decide +kernel) (by decide +kernel) (by decide +kernel) (by decide +kernel) (by decide +kernel) rfl rfl
        obtain ⟨oL4, hoL4, N4⟩ := sit_back S4 nL (Nat.ne_of_lt hLL)
        have F4 := S4.fr
        replace F4 := fr_off (m' := nmS lx ly M U ti tj i j (some (.str X tX)) ua) F4 (by walk_at "NMS")
        refine sld_suite (xs := xs) (ys := ys) F4 N4 XH T hvx hvy lM1 lM2 lU1 lU2 lU3 hlx hly hlx2 hly2 hzx0 hzy0 (by omega) (by omega) (by omega) (by omega) (fun D1 ws1 D2 ws2 h12 tk12 n91 n92 a1 a2 F9 N9 => ?_)
        (try dsimp only [WPost])
        k_steps
        (try dsimp only [WPost])
        (try k_steps)
        unfold Hold
        refine sld_ret F9 N9 XH T (fun D9 h13 tk13 F11 N11 l19 => ?_)
        clear F9 N9
        obtain ⟨F10, N10⟩ := fin_sld hback hab F11 N11 hoL4 l19 lM1 lU2 hnL
        k_steps
        refine ret D9 M U _ _ _ _ n91 n92 F10 N10 ?_ ?_
        · rw [← hz1]; exact strsAre_append (by with_reducible assumption) a1
        · rw [← hz2]; exact strsAre_append (by with_reducible assumption) a2

    · k_steps
      have hz1 : p1 ++ xs.drop i = (sldF xs ys).1 := by rw [← hr1, List.drop_eq_nil_of_le (by omega : xs.length ≤ i)]; simp [sldF]
      have hz2 : p2 ++ ys.drop j = (sldF xs ys).2 := by rw [← hr2, List.drop_eq_nil_of_le (by omega : xs.length ≤ i)]; simp [sldF]
      (rename Heap.NewExc _ _ _ _ => hxe)
      (rename Fr _ _ _ _ => FE)
      (rename News _ _ _ _ => NE)
      have SE := sit_of FE NE hxe.keeps
      refine note_raw (XE _ _ _ _) rfl SE (raw_new hxe) (new_base FE hxe.new) fun g2 S2 R2 => ?_
      refine flight_rec (XE _ _ _ _) S2 R2 none fun g3 S3 R3 => ?_
      refine handle_rec (XE _ _ _ _) S3 R3 (topRead_of T) (fun g4 S4 => ?_) (by decide +kernel) (by decide +kernel) (by decide +kernel) (by decide +kernel) (by decide +kernel) rfl rfl
      obtain ⟨oL4, hoL4, N4⟩ := sit_back S4 nL (Nat.ne_of_lt hLL)
      have F4 := S4.fr
      refine sld_suite (xs := xs) (ys := ys) F4 N4 XH T hvx hvy lM1 lM2 lU1 lU2 lU3 hlx hly hlx2 hly2 hzx0 hzy0 (by omega) (by omega) (by omega) (by omega) (fun D1 ws1 D2 ws2 h12 tk12 n91 n92 a1 a2 F9 N9 => ?_)
      (try dsimp only [WPost])
      k_steps
      (try dsimp only [WPost])
      (try k_steps)
      unfold Hold
      refine sld_ret F9 N9 XH T (fun D9 h13 tk13 F11 N11 l19 => ?_)
      clear F9 N9
      obtain ⟨F10, N10⟩ := fin_sld hback hab F11 N11 hoL4 l19 lM1 lU2 hnL
      k_steps
      refine ret D9 M U _ _ _ _ n91 n92 F10 N10 ?_ ?_
      · rw [← hz1]; exact strsAre_append (by with_reducible assumption) a1
      · rw [← hz2]; exact strsAre_append (by with_reducible assumption) a2

end
end
section
set_option synthInstance.maxHeartbeats 1000000
set_option synthInstance.maxSize 2000

noncomputable def litT : Nat → List Str
  | 0 => [Str.ofString "/", Str.ofString "/com", Str.ofString "/com/a", Str.ofString "/com/aba", Str.ofString "/com/a/a", Str.ofString "/com/a/aba", Str.ofString "/com/aba/a", Str.ofString "/com/aba/aba", Str.ofString "/com/a/a/a", Str.ofString "/com/a/a/aba", Str.ofString "/com/a/aba/a", Str.ofString "/com/a/aba/aba", Str.ofString "/com/aba/a/a", Str.ofString "/com/aba/a/aba", Str.ofString "/com/aba/aba/a", Str.ofString "/com/aba/aba/aba"]
  | 1 => [Str.ofString "/", Str.ofString "/7", Str.ofString "/7/a", Str.ofString "/7/aba", Str.ofString "/7/a/a", Str.ofString "/7/a/aba", Str.ofString "/7/aba/a", Str.ofString "/7/aba/aba", Str.ofString "/7/a/a/a", Str.ofString "/7/a/a/aba", Str.ofString "/7/a/aba/a", Str.ofString "/7/a/aba/aba", Str.ofString "/7/aba/a/a", Str.ofString "/7/aba/a/aba", Str.ofString "/7/aba/aba/a", Str.ofString "/7/aba/aba/aba"]
  | _ => [Str.ofString "/", Str.ofString "/a", Str.ofString "/a/a", Str.ofString "/a/aba", Str.ofString "/a/a/a", Str.ofString "/a/a/aba", Str.ofString "/a/aba/a", Str.ofString "/a/aba/aba", Str.ofString "/a/a/a/a", Str.ofString "/a/a/a/aba", Str.ofString "/a/a/aba/a", Str.ofString "/a/a/aba/aba", Str.ofString "/a/aba/a/a", Str.ofString "/a/aba/a/aba", Str.ofString "/a/aba/aba/a", Str.ofString "/a/aba/aba/aba"]
noncomputable def topT : Nat → Str
  | 0 => Str.ofString "com"
  | 1 => Str.ofString "7"
  | _ => Str.ofString "a"
noncomputable abbrev tx (k : Nat) (i : Nat) : Str := (litT k).getD i (Str.ofString "")
theorem path_lit0 : pathL (topT 0) 14 = litT 0 := by decide +kernel
theorem path_lit1 : pathL (topT 1) 14 = litT 1 := by decide +kernel
theorem path_lit2 : pathL (topT 2) 14 = litT 2 := by decide +kernel
theorem tree_of (k : Nat) (h : (∀ a, a < 16 → (tx k a).length ≤ 100) ∧ (∀ a, a < 16 → 1 ≤ a → dirF (tx k a) = tx k (a / 2)) ∧ (∀ a, a < 16 → ∀ b, b < 16 → tx k a = tx k b → a = b)) : Tree (tx k) :=
  ⟨fun a ha => h.1 a (by omega), fun a h1 ha => h.2.1 a (by omega) h1, fun a b ha hb => h.2.2 a (by omega) b (by omega)⟩
theorem tree0 : Tree (tx 0) := tree_of 0 (by decide +kernel)
theorem tree1 : Tree (tx 1) := tree_of 1 (by decide +kernel)
theorem tree2 : Tree (tx 2) := tree_of 2 (by decide +kernel)
noncomputable def clT (top : Str) : List (List Str) := [[], [top], [top, Str.ofString "a"], [top, Str.ofString "aba"], [top, Str.ofString "a", Str.ofString "a"], [top, Str.ofString "a", Str.ofString "aba"], [top, Str.ofString "aba", Str.ofString "a"], [top, Str.ofString "aba", Str.ofString "aba"],
  [top, Str.ofString "a", Str.ofString "a", Str.ofString "a"], [top, Str.ofString "a", Str.ofString "a", Str.ofString "aba"], [top, Str.ofString "a", Str.ofString "aba", Str.ofString "a"], [top, Str.ofString "a", Str.ofString "aba", Str.ofString "aba"],
  [top, Str.ofString "aba", Str.ofString "a", Str.ofString "a"], [top, Str.ofString "aba", Str.ofString "a", Str.ofString "aba"], [top, Str.ofString "aba", Str.ofString "aba", Str.ofString "a"], [top, Str.ofString "aba", Str.ofString "aba", Str.ofString "aba"]]
/-- the names on the way to a place -/
noncomputable def clK (k a : Nat) : List Str := (clT (topT k)).getD a []
/-- what is asked of one text -/
noncomputable def sinB (x : Str) (c : List Str) : Bool :=
  decide (x.length ≤ 100) && decide ((Txt.split x (Str.ofString "/")).length ≤ 1000) && (Txt.split x (Str.ofString "/")).all (fun d => decide (d.length ≤ 100)) && Txt.startswith x (Str.ofString "/") && decide (cX x = c) && decide (c.length ≤ 20) &&
  (List.range 21).all (fun i => decide ((Txt.join (Str.ofString "/") (c.take i)).length ≤ 1000) && decide (((c.take i).map (·.length)).sum + (c.take i).length ≤ 1048576)) && decide (Str.ofString "/" ++ Txt.join (Str.ofString "/") c = x)
/-- what is asked of two -/
noncomputable def pairB (p q r : List Str) : Bool :=
  !(lexL ltS (decide (q.length < p.length)) q p && lexL gtS (decide (q.length > p.length)) q p) &&
  (List.range 5).all (fun i => !(decide (i < (if lexL ltS (decide (q.length < p.length)) q p = true then q else p).length)) || !(decide ((if lexL ltS (decide (q.length < p.length)) q p = true then q else p).take i = (if lexL gtS (decide (q.length > p.length)) q p = true then q else p).take i)) || decide (i < (if lexL gtS (decide (q.length > p.length)) q p = true then q else p).length)) &&
  decide (cpre (if lexL ltS (decide (q.length < p.length)) q p = true then q else p) (if lexL gtS (decide (q.length > p.length)) q p = true then q else p) = r) && decide (p.length ≤ 4) && decide (q.length ≤ 4)
theorem sin0 : ∀ a, a < 16 → 1 ≤ a → sinB (tx 0 a) (clK 0 a) = true := by decide +kernel
theorem sin1 : ∀ a, a < 16 → 1 ≤ a → sinB (tx 1 a) (clK 1 a) = true := by decide +kernel
theorem sin2 : ∀ a, a < 16 → 1 ≤ a → sinB (tx 2 a) (clK 2 a) = true := by decide +kernel
theorem pair0 : ∀ a, a < 16 → 1 ≤ a → ∀ b, b < 16 → 1 ≤ b → pairB (clK 0 a) (clK 0 b) (clK 0 (lca a b)) = true := by decide +kernel
theorem pair1 : ∀ a, a < 16 → 1 ≤ a → ∀ b, b < 16 → 1 ≤ b → pairB (clK 1 a) (clK 1 b) (clK 1 (lca a b)) = true := by decide +kernel
theorem pair2 : ∀ a, a < 16 → 1 ≤ a → ∀ b, b < 16 → 1 ≤ b → pairB (clK 2 a) (clK 2 b) (clK 2 (lca a b)) = true := by decide +kernel
theorem lca_in : ∀ a, a < 16 → 1 ≤ a → ∀ b, b < 16 → 1 ≤ b → lca a b < 16 ∧ 1 ≤ lca a b := by decide +kernel
theorem of_three {P : Nat → Prop} (h0 : P 0) (h1 : P 1) (h2 : P 2) : ∀ k, k < 3 → P k := fun k hk => by
  have : k = 0 ∨ k = 1 ∨ k = 2 := by omega
  rcases this with rfl | rfl | rfl <;> assumption
theorem com_of {x y : Str} {p q r : List Str} (hx : sinB x p = true) (hy : sinB y q = true) (hp : pairB p q r = true) : ComOk x y ∧ comF x y = Str.ofString "/" ++ Txt.join (Str.ofString "/") r := by
  simp only [sinB, Bool.and_eq_true, decide_eq_true_eq] at hx hy
  obtain ⟨⟨⟨⟨⟨⟨⟨a1, a2⟩, a3⟩, a4⟩, a5⟩, a6⟩, a7⟩, _⟩ := hx
  obtain ⟨⟨⟨⟨⟨⟨⟨b1, b2⟩, b3⟩, b4⟩, b5⟩, b6⟩, b7⟩, _⟩ := hy
  unfold pairB at hp
  simp only [Bool.and_eq_true, decide_eq_true_eq] at hp
  obtain ⟨⟨⟨⟨n1, n2⟩, n3⟩, n4⟩, n5⟩ := hp
  have e1 : cS1 x y = (if lexL ltS (decide (q.length < p.length)) q p = true then q else p) := by unfold cS1 cB1; rw [a5, b5]
  have e2 : cS2 x y = (if lexL gtS (decide (q.length > p.length)) q p = true then q else p) := by unfold cS2 cB2; rw [a5, b5]
  rw [List.all_eq_true] at a3 b3 a7 b7 n2
  have w1 : cS1 x y = q ∨ cS1 x y = p := by
    rw [e1]
    split
    · exact .inl rfl
    · exact .inr rfl
  have w2 : cS2 x y = q ∨ cS2 x y = p := by
    rw [e2]
    split
    · exact .inl rfl
    · exact .inr rfl
  refine ⟨⟨a1, b1, a2, b2, fun c hc => of_decide_eq_true (a3 c hc), fun c hc => of_decide_eq_true (b3 c hc), a4, b4, ?_, fun i hi ht => ?_, ?_, ?_, fun i hi => ?_, fun i hi => ?_⟩, ?_⟩
  · unfold cB1 cB2
    rw [a5, b5]
    exact (Bool.not_eq_true' _).mp n1
  · have l4 : (cS1 x y).length ≤ 4 := by rcases w1 with e | e <;> (rw [e]; assumption)
    rw [e1] at hi ht l4
    rw [e2] at ht ⊢
    have z := n2 i (List.mem_range.mpr (by omega))
    rw [Bool.or_eq_true, Bool.or_eq_true] at z
    rcases z with (z | z) | z
    · rw [decide_eq_true hi] at z; cases z
    · rw [decide_eq_true ht] at z; cases z
    · exact of_decide_eq_true z
  · rcases w1 with e | e <;> (rw [e]; assumption)
  · rcases w2 with e | e <;> (rw [e]; omega)
  · have za := a7 i (List.mem_range.mpr (by omega))
    have zb := b7 i (List.mem_range.mpr (by omega))
    rw [Bool.and_eq_true] at za zb
    rcases w1 with e | e
    · rw [e]; exact of_decide_eq_true zb.1
    · rw [e]; exact of_decide_eq_true za.1
  · have za := a7 i (List.mem_range.mpr (by omega))
    have zb := b7 i (List.mem_range.mpr (by omega))
    rw [Bool.and_eq_true] at za zb
    rcases w1 with e | e
    · rw [e]; exact of_decide_eq_true zb.2
    · rw [e]; exact of_decide_eq_true za.2
  · unfold comF
    rw [e1, e2, n3]
theorem com_k {k a b : Nat} (hk : k < 3) (ha : a < 16) (ha1 : 1 ≤ a) (hb : b < 16) (hb1 : 1 ≤ b) : ComOk (tx k a) (tx k b) ∧ comF (tx k a) (tx k b) = tx k (lca a b) := by
  have hs := of_three (P := fun k => ∀ a, a < 16 → 1 ≤ a → sinB (tx k a) (clK k a) = true) sin0 sin1 sin2 k hk
  have hp := of_three (P := fun k => ∀ a, a < 16 → 1 ≤ a → ∀ b, b < 16 → 1 ≤ b → pairB (clK k a) (clK k b) (clK k (lca a b)) = true) pair0 pair1 pair2 k hk a ha ha1 b hb hb1
  have hl := lca_in a ha ha1 b hb hb1
  have h := com_of (hs a ha ha1) (hs b hb hb1) hp
  have hj := hs _ hl.1 hl.2
  simp only [sinB, Bool.and_eq_true, decide_eq_true_eq] at hj
  exact ⟨h.1, h.2.trans hj.2⟩
noncomputable abbrev ZoneP (x : Str) : Prop := x.length ≤ 1000 ∧ (((Txt.split x (Str.ofString "/")).drop 1).reverse.map (·.length)).sum + ((Txt.split x (Str.ofString "/")).drop 1).reverse.length ≤ 1000 ∧ (Txt.split x (Str.ofString "/")).length ≤ 1000 ∧ (Txt.join (Str.ofString ".") ((Txt.split x (Str.ofString "/")).drop 1).reverse).length ≤ 1000
noncomputable abbrev zt (k i : Nat) : Str := zoneF (tx k i)
noncomputable abbrev wt (k i : Nat) : Str := Str.ofString "w" ++ zt k i
theorem zone0 : ∀ a, a < 16 → ZoneP (tx 0 a) ∧ (zt 0 a).length ≤ 60 := by decide +kernel
theorem zone1 : ∀ a, a < 16 → ZoneP (tx 1 a) ∧ (zt 1 a).length ≤ 60 := by decide +kernel
theorem zone2 : ∀ a, a < 16 → ZoneP (tx 2 a) ∧ (zt 2 a).length ≤ 60 := by decide +kernel
/-- what is asked of a host, and of a zone -/
noncomputable def hostB (h : Bool) (x : Str) : Bool := decide ((Txt.upper x).length < 300) && decide (Txt.lower (Txt.upper x) = x) && decide (x.length < 1000) && decide ((reRun x).map (·.isSome) = some h)
noncomputable def zoneB (h : Bool) (y : Str) : Bool := decide (y.length < 300) && decide (Txt.lower y = y) && decide (y.length < 1000) && decide ((reRun y).map (·.isSome) = some h) && Txt.startswith y (Str.ofString ".")
theorem host0 : ∀ a, a < 16 → 8 ≤ a → hostB false (wt 0 a) = true := by decide +kernel
theorem host1 : ∀ a, a < 16 → 8 ≤ a → hostB true (wt 1 a) = true := by decide +kernel
theorem host2 : ∀ a, a < 16 → 8 ≤ a → hostB false (wt 2 a) = true := by decide +kernel
theorem dot0 : ∀ b, b < 16 → 1 ≤ b → zoneB false (zt 0 b) = true := by decide +kernel
theorem dot1 : ∀ b, b < 16 → 1 ≤ b → zoneB true (zt 1 b) = true := by decide +kernel
theorem dot2 : ∀ b, b < 16 → 1 ≤ b → zoneB false (zt 2 b) = true := by decide +kernel
theorem ends0 : ∀ a, a < 16 → 8 ≤ a → ∀ b, b < 16 → 1 ≤ b → Txt.endswith (wt 0 a) (zt 0 b) = (lca a b == b) := by decide +kernel
theorem ends1 : ∀ a, a < 16 → 8 ≤ a → ∀ b, b < 16 → 1 ≤ b → (wt 1 a == zt 1 b) = false := by decide +kernel
theorem ends2 : ∀ a, a < 16 → 8 ≤ a → ∀ b, b < 16 → 1 ≤ b → Txt.endswith (wt 2 a) (zt 2 b) = (lca a b == b) := by decide +kernel
theorem hit_of {h : Bool} {x : Str} (e : (reRun x).map (·.isSome) = some h) : (reRun x).isSome = true ∧ hitF x = h := by
  unfold hitF
  cases q : reRun x with
  | none => rw [q] at e; cases e
  | some r =>
    rw [q] at e
    have e' : r.isSome = h := Option.some.inj e
    cases r with
    | none => exact ⟨rfl, e'⟩
    | some r => exact ⟨rfl, e'⟩
theorem udm_of {h : Bool} {x y : Str} (hx : hostB h x = true) (hy : zoneB h y = true) : UdmOk (Txt.upper x) y ∧ udmF (Txt.upper x) y = if h = true then (x == y) else Txt.endswith x y := by
  simp only [hostB, Bool.and_eq_true, decide_eq_true_eq] at hx
  simp only [zoneB, Bool.and_eq_true, decide_eq_true_eq] at hy
  obtain ⟨⟨⟨a1, a2⟩, a4⟩, a0⟩ := hx
  obtain ⟨⟨⟨⟨b1, b2⟩, b4⟩, b0⟩, b6⟩ := hy
  obtain ⟨a3, a5⟩ := hit_of a0
  obtain ⟨b3, b5⟩ := hit_of b0
  refine ⟨⟨a1, b1, by rw [a2]; exact a3, by rw [b2]; exact b3, by rw [a2]; exact a4, by rw [b2]; exact b4⟩, ?_⟩
  cases h with
  | true => rw [udm_1 (by rw [a2]; exact a5), a2, b2]; rfl
  | false => rw [udm_3 (by rw [a2]; exact a5) (by rw [b2]; exact b5) (by rw [b2]; exact b6), a2, b2]; rfl
theorem udm_k {k a b : Nat} (hk : k < 3) (ha : a < 16) (ha8 : 8 ≤ a) (hb : b < 16) (hb1 : 1 ≤ b) : UdmOk (Txt.upper (wt k a)) (zt k b) ∧ udmF (Txt.upper (wt k a)) (zt k b) = (decide (k ≠ 1) && (lca a b == b)) := by
  have h := of_three (P := fun k => ∀ a, a < 16 → 8 ≤ a → ∀ b, b < 16 → 1 ≤ b → UdmOk (Txt.upper (wt k a)) (zt k b) ∧ udmF (Txt.upper (wt k a)) (zt k b) = (decide (k ≠ 1) && (lca a b == b)))
    (fun a h1 h2 b h3 h4 => ⟨(udm_of (host0 a h1 h2) (dot0 b h3 h4)).1, (udm_of (host0 a h1 h2) (dot0 b h3 h4)).2.trans (by rw [if_neg Bool.false_ne_true, ends0 a h1 h2 b h3 h4, decide_eq_true (by decide), Bool.true_and])⟩)
    (fun a h1 h2 b h3 h4 => ⟨(udm_of (host1 a h1 h2) (dot1 b h3 h4)).1, (udm_of (host1 a h1 h2) (dot1 b h3 h4)).2.trans (by rw [if_pos rfl, ends1 a h1 h2 b h3 h4, decide_eq_false (by decide), Bool.false_and])⟩)
    (fun a h1 h2 b h3 h4 => ⟨(udm_of (host2 a h1 h2) (dot2 b h3 h4)).1, (udm_of (host2 a h1 h2) (dot2 b h3 h4)).2.trans (by rw [if_neg Bool.false_ne_true, ends2 a h1 h2 b h3 h4, decide_eq_true (by decide), Bool.true_and])⟩)
  exact h k hk a ha ha8 b hb hb1
theorem winj0 : ∀ a, a < 16 → 8 ≤ a → ∀ b, b < 16 → 8 ≤ b → wt 0 a = wt 0 b → a = b := by decide +kernel
theorem winj1 : ∀ a, a < 16 → 8 ≤ a → ∀ b, b < 16 → 8 ≤ b → wt 1 a = wt 1 b → a = b := by decide +kernel
theorem winj2 : ∀ a, a < 16 → 8 ≤ a → ∀ b, b < 16 → 8 ≤ b → wt 2 a = wt 2 b → a = b := by decide +kernel
end
section
set_option synthInstance.maxHeartbeats 1000000
set_option synthInstance.maxSize 2000

noncomputable def keptN (ns : List Nat) : List Nat := ns.foldl (fun acc b => putN (acc.length + 1) acc b) []
noncomputable def lowN (ns : List Nat) : List Nat := ((List.range 8).map (8 + ·)).filter fun l => ns.contains l || ns.contains (l / 2) || ns.contains (l / 4) || ns.contains 1
noncomputable def highI (ns : List Nat) : List Int := highF ((lowN ns).map fun (i : Nat) => (i : Int)) 3 1
/-- the lowest places below a place, as bits -/
noncomputable def covN (n : Nat) : Nat := [0, 255, 15, 240, 3, 12, 48, 192, 1, 2, 4, 8, 16, 32, 64, 128].getD n 0
noncomputable def covL : List Nat → Nat
  | [] => 0
  | n :: ns => covN n ||| covL ns
/-- the highest places of a set of lowest ones -/
noncomputable def highM (s : Nat) : Nat → Nat → List Nat
  | 0, n => if covN n &&& s = covN n then [n] else []
  | j + 1, n => if covN n &&& s = covN n then [n] else highM s j (2 * n) ++ highM s j (2 * n + 1)
noncomputable def maskL (s : Nat) : List Nat := ((List.range 8).map (8 + ·)).filter fun l => s.testBit (l - 8)
theorem cov_lca : ∀ n, n < 16 → 1 ≤ n → ∀ a, a < 16 → 8 ≤ a → (lca a n == n) = (covN n).testBit (a - 8) := by decide +kernel
theorem cov_low : ∀ n, n < 16 → 1 ≤ n → ∀ a, a < 16 → 8 ≤ a → (a == n || a / 2 == n || a / 4 == n || 1 == n) = (covN n).testBit (a - 8) := by decide +kernel
theorem cov_lt : ∀ n, n < 16 → covN n < 256 := by decide +kernel
theorem high_mask : ∀ s, s < 256 → highF ((maskL s).map fun (i : Nat) => (i : Int)) 3 1 = (highM s 3 1).map (fun (i : Nat) => (i : Int)) ∧ (highM s 3 1).all (fun i => decide (1 ≤ i) && decide (i ≤ 15)) = true := by decide +kernel
theorem covL_lt {ns : List Nat} (hn : Nodes ns) : covL ns < 256 := by
  induction ns with
  | nil => decide
  | cons n ns ih =>
    have h1 := cov_lt n (by have := hn n (.head _); omega)
    have h2 := ih fun a h => hn a (.tail _ h)
    exact Nat.or_lt_two_pow (n := 8) h1 h2
theorem any_cov {ns : List Nat} (hn : Nodes ns) {a : Nat} (h8 : 8 ≤ a) (h16 : a < 16) : (ns.any fun n => lca a n == n) = (covL ns).testBit (a - 8) := by
  induction ns with
  | nil => simp [covL]
  | cons n ns ih =>
    have hn1 := hn n (.head _)
    rw [List.any_cons, ih fun a h => hn a (.tail _ h), cov_lca n (by omega) hn1.1 a h16 h8]
    rw [show covL (n :: ns) = covN n ||| covL ns from rfl, Nat.testBit_or]
theorem low_cov {ns : List Nat} (hn : Nodes ns) {a : Nat} (h8 : 8 ≤ a) (h16 : a < 16) : (ns.contains a || ns.contains (a / 2) || ns.contains (a / 4) || ns.contains 1) = (covL ns).testBit (a - 8) := by
  induction ns with
  | nil => simp [covL]
  | cons n ns ih =>
    have hn1 := hn n (.head _)
    have e := cov_low n (by omega) hn1.1 a h16 h8
    have ih' := ih fun a h => hn a (.tail _ h)
    rw [show covL (n :: ns) = covN n ||| covL ns from rfl, Nat.testBit_or, ← ih', ← e]
    simp only [List.contains_cons]
    cases a == n <;> cases a / 2 == n <;> cases a / 4 == n <;> cases 1 == n <;> simp
theorem low_mask {ns : List Nat} (hn : Nodes ns) : lowN ns = maskL (covL ns) := by
  unfold lowN maskL
  refine List.filter_congr fun a ha => ?_
  obtain ⟨i, hi, rfl⟩ := List.mem_map.mp ha
  have := List.mem_range.mp hi
  exact low_cov hn (by omega) (by omega)
theorem low_mem {ns : List Nat} (hn : Nodes ns) {a : Nat} (h8 : 8 ≤ a) (h16 : a < 16) : (lowN ns).contains a = (covL ns).testBit (a - 8) := by
  rw [Bool.eq_iff_iff, List.contains_iff_mem, low_mask hn]
  unfold maskL
  rw [List.mem_filter]
  refine ⟨fun h => h.2, fun h => ⟨List.mem_map.mpr ⟨a - 8, List.mem_range.mpr (by omega), by omega⟩, h⟩⟩
theorem high_is {ns : List Nat} (hn : Nodes ns) : highI ns = (highM (covL ns) 3 1).map (fun (i : Nat) => (i : Int)) ∧ ∀ i ∈ highM (covL ns) 3 1, 1 ≤ i ∧ i ≤ 15 := by
  have h := high_mask (covL ns) (covL_lt hn)
  refine ⟨?_, fun i hi => ?_⟩
  · unfold highI
    rw [low_mask hn]
    exact h.1
  · have := List.all_eq_true.mp h.2 i hi
    simpa using this
noncomputable def rowOk (ns : List Nat) : Bool :=
  (keptN ns).all (fun a => decide (1 ≤ a) && decide (a ≤ 15)) && decide ((keptN ns).length ≤ 3) && decide (covL (keptN ns) = covL ns) && (highM (covL ns) 3 1).isPerm (keptN ns)
theorem rows0 : rowOk [] = true := by decide +kernel
theorem rows1 : ∀ a, a < 16 → 1 ≤ a → rowOk [a] = true := by decide +kernel
theorem rows2 : ∀ a, a < 16 → 1 ≤ a → ∀ b, b < 16 → 1 ≤ b → rowOk [a, b] = true := by decide +kernel
theorem rows3 : ∀ a, a < 16 → 1 ≤ a → ∀ b, b < 16 → 1 ≤ b → ∀ c, c < 16 → 1 ≤ c → rowOk [a, b, c] = true := by decide +kernel
theorem rows_ok : ∀ (ns : List Nat), Nodes ns → ns.length ≤ 3 → rowOk ns = true
  | [], _, _ => rows0
  | [a], h, _ => rows1 a (by have := h a (by simp); omega) (h a (by simp)).1
  | [a, b], h, _ => rows2 a (by have := h a (by simp); omega) (h a (by simp)).1 b (by have := h b (by simp); omega) (h b (by simp)).1
  | [a, b, c], h, _ => rows3 a (by have := h a (by simp); omega) (h a (by simp)).1 b (by have := h b (by simp); omega) (h b (by simp)).1 c (by have := h c (by simp); omega) (h c (by simp)).1
  | _ :: _ :: _ :: _ :: _, _, h => absurd h (by simp)
end
section
theorem strs_shaped {ss : List Str} (h : ss.all PyData.strOk = true) : SeqAt.shaped (.list (ss.map PyData.str)) = true := by
  simp [SeqAt.shaped, PyData.canLay0, PyData.depth, canLayAll_strs', depthAll_strs', h]
theorem same_strs : ∀ xs ys : List Str, PySem.Spec.sameAll (xs.map PyData.str) (ys.map PyData.str) = decide (xs = ys)
  | [], [] => by simp [PySem.Spec.sameAll]
  | [], _ :: _ => by simp [PySem.Spec.sameAll]
  | _ :: _, [] => by simp [PySem.Spec.sameAll]
  | a :: r, b :: t => by
    simp only [List.map_cons, PySem.Spec.sameAll, PySem.Spec.same, same_strs r t]
    by_cases h : a = b <;> by_cases h' : r = t <;> simp [h, h']
theorem strs_has : ∀ xs : List Str, (PySem.Spec.Shape.list .str).has (.list (xs.map PyData.str)) = true := fun _ => list_map_has fun _ => rfl
section
variable {prog : Program} {w : World} {A : Around} {E : Value → Shared → Prop} {s : Shared} {h₀ : Heap} {L a b : Addr} {news : List (Addr × Obj)} {vs us : List Value} {xs ys : List Str} {n n2 : Nat} {Q : Value → Shared → Prop}
theorem reads_strs (N : News h₀ L s.heap news) (ha : (a, listOf vs.toArray n) ∈ news) (hv : StrsAre vs xs) : Reads s.heap (.ref a) (.list (xs.map PyData.str)) [a] :=
  reads_list_at (N.get ha) rfl rfl (by simpa using hv.reads s.heap)
theorem eq_strs (N : News h₀ L s.heap news) (ha : (a, listOf vs.toArray n) ∈ news) (hb : (b, listOf us.toArray n2) ∈ news) (hv : StrsAre vs xs) (hu : StrsAre us ys) (ox : xs.all PyData.strOk = true) (oy : ys.all PyData.strOk = true) (hun : A.units + 64 < cLine)
    (h : Q (.bool (decide (xs = ys))) s) : wpAny (model prog w) A (compareOp .Eq (.ref a) (.ref b)) Q E s :=
  eq_dataH_same (reads_strs N ha hv) (reads_strs N hb hu) (strs_shaped ox) (strs_shaped oy) hun (SeqAt.noMix_of_shape (.list .str) rfl _ _ (strs_has _) (strs_has _)) (by simp only [PySem.Spec.same]; rw [same_strs]; exact h)
theorem ne_strs (N : News h₀ L s.heap news) (ha : (a, listOf vs.toArray n) ∈ news) (hb : (b, listOf us.toArray n2) ∈ news) (hv : StrsAre vs xs) (hu : StrsAre us ys) (ox : xs.all PyData.strOk = true) (oy : ys.all PyData.strOk = true) (hun : A.units + 64 < cLine)
    (h : Q (.bool (!decide (xs = ys))) s) : wpAny (model prog w) A (compareOp .NotEq (.ref a) (.ref b)) Q E s :=
  ne_dataH_same (reads_strs N ha hv) (reads_strs N hb hu) (strs_shaped ox) (strs_shaped oy) hun (SeqAt.noMix_of_shape (.list .str) rfl _ _ (strs_has _) (strs_has _)) (by simp only [PySem.Spec.same]; rw [same_strs]; exact h)
theorem eq_pairs {a1 a2 b1 b2 : Addr} {v1 v2 u1 u2 : List Value} {x1 x2 : List Str} {n1 n2 n3 n4 : Nat} (N : News h₀ L s.heap news) (ha : (a, tupObj #[.ref a1, .ref a2]) ∈ news) (hb : (b, tupObj #[.ref b1, .ref b2]) ∈ news)
    (h1 : (a1, listOf v1.toArray n1) ∈ news) (h2 : (a2, listOf v2.toArray n2) ∈ news) (h3 : (b1, listOf u1.toArray n3) ∈ news) (h4 : (b2, listOf u2.toArray n4) ∈ news) (s1 : StrsAre v1 x1) (s2 : StrsAre v2 x2) (s3 : StrsAre u1 x1) (s4 : StrsAre u2 x2)
    (o1 : x1.all PyData.strOk = true) (o2 : x2.all PyData.strOk = true) (hun : A.units + 64 < cLine)
    (h : Q (.bool true) s) : wpAny (model prog w) A (compareOp .Eq (.ref a) (.ref b)) Q E s := by
  have q1 : SeqAt.shaped (.tuple [.list (x1.map PyData.str), .list (x2.map PyData.str)]) = true := by
    simp [SeqAt.shaped, PyData.canLay0, PyData.canLayAll0, PyData.depth, PyData.depthAll, canLayAll_strs', depthAll_strs', o1, o2]
  refine eq_dataH_same (da := .tuple [.list (x1.map PyData.str), .list (x2.map PyData.str)]) (db := .tuple [.list (x1.map PyData.str), .list (x2.map PyData.str)])
    (reads_tuple_at (N.get ha) rfl rfl (.cons (reads_strs N h1 s1) (.cons (reads_strs N h2 s2) .nil))) (reads_tuple_at (N.get hb) rfl rfl (.cons (reads_strs N h3 s3) (.cons (reads_strs N h4 s4) .nil)))
    q1 q1 hun (SeqAt.noMix_of_shape (.tuple [.list .str, .list .str]) rfl _ _ ?_ ?_) (by rw [PySem.Spec.same_self]; exact h)
  all_goals
    show PySem.Spec.Shape.hasAll _ _ = true
    simp only [PySem.Spec.Shape.hasAll, strs_has]; rfl
theorem sort_strs {m : Str → Option Value} (F : Fr h₀ L s.heap m) (N : News h₀ L s.heap news) (ha : (a, listOf vs.toArray n) ∈ news) (hv : StrsAre vs xs) (hlen : xs.length < 64)
    (h : ∀ D (h' : Heap) (ws : List Value) (zs : List Str) (e : Nat), Fr h₀ L h' m → News h₀ L h' ((D, listOf ws.toArray e) :: news) → (∀ p ∈ news, p.1 < D) → StrsAre ws zs → zs.Perm xs → sortedS zs = true → Q (.ref D) { s with heap := h' }) :
    wpAny (model prog w) A (call (.builtin "sorted") [.ref a]) Q E s :=
  sorted_N_str F N (at_list N ha) hv (by rw [strsAre_len hv]; exact hlen) fun h' ws zs e F' N' hs hp ho => h _ h' ws zs e F' N' (fun p hp => Nat.lt_succ_of_lt (Heap.lt_size (N p hp).1)) hs hp ho
end
end
section
noncomputable def CompSt (prog : Program) (w : World) (A : Around) (env : Env) (scope : Scope) (cl : List (Str × Addr)) (x : Str) (ifs : List Expr) (elt : Expr) (p : Value → Bool) (G : Value → Value → Prop) (y : Str) (Q : Flow → Shared → Prop) (E : Value → Shared → Prop) (xv : Value) (s : Shared) : Prop :=
  wpAny (model prog w) A (pyIter xv) (fun it s₂ => ∃ I fp wr n P St m, it = .ref I ∧ Walks prog w A I fp wr n P St ∧ n ≤ sizeLine ∧ St 0 s₂.heap ∧ (∀ b ∈ fp, b < s₂.heap.objs.size) ∧
      env.locals ∉ wr ∧ s₂.heap.Ns env.locals m ∧ QuietOnC prog w A env scope cl x ifs elt wr P p G s₂ ∧
      (∀ D h' tk ys (vs : List Value), s₂.heap.get? D = none → h'.IsList D ys → h'.PlainList D ys → vs.length = n → (∀ j v, vs[j]? = some v → P j v) → Paired G (vs.filter p) ys.toList →
        h'.Ns env.locals (fun z => if z = y then some (.ref D) else m z) → (∀ b o, b ≠ env.locals → b ∉ wr → s₂.heap.get? b = some o → h'.get? b = some o) → Q .next { s₂ with heap := h', toks := tk })) E s
theorem fr_stored {h₀ h h' : Heap} {L : Addr} {m m' : Str → Option Value} (F : Fr h₀ L h m) (k : ∀ b o, b ≠ L → h.get? b = some o → h'.get? b = some o) (hns : h'.Ns L m') : Fr h₀ L h' m' :=
  ⟨hns, fun b o e => k b o (fun q => by rw [q, Heap.get?_none_of_le F.above] at e; cases e) (F.keep b o e), F.above⟩
theorem news_stored {h₀ h h' : Heap} {L : Addr} {m : Str → Option Value} {news : List (Addr × Obj)} {l : Addr} {o : Obj} (F : Fr h₀ L h m) (N : News h₀ L h news) (k : ∀ b o, b ≠ L → h.get? b = some o → h'.get? b = some o)
    (hl : h.get? l = none) (ho : h'.get? l = some o) : News h₀ L h' ((l, o) :: news) := by
  intro p hp
  rcases List.mem_cons.mp hp with rfl | hp
  · refine ⟨ho, ?_, ?_⟩
    · rintro rfl
      obtain ⟨_, _, _, hL, _⟩ := F.ns
      rw [hL] at hl; cases hl
    · cases q : h₀.get? l with
      | none => rfl
      | some o' => rw [F.keep _ _ q] at hl; cases hl
  · exact ⟨k _ _ (N p hp).2.1 (N p hp).1, (N p hp).2⟩
section
variable {prog : Program} {w : World} {A : Around} {E : Value → Shared → Prop} {s : Shared} {h₀ : Heap} {L : Addr} {m : Str → Option Value} {news : List (Addr × Obj)} {env : Env} {scope : Scope} {cl : List (Str × Addr)} {x y : Str} {ifs : List Expr} {elt : Expr} {Q : Flow → Shared → Prop}
/-- the source is a list of the ledger's -/
theorem comp_list_s {l : Addr} {vs : List Value} {nn : Nat} (p : Value → Bool) (G : Value → Value → Prop) (hh : A.handled = none) (hL : env.locals = L) (F : Fr h₀ L s.heap m) (N : News h₀ L s.heap news) (hl : (l, listOf vs.toArray nn) ∈ news) (hz : vs.length ≤ sizeLine)
    (test : ∀ (C : Addr) (s₃ : Shared) (v : Value) (m₃ : Str → Option Value) (E' : Value → Shared → Prop), v ∈ vs → Fr (hid s.heap news) C s₃.heap (fun y => if y = x then some v else m₃ y) → News (hid s.heap news) C s₃.heap news → Kp h₀ (hid s.heap news) →
      wpAny (model prog w) A (testsOf ifs (compEnvC scope cl C env)) (fun ok s₄ => ok = p v ∧ Keeps s₃ s₄) E' s₃)
    (el : ∀ (C : Addr) (s₃ : Shared) (v : Value) (m₃ : Str → Option Value) (E' : Value → Shared → Prop), v ∈ vs → p v = true → Fr (hid s.heap news) C s₃.heap (fun y => if y = x then some v else m₃ y) → News (hid s.heap news) C s₃.heap news → Kp h₀ (hid s.heap news) →
      wpAny (model prog w) A (eval elt (compEnvC scope cl C env)) (fun y s₄ => G v y ∧ Keeps s₃ s₄) E' s₃)
    (done : ∀ D n' ws h' tk, Paired G (vs.filter p) ws → Fr h₀ L h' (fun z => if z = y then some (.ref D) else m z) → News h₀ L h' ((D, listOf (List.toArray ws) n') :: news) → (∀ p ∈ news, p.1 ≠ D) → Q .next { s with heap := h', toks := tk }) :
    CompSt prog w A env scope cl x ifs elt p G y Q E (.ref l) s := by
  unfold CompSt
  subst hL
  have hol : s.heap.get? l = some (listOf vs.toArray nn) := (N _ hl).1
  have hls : s.heap.IsList l vs.toArray := ⟨_, hol, rfl, nn, rfl⟩
  have hne : l ≠ s.heap.objs.size := Nat.ne_of_lt (Heap.lt_size hol)
  refine wpAny_pyIter_list hls ?_
  have W := Walks.list (prog := prog) (w := w) hh s.heap.objs.size l hne vs.toArray
  have k₂ : Kp s.heap (s.heap.push { cls := .type "list_iterator", data := .fields #[.ref l, .int 0 0] }) := fun b o e => Heap.get?_push_of_some _ e
  have hwr : ∀ b ∈ [s.heap.objs.size], s.heap.objs.size ≤ b := fun b hb => by rw [List.mem_singleton.mp hb]; exact Nat.le_refl _
  have hin : ∀ (i : Nat) (v : Value), vs.toArray[i]? = some v → v ∈ vs := fun i v e => List.mem_of_getElem? (i := i) (by simpa using e)
  refine ⟨_, _, _, _, _, _, m, rfl, W, by simpa using hz, ⟨⟨_, Heap.get?_push_size _ rfl, rfl, rfl⟩, hls.at fun o e => Heap.get?_push_of_some _ e⟩, ?_, fun hb => Nat.ne_of_lt F.ns.lt (List.mem_singleton.mp hb), (F.push _).ns, ⟨?_, ?_⟩, ?_⟩
  · intro b hb
    rw [Heap.size_push]
    rcases List.mem_cons.mp hb with rfl | hb
    · exact Nat.lt_succ_self _
    · rw [List.mem_singleton.mp hb]; exact Nat.lt_succ_of_lt (Heap.lt_size hol)
  · rintro C i v s₃ m₃ E' hC hP hns hx k₃ htk
    have hC' : s.heap.objs.size ≤ C := Nat.le_trans (Nat.le_succ _) (by rw [Heap.size_push] at hC; exact hC)
    obtain ⟨F₁, N₁, k₁⟩ := block_ground F N k₂ hwr hC' hns hx k₃
    exact test C s₃ v m₃ E' (hin i v hP) F₁ N₁ k₁
  · rintro C i v s₃ m₃ E' hC hP hpv hns hx k₃ htk
    have hC' : s.heap.objs.size ≤ C := Nat.le_trans (Nat.le_succ _) (by rw [Heap.size_push] at hC; exact hC)
    obtain ⟨F₁, N₁, k₁⟩ := block_ground F N k₂ hwr hC' hns hx k₃
    exact el C s₃ v m₃ E' (hin i v hP) hpv F₁ N₁ k₁
  · intro D h' tk ys us hD _ hpl hlen hP hpair hns' k₃
    have keep : ∀ b o, b ≠ env.locals → s.heap.get? b = some o → h'.get? b = some o := fun b o hb e => k₃ b o hb (fun q => Nat.lt_irrefl _ (Nat.lt_of_lt_of_le (Heap.lt_size e) (hwr b q))) (k₂ b o e)
    have hus : us = vs := by
      apply List.ext_getElem?
      intro j
      by_cases hj : j < us.length
      · have e := hP j us[j] (by simp [hj])
        have e' : vs[j]? = some us[j] := by simpa using e
        rw [e']; simp [hj]
      · have h1 : us[j]? = none := by simp; omega
        have h2 : vs[j]? = none := by simp at hlen ⊢; omega
        rw [h1, h2]
    subst hus
    obtain ⟨n', hn'⟩ := hpl
    have hDs : s.heap.get? D = none := by
      cases q : s.heap.get? D with
      | none => rfl
      | some o => have := k₂ D o q; rw [hD] at this; cases this
    refine done D n' ys.toList h' tk hpair (fr_stored F keep hns') (news_stored F N keep hDs (by simpa using hn')) (fun p hp => ?_)
    intro e
    rw [← e, (N p hp).1] at hDs
    cases hDs
/-- the source is a range by ones -/
theorem comp_range_s {r : Addr} {a b : Int} {t₀ u₀ v₀ : Tok} {k : Nat} (p : Value → Bool) (G : Value → Value → Prop) (hh : A.handled = none) (hL : env.locals = L) (F : Fr h₀ L s.heap m) (N : News h₀ L s.heap news) (hr : IsRange s.heap r a b 1 t₀ u₀ v₀) (hk : b = a + k) (hz : k ≤ 1000) (ha : 0 ≤ a) (hb : b ≤ 1000000)
    (test : ∀ (C : Addr) (s₃ : Shared) (i : Nat) (tv : Tok) (m₃ : Str → Option Value) (E' : Value → Shared → Prop), i < k → Fr (hid s.heap news) C s₃.heap (fun y => if y = x then some (.int (a + i) tv) else m₃ y) → News (hid s.heap news) C s₃.heap news → Kp h₀ (hid s.heap news) →
      wpAny (model prog w) A (testsOf ifs (compEnvC scope cl C env)) (fun ok s₄ => ok = p (.int (a + i) tv) ∧ Keeps s₃ s₄) E' s₃)
    (el : ∀ (C : Addr) (s₃ : Shared) (i : Nat) (tv : Tok) (m₃ : Str → Option Value) (E' : Value → Shared → Prop), i < k → p (.int (a + i) tv) = true → Fr (hid s.heap news) C s₃.heap (fun y => if y = x then some (.int (a + i) tv) else m₃ y) → News (hid s.heap news) C s₃.heap news → Kp h₀ (hid s.heap news) →
      wpAny (model prog w) A (eval elt (compEnvC scope cl C env)) (fun y s₄ => G (.int (a + i) tv) y ∧ Keeps s₃ s₄) E' s₃)
    (done : ∀ D n' us ws h' tk, IntsAre us ((List.range k).map fun (i : Nat) => a + (i : Int)) → Paired G (us.filter p) ws → Fr h₀ L h' (fun z => if z = y then some (.ref D) else m z) → News h₀ L h' ((D, listOf (List.toArray ws) n') :: news) → (∀ p ∈ news, p.1 ≠ D) → Q .next { s with heap := h', toks := tk }) :
    CompSt prog w A env scope cl x ifs elt p G y Q E (.ref r) s := by
  unfold CompSt
  subst hL
  subst hk
  have hsz : Builtin.Range.rangeSize a (a + (k : Int)) 1 = (k : Int) := by rw [rangeSize_one]; split <;> omega
  refine wpAny_pyIter_range hr (small_one (by omega) (by omega) (by omega) (by omega)) ?_
  rw [hsz]
  have W₀ := Walks.range (prog := prog) (w := w) hh s.heap.objs.size a 1 k
  have W : Walks prog w A s.heap.objs.size [s.heap.objs.size] [s.heap.objs.size] k (fun i v => i < k ∧ ∃ t, v = .int (a + (i : Int)) t) (fun i h => IsRangeIter h s.heap.objs.size (a + ((i : Nat) : Int) * 1) ((k : Int) - ((i : Nat) : Int)) 1) :=
    ⟨W₀.sub, W₀.frame, fun i s Q E hi st hQ => W₀.item i s Q E hi st fun v h' tk hP st' kk => hQ v h' tk ⟨hi, by obtain ⟨t, e⟩ := hP; exact ⟨t, by rw [e, Int.mul_one]⟩⟩ st' kk, W₀.done, W₀.self⟩
  have k₂ : Kp s.heap (s.heap.push { cls := .type "range_iterator", data := .fields #[rawInt a, rawInt (k : Int), rawInt 1] }) := fun b o e => Heap.get?_push_of_some _ e
  have hwr : ∀ b ∈ [s.heap.objs.size], s.heap.objs.size ≤ b := fun b hb => by rw [List.mem_singleton.mp hb]; exact Nat.le_refl _
  refine ⟨_, _, _, _, _, _, m, rfl, W, Nat.le_trans hz (by rw [sizeLine_eq]; omega), ?_, ?_, fun hb => Nat.ne_of_lt F.ns.lt (List.mem_singleton.mp hb), (F.push _).ns, ⟨?_, ?_⟩, ?_⟩
  · show IsRangeIter _ _ _ _ _
    have e1 : a + ((0 : Nat) : Int) * 1 = a := by omega
    have e2 : (k : Int) - ((0 : Nat) : Int) = k := by omega
    rw [e1, e2]
    exact Heap.get?_push_size _ rfl
  · intro b hb
    rw [Heap.size_push, List.mem_singleton.mp hb]
    exact Nat.lt_succ_self _
  · rintro C i v s₃ m₃ E' hC ⟨hi, tv, rfl⟩ hns hx k₃ htk
    have hC' : s.heap.objs.size ≤ C := Nat.le_trans (Nat.le_succ _) (by rw [Heap.size_push] at hC; exact hC)
    obtain ⟨F₁, N₁, k₁⟩ := block_ground F N k₂ hwr hC' hns hx k₃
    exact test C s₃ i tv m₃ E' hi F₁ N₁ k₁
  · rintro C i v s₃ m₃ E' hC ⟨hi, tv, rfl⟩ hpv hns hx k₃ htk
    have hC' : s.heap.objs.size ≤ C := Nat.le_trans (Nat.le_succ _) (by rw [Heap.size_push] at hC; exact hC)
    obtain ⟨F₁, N₁, k₁⟩ := block_ground F N k₂ hwr hC' hns hx k₃
    exact el C s₃ i tv m₃ E' hi hpv F₁ N₁ k₁
  · intro D h' tk ys us hD _ hpl hlen hP hpair hns' k₃
    have keep : ∀ b o, b ≠ env.locals → s.heap.get? b = some o → h'.get? b = some o := fun b o hb e => k₃ b o hb (fun q => Nat.lt_irrefl _ (Nat.lt_of_lt_of_le (Heap.lt_size e) (hwr b q))) (k₂ b o e)
    obtain ⟨n', hn'⟩ := hpl
    have hDs : s.heap.get? D = none := by
      cases q : s.heap.get? D with
      | none => rfl
      | some o => have := k₂ D o q; rw [hD] at this; cases this
    refine done D n' us ys.toList h' tk (ints_of_get (by simpa using hlen) fun j v hj => ?_) hpair (fr_stored F keep hns') (news_stored F N keep hDs (by simpa using hn')) (fun p hp => ?_)
    · obtain ⟨h1, t, e⟩ := hP j v hj
      exact ⟨a + (j : Int), t, e, by simp [h1]⟩
    · intro e
      rw [← e, (N p hp).1] at hDs
      cases hDs

theorem lc_assign {iter : Expr} {px py pos spos : Pos} (p : Value → Bool) (G : Value → Value → Prop) (hsw : swapsWith (.ListComp elt [⟨.Name x px, iter, ifs, 0⟩] scope pos) (some (.Name y py)) spos.line env = pure true)
    (hclos : closureFor scope env = pure cl) (hcell : ∀ z ∈ scope.names, z.2 ≠ .cell) (hkind : scope.kind = .function)
    (hnames : ∀ z ∈ scope.names, z.2 = .local → scope.names.lookup z.1 = some .local) (hx : scope.names.lookup x = some .local)
    (hy : env.kindOf y = some .local) (hp : (env.scope.kind == .class || (env.scope.kind == .module && env.locals != env.globals)) = false)
    (h : wpAny (model prog w) A (eval iter env) (fun xv s₁ => CompSt prog w A env scope cl x ifs elt p G y Q E xv s₁) E s) (hs : ∀ x, foldedSetIterable iter env x = pure x) :
    wpAny (model prog w) A (exec (.Assign [.Name y py] (.ListComp elt [⟨.Name x px, iter, ifs, 0⟩] scope pos) spos) env) Q E s := wpAny_Assign_ListComp_free p G hsw hclos hcell hkind hnames hx hy hp h hs
end

section
variable {prog : Program} {w : World} {A : Around} {E : Value → Shared → Prop} {s : Shared} {h₀ : Heap} {L : Addr} {m : Str → Option Value} {news : List (Addr × Obj)} {env : Env} {scope : Scope} {cl : List (Str × Addr)} {x : Str} {ifs : List Expr} {elt : Expr} {Q : Value → Shared → Prop}
/-- the source is a list of the ledger's -/
theorem comp_listK {l : Addr} {vs : List Value} {nn : Nat} (p : Value → Bool) (G : Value → Value → Prop) (hh : A.handled = none) (F : Fr h₀ L s.heap m) (N : News h₀ L s.heap news) (hl : (l, listOf vs.toArray nn) ∈ news) (hz : vs.length ≤ sizeLine)
    (test : ∀ (C : Addr) (s₃ : Shared) (v : Value) (m₃ : Str → Option Value) (E' : Value → Shared → Prop), v ∈ vs → Fr (hid s.heap news) C s₃.heap (fun y => if y = x then some v else m₃ y) → News (hid s.heap news) C s₃.heap news → Kp h₀ (hid s.heap news) →
      wpAny (model prog w) A (testsOf ifs (compEnvC scope cl C env)) (fun ok s₄ => ok = p v ∧ Keeps s₃ s₄) E' s₃)
    (el : ∀ (C : Addr) (s₃ : Shared) (v : Value) (m₃ : Str → Option Value) (E' : Value → Shared → Prop), v ∈ vs → p v = true → Fr (hid s.heap news) C s₃.heap (fun y => if y = x then some v else m₃ y) → News (hid s.heap news) C s₃.heap news → Kp h₀ (hid s.heap news) →
      wpAny (model prog w) A (eval elt (compEnvC scope cl C env)) (fun y s₄ => G v y ∧ Keeps s₃ s₄) E' s₃)
    (done : ∀ D n' ws h' tk, Paired G (vs.filter p) ws → Fr h₀ L h' m → News h₀ L h' ((D, listOf (List.toArray ws) n') :: news) → (∀ p ∈ news, p.1 ≠ D) → Kp s.heap h' → Q (.ref D) { s with heap := h', toks := tk }) :
    CompAt prog w A env scope cl x ifs elt p G Q E (.ref l) s := by
  unfold CompAt
  have hol : s.heap.get? l = some (listOf vs.toArray nn) := (N _ hl).1
  have hls : s.heap.IsList l vs.toArray := ⟨_, hol, rfl, nn, rfl⟩
  have hne : l ≠ s.heap.objs.size := Nat.ne_of_lt (Heap.lt_size hol)
  refine wpAny_pyIter_list hls ?_
  have W := Walks.list (prog := prog) (w := w) hh s.heap.objs.size l hne vs.toArray
  have k₂ : Kp s.heap (s.heap.push { cls := .type "list_iterator", data := .fields #[.ref l, .int 0 0] }) := fun b o e => Heap.get?_push_of_some _ e
  have hwr : ∀ b ∈ [s.heap.objs.size], s.heap.objs.size ≤ b := fun b hb => by rw [List.mem_singleton.mp hb]; exact Nat.le_refl _
  have hin : ∀ (i : Nat) (v : Value), vs.toArray[i]? = some v → v ∈ vs := fun i v e => List.mem_of_getElem? (i := i) (by simpa using e)
  refine ⟨_, _, _, _, _, _, rfl, W, by simpa using hz, ⟨⟨_, Heap.get?_push_size _ rfl, rfl, rfl⟩, hls.at fun o e => Heap.get?_push_of_some _ e⟩, ?_, ⟨?_, ?_⟩, ?_⟩
  · intro b hb
    rw [Heap.size_push]
    rcases List.mem_cons.mp hb with rfl | hb
    · exact Nat.lt_succ_self _
    · rw [List.mem_singleton.mp hb]; exact Nat.lt_succ_of_lt (Heap.lt_size hol)
  · rintro C i v s₃ m₃ E' hC hP hns hx k₃ htk
    have hC' : s.heap.objs.size ≤ C := Nat.le_trans (Nat.le_succ _) (by rw [Heap.size_push] at hC; exact hC)
    obtain ⟨F₁, N₁, k₁⟩ := block_ground F N k₂ hwr hC' hns hx k₃
    exact test C s₃ v m₃ E' (hin i v hP) F₁ N₁ k₁
  · rintro C i v s₃ m₃ E' hC hP hpv hns hx k₃ htk
    have hC' : s.heap.objs.size ≤ C := Nat.le_trans (Nat.le_succ _) (by rw [Heap.size_push] at hC; exact hC)
    obtain ⟨F₁, N₁, k₁⟩ := block_ground F N k₂ hwr hC' hns hx k₃
    exact el C s₃ v m₃ E' (hin i v hP) hpv F₁ N₁ k₁
  · intro D h' tk ys us hD _ hpl hlen hP hpair k₃
    have keep : Kp s.heap h' := fun b o e => k₃ b o (fun q => Nat.lt_irrefl _ (Nat.lt_of_lt_of_le (Heap.lt_size e) (hwr b q))) (k₂ b o e)
    have hus : us = vs := by
      apply List.ext_getElem?
      intro j
      by_cases hj : j < us.length
      · have e := hP j us[j] (by simp [hj])
        have e' : vs[j]? = some us[j] := by simpa using e
        rw [e']; simp [hj]
      · have h1 : us[j]? = none := by simp; omega
        have h2 : vs[j]? = none := by simp at hlen ⊢; omega
        rw [h1, h2]
    subst hus
    obtain ⟨n', hn'⟩ := hpl
    have hDs : s.heap.get? D = none := by
      cases q : s.heap.get? D with
      | none => rfl
      | some o => have := k₂ D o q; rw [hD] at this; cases this
    refine done D n' ys.toList h' tk hpair (fr_keep F keep) (news_new F N keep hDs (by simpa using hn')) (fun p hp => ?_) keep
    intro e
    rw [← e, (N p hp).1] at hDs
    cases hDs
end
end
section
noncomputable def lawDef : List Stmt × Scope := match PySem.Challenge.pw_pd0169_01.main.body.getLast? with
  | some (.FunctionDef _ _ body _ _ _ scope _ _ _) => (body, scope)
  | _ => ([], { kind := .module, names := [], isGenerator := false, isCoroutine := false, more := [] })
noncomputable abbrev lawBody : List Stmt := lawDef.1
noncomputable def lawScope : Scope := lawDef.2
noncomputable def rowBody : List Stmt := match (lawBody[5]? : Option Stmt) with
  | some (Stmt.For _ _ body _ _) => body
  | _ => []
noncomputable def rs (i : Nat) : Stmt := rowBody.getD i (.Pass ⟨0, 0, 0, 0⟩)
noncomputable def ls (i : Nat) : Stmt := lawBody.getD i (.Pass ⟨0, 0, 0, 0⟩)
noncomputable abbrev lawEnv (L fa : Addr) (cd : Value) : Env := envOfC (Str.ofString "law") lawScope L fa cd
noncomputable def cellsOf (L : Addr) : List Addr := [L + 1, L + 1 + 1, L + 1 + 1 + 1, L + 1 + 1 + 1 + 1, L + 1 + 1 + 1 + 1 + 1]
/-- the law's five cells: kept, plain, nodes, dues, paths -/
noncomputable abbrev cells5 (L : Addr) (o5 o4 o3 o2 o1 : Obj) (rest : List (Addr × Obj)) : List (Addr × Obj) := (L + 1 + 1 + 1 + 1 + 1, o5) :: (L + 1 + 1 + 1 + 1, o4) :: (L + 1 + 1 + 1, o3) :: (L + 1 + 1, o2) :: (L + 1, o1) :: rest
theorem own_new {L D : Addr} {o5 o4 o3 o2 o1 o : Obj} {rest : List (Addr × Obj)} (h : ∀ p ∈ cells5 L o5 o4 o3 o2 o1 rest, p.1 ≠ D) (off : OwnOff rest (cellsOf L)) : OwnOff ((D, o) :: rest) (cellsOf L) := by
  intro p hp b hb
  rcases List.mem_cons.mp hp with rfl | hp
  · simp only [cellsOf, List.mem_cons, List.not_mem_nil, or_false] at hb
    rcases hb with rfl | rfl | rfl | rfl | rfl
    · exact fun e => h (L + 1, o1) (by k_mem) e.symm
    · exact fun e => h (L + 1 + 1, o2) (by k_mem) e.symm
    · exact fun e => h (L + 1 + 1 + 1, o3) (by k_mem) e.symm
    · exact fun e => h (L + 1 + 1 + 1 + 1, o4) (by k_mem) e.symm
    · exact fun e => h (L + 1 + 1 + 1 + 1 + 1, o5) (by k_mem) e.symm
  · exact off p hp b hb
theorem own_lt {L D : Addr} {o : Obj} {rest : List (Addr × Obj)} (h : L + 1 + 1 + 1 + 1 + 1 < D ∧ L + 1 + 1 + 1 + 1 < D ∧ L + 1 + 1 + 1 < D ∧ L + 1 + 1 < D ∧ L + 1 < D ∧ AllLt D rest) (off : OwnOff rest (cellsOf L)) : OwnOff ((D, o) :: rest) (cellsOf L) := by
  obtain ⟨a5, a4, a3, a2, a1, _⟩ := h
  intro p hp b hb
  rcases List.mem_cons.mp hp with rfl | hp
  · simp only [cellsOf, List.mem_cons, List.not_mem_nil, or_false] at hb
    rcases hb with rfl | rfl | rfl | rfl | rfl
    · exact Nat.ne_of_gt a1
    · exact Nat.ne_of_gt a2
    · exact Nat.ne_of_gt a3
    · exact Nat.ne_of_gt a4
    · exact Nat.ne_of_gt a5
  · exact off p hp b hb
theorem ne5 {L D : Addr} {o5 o4 o3 o2 o1 : Obj} {rest : List (Addr × Obj)} (h : ∀ p ∈ cells5 L o5 o4 o3 o2 o1 rest, p.1 ≠ D) : L + 1 ≠ D ∧ L + 1 + 1 ≠ D ∧ L + 1 + 1 + 1 ≠ D ∧ L + 1 + 1 + 1 + 1 ≠ D ∧ L + 1 + 1 + 1 + 1 + 1 ≠ D :=
  ⟨h (L + 1, o1) (by k_mem), h (L + 1 + 1, o2) (by k_mem), h (L + 1 + 1 + 1, o3) (by k_mem), h (L + 1 + 1 + 1 + 1, o4) (by k_mem), h (L + 1 + 1 + 1 + 1 + 1, o5) (by k_mem)⟩
theorem news_in {h₀ h : Heap} {L : Addr} {a : Addr × Obj} {o5 o4 o3 o2 o1 : Obj} {rest : List (Addr × Obj)} (N : News h₀ L h (a :: cells5 L o5 o4 o3 o2 o1 rest)) : News h₀ L h (cells5 L o5 o4 o3 o2 o1 (a :: rest)) := by
  intro p hp
  refine N p ?_
  simp only [cells5, List.mem_cons] at hp ⊢
  rcases hp with h | h | h | h | h | h | h
  all_goals simp only [h, true_or, or_true]
theorem sub_cons {α : Type} {a : α} {r b : List α} (h : a ∈ b) (k : ∀ p ∈ r, p ∈ b) : ∀ p ∈ a :: r, p ∈ b := fun p hp => by
  rcases List.mem_cons.mp hp with rfl | hp
  · exact h
  · exact k p hp
theorem all_cons {α : Type} {P : α → Prop} {a : α} {b : List α} (h : P a) (k : ∀ p ∈ b, P p) : ∀ p ∈ a :: b, P p := fun p hp => by
  rcases List.mem_cons.mp hp with rfl | hp
  · exact h
  · exact k p hp
theorem all_app {α : Type} {P : α → Prop} {a b : List α} (h : ∀ p ∈ a, P p) (k : ∀ p ∈ b, P p) : ∀ p ∈ a ++ b, P p := fun p hp => (List.mem_append.mp hp).elim (h p) (k p)
theorem cells5_sub {L : Addr} {o5 o4 o3 o2 o1 : Obj} {a b : List (Addr × Obj)} (h : ∀ p ∈ a, p ∈ b) : ∀ p ∈ cells5 L o5 o4 o3 o2 o1 a, p ∈ cells5 L o5 o4 o3 o2 o1 b :=
  sub_cons (.head _) (sub_cons (.tail _ (.head _)) (sub_cons (.tail _ (.tail _ (.head _))) (sub_cons (.tail _ (.tail _ (.tail _ (.head _)))) (sub_cons (.tail _ (.tail _ (.tail _ (.tail _ (.head _))))) fun p hp => .tail _ (.tail _ (.tail _ (.tail _ (.tail _ (h p hp)))))))))
theorem cells5_rest {L : Addr} {o5 o4 o3 o2 o1 : Obj} {a : List (Addr × Obj)} {p : Addr × Obj} (h : p ∈ a) : p ∈ cells5 L o5 o4 o3 o2 o1 a := .tail _ (.tail _ (.tail _ (.tail _ (.tail _ h))))
theorem cells5_adr {L : Addr} {o5 o4 o3 o2 o1 : Obj} {a : List (Addr × Obj)} {P : Addr → Prop} (hc : ∀ b ∈ cellsOf L, P b) (hr : ∀ q ∈ a, P q.1) : ∀ q ∈ cells5 L o5 o4 o3 o2 o1 a, P q.1 :=
  all_cons (P := fun q : Addr × Obj => P q.1) (hc _ (by simp [cellsOf])) (all_cons (P := fun q : Addr × Obj => P q.1) (hc _ (by simp [cellsOf])) (all_cons (P := fun q : Addr × Obj => P q.1) (hc _ (by simp [cellsOf])) (all_cons (P := fun q : Addr × Obj => P q.1) (hc _ (by simp [cellsOf])) (all_cons (P := fun q : Addr × Obj => P q.1) (hc _ (by simp [cellsOf])) hr))))
theorem cells5_own {L : Addr} {o5 o4 o3 o2 o1 : Obj} {a own : List (Addr × Obj)} (h : OwnOff own ((cells5 L o5 o4 o3 o2 o1 a).map (·.1))) : OwnOff own (cellsOf L) := by
  intro p hp b hb
  refine h p hp b ?_
  simp only [cellsOf, List.mem_cons, List.not_mem_nil, or_false] at hb
  simp only [cells5, List.map_cons, List.mem_cons]
  rcases hb with e | e | e | e | e <;> simp only [e, true_or, or_true]
theorem own_adr {own : List (Addr × Obj)} {nx : List (Addr × Obj)} (h : ∀ p ∈ own, ∀ q ∈ nx, p.1 ≠ q.1) : OwnOff own (nx.map (·.1)) := fun p hp b hb => by
  obtain ⟨q, hq, rfl⟩ := List.mem_map.mp hb
  exact h p hp q hq
theorem adr_own {own : List (Addr × Obj)} {nx : List (Addr × Obj)} (h : OwnOff own (nx.map (·.1))) {p q : Addr × Obj} (hp : p ∈ own) (hq : q ∈ nx) : p.1 ≠ q.1 := h p hp _ (List.mem_map_of_mem hq)
theorem news_pre3 {h₀ h : Heap} {L : Addr} {x y z : Addr × Obj} {o5 o4 o3 o2 o1 : Obj} {rest : List (Addr × Obj)} (N : News h₀ L h (x :: y :: z :: cells5 L o5 o4 o3 o2 o1 rest)) : News h₀ L h (cells5 L o5 o4 o3 o2 o1 (x :: y :: z :: rest)) := by
  intro p hp
  refine N p ?_
  simp only [cells5, List.mem_cons] at hp ⊢
  rcases hp with h | h | h | h | h | h | h | h | h
  all_goals simp only [h, true_or, or_true]
noncomputable def ElEnd (G : Value → Value → Prop) (v : Value) (s₃ : Shared) (y : Value) (s₄ : Shared) : Prop := G v y ∧ Keeps s₃ s₄
theorem el_in {M : Model} {A : Around} {t : Sem Value} {G : Value → Value → Prop} {v : Value} {s₃ s : Shared} {E : Value → Shared → Prop} (h : wpAny M A t (fun y s₄ => ElEnd G v s₃ y s₄) E s) : wpAny M A t (fun y s₄ => G v y ∧ Keeps s₃ s₄) E s := h
theorem el_out {G : Value → Value → Prop} {v y : Value} {s₃ : Shared} {h' : Heap} {tk : Nat} (g : G v y) (k : Kp s₃.heap h') : ElEnd G v s₃ y { s₃ with heap := h', toks := tk } := ⟨g, h', tk, rfl, k⟩
noncomputable def nodeZ (x : Int) : Int := Int.fmod (Int.fdiv x 3) 15 + 1
theorem filter_all {α : Type} (l : List α) : l.filter (fun _ => true) = l := List.filter_eq_self.mpr fun _ _ => rfl
noncomputable abbrev IntTo (f : Int → Int) (v y : Value) : Prop := ∀ x t, v = .int x t → ∃ t', y = .int (f x) t'
theorem paired_ints {f : Int → Int} {us : List Value} {ns : List Int} (h : IntsAre us ns) : ∀ {ws : List Value}, Paired (IntTo f) us ws → IntsAre ws (ns.map f) := by
  induction h with
  | nil => intro ws h; cases h; exact .nil
  | cons x t r ih =>
    intro ws h
    cases h with
    | cons e k =>
      obtain ⟨t', rfl⟩ := e x t rfl
      exact .cons _ _ (ih k)
theorem ints_mem {us : List Value} {ns : List Int} (h : IntsAre us ns) {v : Value} (hv : v ∈ us) : ∃ y t, v = .int y t ∧ y ∈ ns := by
  induction h with
  | nil => cases hv
  | cons x t r ih =>
    rcases List.mem_cons.mp hv with rfl | hv
    · exact ⟨x, t, rfl, .head _⟩
    · obtain ⟨y, t', e, hy⟩ := ih hv
      exact ⟨y, t', e, .tail _ hy⟩
/-- the nodes' numbers as a list of the ledger's -/
noncomputable abbrev natsI (ks : List Nat) : List Int := ks.map fun (i : Nat) => (i : Int)
noncomputable def lowQ (zs : List Int) (z : Int) : Bool := zs.contains z || zs.contains (z.fdiv 2) || zs.contains (z.fdiv 4) || zs.contains 1
theorem mem_natsI {ks : List Nat} {a : Nat} : (natsI ks).contains (a : Int) = ks.contains a := by
  rw [Bool.eq_iff_iff, List.contains_iff_mem, List.contains_iff_mem, List.mem_map]
  constructor
  · rintro ⟨b, hb, e⟩
    have : b = a := by omega
    exact this ▸ hb
  · exact fun h => ⟨a, h, rfl⟩
theorem low_eq (ks : List Nat) : ((List.range 8).map fun (i : Nat) => (8 : Int) + (i : Int)).filter (lowQ (natsI ks)) = natsI (lowN ks) := by
  unfold lowN
  generalize List.range 8 = l
  induction l with
  | nil => rfl
  | cons a l ih =>
    have e : lowQ (natsI ks) (8 + (a : Int)) = (ks.contains (8 + a) || ks.contains ((8 + a) / 2) || ks.contains ((8 + a) / 4) || ks.contains 1) := by
      unfold lowQ
      have e1 : (8 : Int) + (a : Int) = ((8 + a : Nat) : Int) := by omega
      have e2 : ((8 + a : Nat) : Int).fdiv 2 = (((8 + a) / 2 : Nat) : Int) := by rw [Int.fdiv_eq_ediv_of_nonneg _ (by omega)]; omega
      have e4 : ((8 + a : Nat) : Int).fdiv 4 = (((8 + a) / 4 : Nat) : Int) := by rw [Int.fdiv_eq_ediv_of_nonneg _ (by omega)]; omega
      have e5 : (1 : Int) = ((1 : Nat) : Int) := rfl
      rw [e1, e2, e4, e5, mem_natsI, mem_natsI, mem_natsI, mem_natsI]
    simp only [List.map_cons, List.filter_cons, e]
    split
    · rw [ih]; simp only [natsI, List.map_cons]; rfl
    · rw [ih]
theorem three {P : Nat → Prop} (h0 : P 0) (h1 : P 1) (h2 : P 2) : ∀ k, k < 3 → P k := fun k hk => by
  have : k = 0 ∨ k = 1 ∨ k = 2 := by omega
  rcases this with rfl | rfl | rfl <;> assumption
theorem lit_len {k : Nat} (hk : k < 3) : (litT k).length = 16 := three (P := fun k => (litT k).length = 16) rfl rfl rfl k hk
theorem lit_item {k i : Nat} (hk : k < 3) (hi : i ≤ 15) {vp : List Value} (hvp : StrsAre vp (litT k)) : ∃ t, vp[i]? = some (.str (tx k i) t) := by
  have hl := lit_len hk
  refine strsAre_get' hvp i _ ?_
  unfold tx
  rw [List.getD_eq_getElem?_getD, List.getElem?_eq_getElem (by omega)]
  rfl
noncomputable def TestE (b : Bool) (s₃ : Shared) (ok : Bool) (s₄ : Shared) : Prop := ok = b ∧ Keeps s₃ s₄
theorem test_in {M : Model} {A : Around} {t : Sem Bool} {b : Bool} {s₃ s : Shared} {E : Value → Shared → Prop} (h : wpAny M A t (fun ok s₄ => TestE b s₃ ok s₄) E s) : wpAny M A t (fun ok s₄ => ok = b ∧ Keeps s₃ s₄) E s := h
theorem com_says {w : World} {mean : ExcName → Option Value} {mg mb : Str → Option Value} {k : Nat} (hk : k < 3) : ComSays w mean mg mb (tx k) := by
  intro a b ha1 ha2 hb1 hb2 l n t u
  have h := com_k hk (a := a) (b := b) (by omega) ha1 (by omega) hb1
  rw [← h.2]
  exact commonpath_ok _ _ h.1 l n t u
theorem tree_k {k : Nat} (hk : k < 3) : Tree (tx k) := three (P := fun k => Tree (tx k)) tree0 tree1 tree2 k hk
theorem kept_ok {ks : List Nat} (hn : Nodes ks) (hl : ks.length ≤ 3) : Nodes (keptN ks) ∧ (keptN ks).length ≤ 3 := by
  have h := rows_ok ks hn hl
  simp only [rowOk, Bool.and_eq_true, List.all_eq_true, decide_eq_true_eq] at h
  exact ⟨h.1.1.1, h.1.1.2⟩
theorem kept_next {ks : List Nat} {i b : Nat} (h : ks[i]? = some b) : keptN (ks.take (i + 1)) = putN ((keptN (ks.take i)).length + 1) (keptN (ks.take i)) b := by
  rw [List.take_add_one, h]
  unfold keptN
  rw [List.foldl_append]
  rfl
theorem nodes_take {ks : List Nat} (hn : Nodes ks) (i : Nat) : Nodes (ks.take i) := fun a h => hn a (List.mem_of_mem_take h)
noncomputable abbrev StrTo (f : Int → Str) (v y : Value) : Prop := ∀ x t, v = .int x t → ∃ t', y = .str (f x) t'
theorem paired_strs {f : Int → Str} {us : List Value} {ns : List Int} (h : IntsAre us ns) : ∀ {ws : List Value}, Paired (StrTo f) us ws → StrsAre ws (ns.map f) := by
  induction h with
  | nil => intro ws h; cases h; exact .nil
  | cons x t r ih =>
    intro ws h
    cases h with
    | cons e k =>
      obtain ⟨t', rfl⟩ := e x t rfl
      exact .cons _ _ (ih k)
theorem ne_strs_same {prog : Program} {w : World} {A : Around} {E : Value → Shared → Prop} {s : Shared} {h₀ : Heap} {L a b : Addr} {news : List (Addr × Obj)} {vs us : List Value} {xs : List Str} {n n2 : Nat} {Q : Value → Shared → Prop} (N : News h₀ L s.heap news) (ha : (a, listOf vs.toArray n) ∈ news) (hb : (b, listOf us.toArray n2) ∈ news) (hv : StrsAre vs xs) (hu : StrsAre us xs) (ox : xs.all PyData.strOk = true) (hun : A.units + 64 < cLine)
    (h : Q (.bool false) s) : wpAny (model prog w) A (compareOp .NotEq (.ref a) (.ref b)) Q E s :=
  ne_strs N ha hb hv hu ox ox hun (by rw [decide_eq_true rfl]; exact h)
section
variable {w : World} {mean : ExcName → Option Value} {mg mb : Str → Option Value} {dp un : Nat} {fr : Option (List Env)} {gd : Option (List Code)} {s : Shared} {Q E : Value → Shared → Prop} {h₀ : Heap} {L : Addr} {m : Str → Option Value} {news : List (Addr × Obj)}
theorem zone_at (F : Fr h₀ L s.heap m) (N : News h₀ L s.heap news) (X : (Mine.hd.heap_39 w.params).In h₀) (T : Top Mine.hd.view_39 (looseW Mine.hd.view_39 [Str.ofString "IPV4_RE"]) mean mg mb h₀) (hdp : dp + 4 < recursionLimit) {x : Str} {t : Tok} (hz : ZoneP x)
    (ret : ∀ t' h' tk', Fr h₀ L h' m → News h₀ L h' news → Kp s.heap h' → Q (.str (zoneF x) t') { s with heap := h', toks := tk' }) :
    wpAny (model PySem.Challenge.rw_pd0169_01.row.prog w) (Ar dp un fr gd) (call (.ref 184) [.str x t]) Q E s :=
  zone_ok (X.keeps F.keep) (T.keeps F.keep) hdp x t hz.1 hz.2.1 hz.2.2.1 hz.2.2.2 fun t' h' tk' k => ret t' h' tk' (fr_keep F k) (news_keep N k) k
end
theorem zone_k {k i : Nat} (hk : k < 3) (hi : i < 16) : ZoneP (tx k i) ∧ (zt k i).length ≤ 60 := three (P := fun k => ∀ a, a < 16 → ZoneP (tx k a) ∧ (zt k a).length ≤ 60) zone0 zone1 zone2 k hk i hi
theorem top7 {k : Nat} (hk : k < 3) : (topT k != Str.ofString "7") = decide (k ≠ 1) := three (P := fun k => (topT k != Str.ofString "7") = decide (k ≠ 1)) (by decide) (by decide) (by decide) k hk
theorem nats_map {f : Nat → Str} {ks : List Nat} : (natsI ks).map (fun z => f z.toNat) = ks.map f := by
  rw [List.map_map]; rfl
theorem el_str {f : Int → Str} {y : Int} {t₃ t' : Tok} {x : Str} {s₃ : Shared} {h' : Heap} {tk : Nat} (e : f y = x) (k : Kp s₃.heap h') : ElEnd (StrTo f) (.int y t₃) s₃ (.str x t') { s₃ with heap := h', toks := tk } := by
  refine el_out (fun z t q => ?_) k
  cases q
  exact ⟨t', by rw [e]⟩
theorem map_is {x : Str} {v : Value} {m : Str → Option Value} (h : m x = some v) : m = fun y => if y = x then some v else m y := by
  funext y
  by_cases e : y = x
  · simp [e, h]
  · simp [e]
theorem own_mem {L : Addr} {a : Addr × Obj} {rest : List (Addr × Obj)} (h : a ∈ rest) (off : OwnOff rest (cellsOf L)) : OwnOff (a :: rest) (cellsOf L) := by
  intro p hp
  rcases List.mem_cons.mp hp with rfl | hp
  · exact off _ h
  · exact off p hp
theorem news_dup {h₀ h : Heap} {L : Addr} {a : Addr × Obj} {o5 o4 o3 o2 o1 : Obj} {rest : List (Addr × Obj)} (ha : a ∈ rest) (N : News h₀ L h (cells5 L o5 o4 o3 o2 o1 rest)) : News h₀ L h (cells5 L o5 o4 o3 o2 o1 (a :: rest)) := by
  intro p hp
  refine N p ?_
  simp only [cells5, List.mem_cons] at hp ⊢
  rcases hp with h | h | h | h | h | h | h
  all_goals first | (simp only [h, true_or, or_true]; done) | (rw [h]; simp only [ha, or_true])
theorem news_in2 {h₀ h : Heap} {L : Addr} {a b : Addr × Obj} {o5 o4 o3 o2 o1 : Obj} {rest : List (Addr × Obj)} (N : News h₀ L h (a :: b :: cells5 L o5 o4 o3 o2 o1 rest)) : News h₀ L h (cells5 L o5 o4 o3 o2 o1 (a :: rest)) := by
  intro p hp
  refine N p ?_
  simp only [cells5, List.mem_cons] at hp ⊢
  rcases hp with hp | hp | hp | hp | hp | hp | hp
  all_goals simp only [hp, true_or, or_true]
noncomputable abbrev ZoneTo (v y : Value) : Prop := ∀ x t, v = .str x t → ∃ t', y = .str (zoneF x) t'
theorem el_zone {x : Str} {t t' : Tok} {s₃ : Shared} {h' : Heap} {tk : Nat} (k : Kp s₃.heap h') : ElEnd ZoneTo (.str x t) s₃ (.str (zoneF x) t') { s₃ with heap := h', toks := tk } := by
  refine el_out (fun z u q => ?_) k
  cases q
  exact ⟨t', rfl⟩
theorem paired_zones {us : List Value} {xs : List Str} (h : StrsAre us xs) : ∀ {ws : List Value}, Paired ZoneTo us ws → StrsAre ws (xs.map zoneF) := by
  induction h with
  | nil => intro ws h; cases h; exact .nil
  | cons x t r ih =>
    intro ws h
    cases h with
    | cons e k =>
      obtain ⟨t', rfl⟩ := e x t rfl
      exact .cons _ _ (ih k)
theorem zones_map {k : Nat} {ks : List Nat} : (ks.map (tx k)).map zoneF = ks.map (zt k) := by
  rw [List.map_map]
  exact List.map_congr_left fun a _ => rfl
theorem test_out {b ok : Bool} {s₃ : Shared} {h' : Heap} {tk : Nat} (g : b = ok) (k : Kp s₃.heap h') : TestE b s₃ ok { s₃ with heap := h', toks := tk } := ⟨g.symm, h', tk, rfl, k⟩
theorem fresh_of {L D : Addr} {o5 o4 o3 o2 o1 : Obj} {rest : List (Addr × Obj)} (h : ∀ p ∈ cells5 L o5 o4 o3 o2 o1 rest, p.1 ≠ D) : ∀ p ∈ rest, p.1 ≠ D := fun p hp => h p (by simp only [cells5, List.mem_cons]; simp only [hp, or_true])
theorem fresh_lt {L D : Addr} {rest : List (Addr × Obj)} (h : L + 1 + 1 + 1 + 1 + 1 < D ∧ L + 1 + 1 + 1 + 1 < D ∧ L + 1 + 1 + 1 < D ∧ L + 1 + 1 < D ∧ L + 1 < D ∧ AllLt D rest) : ∀ p ∈ rest, p.1 ≠ D := all_ne h.2.2.2.2.2
theorem news_sub {h₀ h : Heap} {L : Addr} {news news' : List (Addr × Obj)} (N : News h₀ L h news) (hs : ∀ p ∈ news', p ∈ news) : News h₀ L h news' := fun p hp => N p (hs p hp)
end
section
noncomputable abbrev leT (a b : Str) : Prop := a.cps.toList ≤ b.cps.toList
noncomputable abbrev ltT (a b : Str) : Prop := a.cps.toList < b.cps.toList
theorem leT_trans {a b c : Str} (h1 : leT a b) (h2 : leT b c) : leT a c := List.le_trans h1 h2
theorem leT_anti {a b : Str} (h1 : leT a b) (h2 : leT b a) : a = b := by
  have := List.le_antisymm h1 h2
  cases a; cases b
  congr 1
  exact Array.toList_inj.mp this
theorem rising_pw : ∀ (r : List Str) (p : Str), risingS p r = true → (∀ x ∈ r, leT p x) ∧ r.Pairwise leT
  | [], _, _ => ⟨by simp, .nil⟩
  | x :: r, p, h => by
    simp only [risingS, Bool.and_eq_true] at h
    obtain ⟨h1, h2⟩ := h
    obtain ⟨a, b⟩ := rising_pw r x h2
    have hp : leT p x := by
      rw [ltCps_eq] at h1
      have h3 : ¬ (x.cps.toList < p.cps.toList) := by simpa using h1
      exact List.not_lt.mp h3
    refine ⟨fun y hy => ?_, .cons a b⟩
    rcases List.mem_cons.mp hy with rfl | hy
    · exact hp
    · exact leT_trans hp (a y hy)
theorem sorted_pw {ss : List Str} (h : sortedS ss = true) : ss.Pairwise leT := by
  cases ss with
  | nil => exact .nil
  | cons x r => exact .cons (rising_pw r x h).1 (rising_pw r x h).2
theorem sorted_uniq {a b : List Str} (p : a.Perm b) (sa : a.Pairwise leT) (sb : b.Pairwise leT) : a = b :=
  List.Perm.eq_of_pairwise (le := leT) (fun _ _ _ _ h1 h2 => leT_anti h1 h2) sa sb p
noncomputable def leafsN : List Nat := (List.range 8).map (8 + ·)
theorem leafs_mem {a : Nat} : a ∈ leafsN ↔ 8 ≤ a ∧ a < 16 := by
  unfold leafsN
  rw [List.mem_map]
  constructor
  · rintro ⟨i, hi, rfl⟩; have := List.mem_range.mp hi; omega
  · rintro ⟨h1, h2⟩; exact ⟨a - 8, List.mem_range.mpr (by omega), by omega⟩
theorem leafs_nodup : leafsN.Nodup := by decide
theorem low_sub {ns : List Nat} {a : Nat} (h : a ∈ lowN ns) : 8 ≤ a ∧ a < 16 := leafs_mem.mp ((List.mem_filter.mp h).1)
theorem low_filter (ns : List Nat) : leafsN.filter (fun a => (lowN ns).contains a) = lowN ns := by
  conv => rhs; unfold lowN
  show _ = leafsN.filter _
  refine List.filter_congr fun a ha => ?_
  rw [Bool.eq_iff_iff, List.contains_iff_mem]
  show a ∈ leafsN.filter _ ↔ _
  rw [List.mem_filter]
  exact ⟨fun h => h.2, fun h => ⟨ha, h⟩⟩
/-- the hosts that are due: none under a figure, else those of the lowest places, in order -/
noncomputable def DueOk (k : Nat) (ns : List Nat) (ds : List Str) : Prop := (k = 1 ∧ ds = []) ∨ (k ≠ 1 ∧ ds.Perm ((lowN ns).map (wt k)) ∧ sortedS ds = true)
/-- these places tell the lowest ones of ns -/
noncomputable def Tells (ns zs : List Nat) : Prop := Nodes zs ∧ ∀ a, 8 ≤ a → a < 16 → (zs.any fun n => lca a n == n) = (lowN ns).contains a
theorem row_tells {ns : List Nat} (hn : Nodes ns) (hl : ns.length ≤ 3) : Tells ns ns ∧ Tells ns (keptN ns) := by
  have h := rows_ok ns hn hl
  simp only [rowOk, Bool.and_eq_true, List.all_eq_true, decide_eq_true_eq] at h
  have hk : Nodes (keptN ns) := h.1.1.1
  refine ⟨⟨hn, fun a h1 h2 => ?_⟩, ⟨hk, fun a h1 h2 => ?_⟩⟩
  · rw [low_mem hn h1 h2, any_cov hn h1 h2]
  · rw [low_mem hn h1 h2, any_cov hk h1 h2, h.1.2]
noncomputable def hitZ (k : Nat) (zs : List Nat) (h : Str) : Bool := (zs.map (zt k)).any (udmF (Txt.upper h))
theorem any_and {α : Type} {f g : α → Bool} {c : Bool} : ∀ {l : List α}, (∀ z ∈ l, f z = (c && g z)) → l.any f = (c && l.any g)
  | [], _ => by cases c <;> rfl
  | z :: l, h => by
    rw [List.any_cons, List.any_cons, h z (.head _), any_and fun y hy => h y (.tail _ hy)]
    cases c <;> rfl
theorem hit_eq {k : Nat} {ns zs : List Nat} (hk : k < 3) (ht : Tells ns zs) {a : Nat} (h1 : 8 ≤ a) (h2 : a < 16) : hitZ k zs (wt k a) = (decide (k ≠ 1) && (lowN ns).contains a) := by
  rw [← ht.2 a h1 h2]
  unfold hitZ
  rw [List.any_map]
  refine any_and fun z hz => ?_
  have := ht.1 z hz
  simp only [Function.comp_apply]
  exact (udm_k hk h2 h1 (by omega) this.1).2
theorem found_eq {k : Nat} {ns zs : List Nat} (hk : k < 3) (ht : Tells ns zs) {hs ds : List Str} (hp : hs.Perm (leafsN.map (wt k))) (hh : sortedS hs = true) (hd : DueOk k ns ds) : hs.filter (hitZ k zs) = ds := by
  have e1 : (leafsN.map (wt k)).filter (hitZ k zs) = (leafsN.filter fun a => decide (k ≠ 1) && (lowN ns).contains a).map (wt k) := by
    rw [List.filter_map]
    congr 1
    refine List.filter_congr fun a ha => ?_
    obtain ⟨h1, h2⟩ := leafs_mem.mp ha
    exact hit_eq hk ht h1 h2
  have p1 := hp.filter (hitZ k zs)
  rw [e1] at p1
  rcases hd with ⟨h1, rfl⟩ | ⟨h1, h2, h3⟩
  · have : (leafsN.filter fun a => decide (k ≠ 1) && (lowN ns).contains a) = [] := by simp [h1]
    rw [this] at p1
    exact List.Perm.eq_nil p1
  · have e2 : (leafsN.filter fun a => decide (k ≠ 1) && (lowN ns).contains a) = lowN ns := by
      simp only [h1, decide_true, ne_eq, not_false_eq_true, Bool.true_and]
      exact low_filter ns
    rw [e2] at p1
    exact sorted_uniq (p1.trans h2.symm) ((sorted_pw hh).filter _) (sorted_pw h3)
theorem lt_of_le_ne {a b : Str} (h : leT a b) (n : a ≠ b) : ltT a b := by
  by_cases q : ltT a b
  · exact q
  · exact absurd (leT_anti h (List.not_lt.mp q)) n
theorem due_strict {k : Nat} {ns : List Nat} (hk : k < 3) {ds : List Str} (hd : DueOk k ns ds) : ds.Pairwise ltT := by
  rcases hd with ⟨_, rfl⟩ | ⟨_, h2, h3⟩
  · exact .nil
  · have hnd : ds.Nodup := by
      refine h2.nodup_iff.mpr ?_
      have hw : ∀ a, a < 16 → 8 ≤ a → ∀ b, b < 16 → 8 ≤ b → wt k a = wt k b → a = b := three (P := fun k => ∀ a, a < 16 → 8 ≤ a → ∀ b, b < 16 → 8 ≤ b → wt k a = wt k b → a = b) winj0 winj1 winj2 k hk
      have hl : (lowN ns).Nodup := leafs_nodup.filter _
      rw [List.nodup_iff_pairwise_ne] at hl ⊢
      rw [List.pairwise_map]
      exact List.Pairwise.imp_of_mem (fun ha hb hne e => hne (hw _ (low_sub ha).2 (low_sub ha).1 _ (low_sub hb).2 (low_sub hb).1 e)) hl
    exact (List.Pairwise.and (sorted_pw h3) hnd).imp fun h => lt_of_le_ne h.1 h.2
theorem due_mem {k : Nat} {ns : List Nat} {ds : List Str} (hd : DueOk k ns ds) {d : Str} (h : d ∈ ds) : ∃ a, 8 ≤ a ∧ a < 16 ∧ d = wt k a := by
  rcases hd with ⟨_, rfl⟩ | ⟨_, h2, _⟩
  · cases h
  · obtain ⟨a, ha, rfl⟩ := List.mem_map.mp (h2.mem_iff.mp h)
    exact ⟨a, (low_sub ha).1, (low_sub ha).2, rfl⟩
theorem low_len (ns : List Nat) : (lowN ns).length ≤ 8 := by
  unfold lowN
  exact Nat.le_trans (List.length_filter_le ..) (by simp)
theorem due_len {k : Nat} {ns : List Nat} {ds : List Str} (hd : DueOk k ns ds) : ds.length ≤ 8 := by
  rcases hd with ⟨_, rfl⟩ | ⟨_, h2, _⟩
  · simp
  · rw [h2.length_eq, List.length_map]; exact low_len ns
theorem high_ok {ns : List Nat} (hn : Nodes ns) (hl : ns.length ≤ 3) : ((highI ns).map Int.toNat).Perm (keptN ns) ∧ ∀ z ∈ highI ns, 1 ≤ z ∧ z ≤ 15 := by
  have h := rows_ok ns hn hl
  simp only [rowOk, Bool.and_eq_true] at h
  obtain ⟨h1, h2⟩ := high_is hn
  rw [h1]
  refine ⟨?_, fun z hz => ?_⟩
  · have e : ((highM (covL ns) 3 1).map fun (i : Nat) => (i : Int)).map Int.toNat = highM (covL ns) 3 1 := by
      rw [List.map_map]
      exact (List.map_congr_left fun a _ => Int.toNat_natCast a).trans (List.map_id _)
    rw [e]
    exact List.isPerm_iff.mp h.2
  · obtain ⟨i, hi, rfl⟩ := List.mem_map.mp hz
    have := h2 i hi
    omega
theorem sorted_same {k : Nat} {ns : List Nat} (hn : Nodes ns) (hl : ns.length ≤ 3) {a b : List Str} (ha : a.Perm ((keptN ns).map (tx k))) (sa : sortedS a = true) (hb : b.Perm ((highI ns).map fun z => tx k z.toNat)) (sb : sortedS b = true) : a = b := by
  have e : (highI ns).map (fun z => tx k z.toNat) = ((highI ns).map Int.toNat).map (tx k) := by rw [List.map_map]; rfl
  rw [e] at hb
  exact sorted_uniq (ha.trans (hb.trans ((high_ok hn hl).1.map _)).symm) (sorted_pw sa) (sorted_pw sb)
theorem lt_irrefl' (a : Str) : ¬ ltT a a := List.lt_irrefl _
theorem lt_trans' {a b c : Str} (h1 : ltT a b) (h2 : ltT b c) : ltT a c := List.lt_trans h1 h2
theorem ltS_iff {a b : Str} : ltS a b = true ↔ ltT a b := by unfold ltS; exact decide_eq_true_iff
noncomputable abbrev notIn (ys : List Str) (x : Str) : Bool := !(ys.any (· == x))
theorem notIn_true {ys : List Str} {x : Str} (h : ∀ y ∈ ys, y ≠ x) : notIn ys x = true := by
  unfold notIn
  rw [Bool.not_eq_true', List.any_eq_false]
  intro y hy q
  exact h y hy (eq_of_beq q)
theorem notIn_cons {ys : List Str} {x y : Str} (h : y ≠ x) : notIn (y :: ys) x = notIn ys x := by
  unfold notIn
  rw [List.any_cons, show (y == x) = false from beq_eq_false_iff_ne.mpr h, Bool.false_or]
theorem notIn_head {ys : List Str} {x : Str} : notIn (x :: ys) x = false := by
  unfold notIn
  rw [List.any_cons, show (x == x) = true from beq_self_eq_true x, Bool.true_or]; rfl
theorem sld_eq : ∀ (n : Nat) (xs ys : List Str), xs.length + ys.length ≤ n → xs.Pairwise ltT → ys.Pairwise ltT → sldF xs ys = (xs.filter (notIn ys), ys.filter (notIn xs)) := by
  intro n
  induction n with
  | zero =>
    intro xs ys hl _ _
    have h1 : xs = [] := List.eq_nil_of_length_eq_zero (by omega)
    have h2 : ys = [] := List.eq_nil_of_length_eq_zero (by omega)
    subst h1 h2
    rw [sldF_nil]; rfl
  | succ n ih =>
    intro xs ys hl hx hy
    cases xs with
    | nil =>
      have e : sldF [] ys = ([], ys) := by simp [sldF]
      rw [e]
      have e2 : ys.filter (notIn []) = ys := List.filter_eq_self.mpr fun _ _ => rfl
      rw [e2]; rfl
    | cons x xs =>
      cases ys with
      | nil =>
        rw [sldF_nil]
        have e2 : (x :: xs).filter (notIn []) = x :: xs := List.filter_eq_self.mpr fun _ _ => rfl
        rw [e2]; rfl
      | cons y ys =>
        have hx1 := (List.pairwise_cons.mp hx)
        have hy1 := (List.pairwise_cons.mp hy)
        rw [List.length_cons, List.length_cons] at hl
        by_cases q : ltT x y
        · rw [sldF_lt (ltS_iff.mpr q), ih xs (y :: ys) (by rw [List.length_cons]; omega) hx1.2 hy]
          have hgt : ∀ z ∈ y :: ys, ltT x z := fun z hz => by
            rcases List.mem_cons.mp hz with rfl | hz
            · exact q
            · exact lt_trans' q (hy1.1 z hz)
          have e1 : notIn (y :: ys) x = true := notIn_true fun z hz e => lt_irrefl' x (by have := hgt z hz; rwa [e] at this)
          have e2 : (y :: ys).filter (notIn (x :: xs)) = (y :: ys).filter (notIn xs) := List.filter_congr fun z hz => notIn_cons fun e => lt_irrefl' x (by have := hgt z hz; rwa [← e] at this)
          rw [e2, List.filter_cons_of_pos (p := notIn (y :: ys)) e1]
        · by_cases q2 : ltT y x
          · rw [sldF_gt (fun h => q (ltS_iff.mp h)) (ltS_iff.mpr q2), ih (x :: xs) ys (by rw [List.length_cons]; omega) hx hy1.2]
            have hgt : ∀ z ∈ x :: xs, ltT y z := fun z hz => by
              rcases List.mem_cons.mp hz with rfl | hz
              · exact q2
              · exact lt_trans' q2 (hx1.1 z hz)
            have e1 : notIn (x :: xs) y = true := notIn_true fun z hz e => lt_irrefl' y (by have := hgt z hz; rwa [e] at this)
            have e2 : (x :: xs).filter (notIn (y :: ys)) = (x :: xs).filter (notIn ys) := List.filter_congr fun z hz => notIn_cons fun e => lt_irrefl' y (by have := hgt z hz; rwa [← e] at this)
            rw [e2, List.filter_cons_of_pos (p := notIn (x :: xs)) e1]
          · have e : x = y := leT_anti (List.not_lt.mp q2) (List.not_lt.mp q)
            subst e
            rw [sldF_eq (fun h => q (ltS_iff.mp h)) (fun h => q2 (ltS_iff.mp h)), ih xs ys (by omega) hx1.2 hy1.2]
            have e1 : xs.filter (notIn (x :: ys)) = xs.filter (notIn ys) := List.filter_congr fun z hz => notIn_cons fun e => lt_irrefl' x (by have := hx1.1 z hz; rwa [← e] at this)
            have e2 : ys.filter (notIn (x :: xs)) = ys.filter (notIn xs) := List.filter_congr fun z hz => notIn_cons fun e => lt_irrefl' x (by have := hy1.1 z hz; rwa [← e] at this)
            rw [List.filter_cons_of_neg (p := notIn (x :: ys)) (by rw [notIn_head]; exact Bool.false_ne_true), List.filter_cons_of_neg (p := notIn (x :: xs)) (by rw [notIn_head]; exact Bool.false_ne_true), e1, e2]
theorem near_ne {xs : List Str} (h : xs.Pairwise ltT) : ∀ i X Y, xs[i]? = some X → xs[i + 1]? = some Y → (Y == X) = false := by
  intro i X Y h1 h2
  obtain ⟨a1, b1⟩ := List.getElem?_eq_some_iff.mp h1
  obtain ⟨a2, b2⟩ := List.getElem?_eq_some_iff.mp h2
  have := List.pairwise_iff_getElem.mp h i (i + 1) a1 a2 (by omega)
  rw [b1, b2] at this
  rw [beq_eq_false_iff_ne]
  intro e
  exact lt_irrefl' X (by rwa [e] at this)
theorem txok {k i : Nat} (hk : k < 3) (hi : i < 16) : PyData.strOk (tx k i) = true ∧ PyData.strOk (wt k i) = true ∧ (wt k i).length ≤ 61 := by
  have h := three (P := fun k => ∀ i, i < 16 → PyData.strOk (tx k i) = true ∧ PyData.strOk (wt k i) = true ∧ (wt k i).length ≤ 61) (by decide +kernel) (by decide +kernel) (by decide +kernel) k hk
  exact h i hi
theorem tx_all {k : Nat} (hk : k < 3) {ns : List Nat} (h : Nodes ns) : (ns.map (tx k)).all PyData.strOk = true := by
  rw [List.all_eq_true]
  intro x hx
  obtain ⟨a, ha, rfl⟩ := List.mem_map.mp hx
  have := h a ha
  exact (txok hk (by omega)).1
theorem all_perm_str {xs ys : List Str} (p : xs.Perm ys) (h : ys.all PyData.strOk = true) : xs.all PyData.strOk = true := by
  rw [List.all_eq_true] at h ⊢
  exact fun x hx => h x (p.mem_iff.mp hx)
theorem due_all {k : Nat} (hk : k < 3) {ns : List Nat} {ds : List Str} (hd : DueOk k ns ds) : ds.all PyData.strOk = true := by
  rw [List.all_eq_true]
  intro x hx
  obtain ⟨a, _, h2, rfl⟩ := due_mem hd hx
  exact (txok hk h2).2.1
theorem zone_udm {k a : Nat} (hk : k < 3) (h8 : 8 ≤ a) (h16 : a < 16) {zs : List Nat} (hz : Nodes zs) : ∀ y ∈ zs.map (zt k), UdmOk (Txt.upper (wt k a)) y := by
  intro y hy
  obtain ⟨b, hb, rfl⟩ := List.mem_map.mp hy
  have := hz b hb
  exact (udm_k hk h16 h8 (by omega) this.1).1
theorem hit_def {k : Nat} {zs : List Nat} {h : Str} : hitZ k zs h = (zs.map (zt k)).any (udmF (Txt.upper h)) := rfl
end
section
local macro_rules | `(tactic| walk_at "exec For Name Name cons nil") => `(tactic| (k_here; refine hold_in ?_))
local macro_rules | `(tactic| walk_at "pyIter ref") => `(tactic| (k_here; refine hold_in ?_))
local macro_rules | `(tactic| walk_at "eval Name") => `(tactic| (k_here; (with_reducible show wpAny _ _ (eval (Expr.Name _ _) (compEnvC _ _ _ _)) _ _ _); k_dflt (refine' nameB_L (by k_asm) (by exact rfl) ?_ (by exact rfl) (by exact rfl) (by decide); k_whole)))
local macro_rules | `(tactic| walk_at "eval Name") => `(tactic| (k_here; (with_reducible show wpAny _ _ (eval (Expr.Name _ _) (compEnvC _ _ _ _)) _ _ _); k_dflt (refine' nameB_C (by k_asm) (by exact rfl) (by k_mem) (by k_asm) ?_ (by exact rfl) (by exact rfl) (by decide); k_whole)))
local macro_rules | `(tactic| walk_at "compareOp In int ref") => `(tactic| (k_here; k_dflt (refine' in_list_ints (by exact at_list (by k_asm) (by k_mem)) (by with_reducible assumption) ?_; k_whole)))
local macro_rules | `(tactic| k_ne) => `(tactic| ((try dsimp only); first | with_reducible assumption | with_reducible exact Ne.symm (by with_reducible assumption)))
local macro_rules | `(tactic| walk_at "eval Name") => `(tactic| (k_here; k_dflt (refine' nameX_L (by k_asm) (by first | with_reducible assumption | assumption) ?_ (by rfl) (by rfl); k_whole)))
local macro_rules | `(tactic| walk_at "eval ListComp") => `(tactic| (k_here; refine hold_in ?_))
local macro_rules | `(tactic| k_mem) => `(tactic| ((show (_ : Addr × Obj) ∈ (_ : List (Addr × Obj))); with_reducible assumption))
local macro_rules | `(tactic| k_all) => `(tactic| (refine OwnOff.ne (by with_reducible assumption) ?_; simp only [cellsOf]; k_mem))
section



section
variable {w : World} {mean : ExcName → Option Value} {mg mb : Str → Option Value} {dp un : Nat} {fr : Option (List Env)} {gd : Option (List Code)} {s : Shared} {Q : Flow → Shared → Prop} {E : Value → Shared → Prop}
  {h₀ : Heap} {L fa : Addr} {cd : Value} {m : Str → Option Value} {rest : List (Addr × Obj)} {o5 o4 o3 o2 o1 : Obj}
    (F : Fr h₀ L s.heap m) (N : News h₀ L s.heap (cells5 L o5 o4 o3 o2 o1 rest)) (off : OwnOff rest (cellsOf L)) (X : (Mine.hd.heap_39 w.params).In h₀) (T : Top Mine.hd.view_39 (looseW Mine.hd.view_39 [Str.ofString "IPV4_RE"]) mean mg mb h₀) (hdp : dp + 100 < recursionLimit) (hun : un + 1000 < cLine)
include F N off X T hdp hun
theorem st0 {lr : Addr} (hm : m (Str.ofString "row") = some (.ref lr)) {vs : List Value} {n : Nat} {ns : List Int} (hr : (lr, listOf vs.toArray n) ∈ rest) (hv : IntsAre vs ns) (hlen : ns.length ≤ 3) {c3 : Option Value} (h3 : o3.data = .cell c3)
    (ret : ∀ D ws n' o3' h' tk', IntsAre ws (ns.map nodeZ) → o3'.data = .cell (some (.ref D)) → Fr h₀ L h' m → News h₀ L h' (cells5 L o5 o4 o3' o2 o1 ((D, listOf (List.toArray ws) n') :: rest)) → OwnOff ((D, listOf (List.toArray ws) n') :: rest) (cellsOf L) → (∀ p ∈ rest, p.1 ≠ D) → Q .next { s with heap := h', toks := tk' }) :
    wpAny (model PySem.Challenge.rw_pd0169_01.row.prog w) (Ar dp un fr gd) (exec (rs 0) (lawEnv L fa cd)) Q E s := by
  unfold lawEnv
  (conv in rs 0 => whnf)
  (conv in lawScope => whnf)
  dsimp only [cells5] at N
  w_on
  (revert X; k_fill; intro X)
  (try k_fold)
  k_steps
  unfold Hold
  refine' lc_free (cl := []) (fun _ => true) (IntTo nodeZ) ?c1 ?c2 ?c3 ?c4 ?c5 ?_ ?c6
  (case c1 => exact rfl)
  (case c2 => decide)
  (case c3 => exact rfl)
  (case c4 => decide)
  (case c5 => exact rfl)
  (case c6 => (intro _; rfl))
  k_steps
  (try dsimp only)
  refine' comp_list (vs := vs) (nn := n) _ _ ?kh ?kF ?kN ?kl ?_ ?_ ?_ ?_
  (case kh => exact rfl)
  (case kF => k_asm)
  (case kN => k_asm)
  (case kl => k_mem)
  · rw [IntsAre.length hv, sizeLine_eq]; omega
  · intro C s₃ v m₃ E' hv₃ F₃ N₃ k₃
    exact tests0 ⟨rfl, keeps_refl _⟩
  · intro C s₃ v m₃ E' hv₃ hp F₃ N₃ k₃
    obtain ⟨y, t₃, rfl, hy₃⟩ := ints_mem hv hv₃
    (try dsimp only at F₃ N₃ k₃)
    have X₃ := Frag.In.keeps X k₃
    have T₃ := T.keeps k₃
    refine el_in ?_
    k_steps
    exact el_out (fun x t e => by cases e; exact ⟨_, rfl⟩) (fun _ _ e => e)
  · intro D n₄ ws₄ h₄ tk₄ hpair F₄ N₄ hne
    rw [filter_all] at hpair
    have hw := paired_ints hv hpair
    clear hpair
    (try dsimp only)
    have off' := own_new (o := listOf (List.toArray ws₄) n₄) hne off
    obtain ⟨q1, q2, q3, q4, q5⟩ := ne5 hne
    k_steps
    (rename News _ _ _ _ => NE)
    (rename Fr _ _ _ _ => FE)
    exact ret _ _ _ _ _ _ hw (by with_reducible assumption) FE (news_in NE) off' (fresh_of hne)
end
end
section



theorem any_con {zs : List Int} {z : Int} {b : Bool} (h : (zs.any fun x => x == z) = b) : zs.contains z = b := by rw [← any_contains]; exact h
theorem low_1 {zs : List Int} {z : Int} (h : (zs.any fun x => x == z) = true) : lowQ zs z = true := by unfold lowQ; rw [any_con h]; simp
theorem low_2 {zs : List Int} {z : Int} (h : (zs.any fun x => x == z.fdiv 2) = true) : lowQ zs z = true := by unfold lowQ; rw [any_con h]; simp
theorem low_3 {zs : List Int} {z : Int} (h : (zs.any fun x => x == z.fdiv 4) = true) : lowQ zs z = true := by unfold lowQ; rw [any_con h]; simp
theorem low_4 {zs : List Int} {z : Int} (h : (zs.any fun x => x == 1) = true) : lowQ zs z = true := by unfold lowQ; rw [any_con h]; simp
theorem low_5 {zs : List Int} {z : Int} (h1 : (zs.any fun x => x == z) = false) (h2 : (zs.any fun x => x == z.fdiv 2) = false) (h3 : (zs.any fun x => x == z.fdiv 4) = false) (h4 : (zs.any fun x => x == 1) = false) : lowQ zs z = false := by
  unfold lowQ; rw [any_con h1, any_con h2, any_con h3, any_con h4]; rfl
section
variable {w : World} {mean : ExcName → Option Value} {mg mb : Str → Option Value} {dp un : Nat} {fr : Option (List Env)} {gd : Option (List Code)} {s : Shared} {Q : Flow → Shared → Prop} {E : Value → Shared → Prop}
  {h₀ : Heap} {L fa : Addr} {cd : Value} {m : Str → Option Value} {rest : List (Addr × Obj)} {o5 o4 o3 o2 o1 : Obj}
    (F : Fr h₀ L s.heap m) (N : News h₀ L s.heap (cells5 L o5 o4 o3 o2 o1 rest)) (off : OwnOff rest (cellsOf L)) (X : (Mine.hd.heap_39 w.params).In h₀) (T : Top Mine.hd.view_39 (looseW Mine.hd.view_39 [Str.ofString "IPV4_RE"]) mean mg mb h₀) (hdp : dp + 100 < recursionLimit) (hun : un + 1000 < cLine)
include F N off X T hdp hun
theorem st1 {ln : Addr} {vs : List Value} {n : Nat} {ks : List Nat} (hr : (ln, listOf vs.toArray n) ∈ rest) (hv : IntsAre vs (natsI ks)) (hlen : ks.length ≤ 3) (h3 : o3.data = .cell (some (.ref ln)))
    (ret : ∀ D ws n' h' tk', IntsAre ws (natsI (lowN ks)) → Fr h₀ L h' (fun y => if y = Str.ofString "lowest" then some (.ref D) else m y) → News h₀ L h' (cells5 L o5 o4 o3 o2 o1 ((D, listOf (List.toArray ws) n') :: rest)) → OwnOff ((D, listOf (List.toArray ws) n') :: rest) (cellsOf L) → (∀ p ∈ rest, p.1 ≠ D) → Q .next { s with heap := h', toks := tk' }) :
    wpAny (model PySem.Challenge.rw_pd0169_01.row.prog w) (Ar dp un fr gd) (exec (rs 1) (lawEnv L fa cd)) Q E s := by
  unfold lawEnv
  (conv in rs 1 => whnf)
  (conv in lawScope => whnf)
  dsimp only [cells5] at N
  w_on
  (revert X; k_fill; intro X)
  (try k_fold)
  refine' lc_assign (cl := [(Str.ofString "nodes", L + 1 + 1 + 1)]) (intP (lowQ (natsI ks))) (fun v y => y = v) ?c0 ?c1 ?c2 ?c3 ?c4 ?c5 ?c7 ?c8 ?_ ?c6
  (case c0 => with_unfolding_all rfl)
  (case c1 => exact rfl)
  (case c2 => decide)
  (case c3 => exact rfl)
  (case c4 => decide)
  (case c5 => exact rfl)
  (case c7 => exact rfl)
  (case c8 => exact rfl)
  (case c6 => (intro _; rfl))
  k_steps
  (try dsimp only)
  refine' comp_range_s (k := 8) _ _ ?kh ?kL ?kF ?kN ?kR ?_ ?_ ?_ ?_ ?_ ?_ ?_
  (case kh => exact rfl)
  (case kF => k_asm)
  (case kN => k_asm)
  (case kL => exact rfl)
  (case kR => k_asm)
  · rfl
  · decide
  · decide
  · decide
  · intro C s₃ i tv m₃ E' hi F₃ N₃ k₃
    (try dsimp only at F₃ N₃ k₃)
    have X₃ := Frag.In.keeps X k₃
    have T₃ := T.keeps k₃
    refine tests1 (test_in ?_)
    k_steps
    · exact test_out (low_1 (by with_reducible assumption)) (fun _ _ e => e)
    · exact test_out (low_2 (by with_reducible assumption)) (fun _ _ e => e)
    · exact test_out (low_3 (by with_reducible assumption)) (fun _ _ e => e)
    · exact test_out (low_4 (by with_reducible assumption)) (fun _ _ e => e)
    · exact test_out (low_5 (by with_reducible assumption) (by with_reducible assumption) (by with_reducible assumption) (by with_reducible assumption)) (fun _ _ e => e)
  · intro C s₃ i tv m₃ E' hi hp F₃ N₃ k₃
    (try dsimp only at F₃ N₃ k₃)
    have X₃ := Frag.In.keeps X k₃
    have T₃ := T.keeps k₃
    refine el_in (G := fun v y => y = v) ?_
    k_steps
    exact el_out rfl (fun _ _ e => e)
  · intro D n₄ us₄ ws₄ h₄ tk₄ hus hpair F₄ N₄ hne
    obtain rfl := paired_eq hpair
    have hw := ints_filter (lowQ (natsI ks)) hus
    rw [low_eq] at hw
    clear hpair
    (try dsimp only)
    have off' := own_new (o := listOf (List.toArray (us₄.filter (intP (lowQ (natsI ks))))) n₄) hne off
    exact ret _ _ _ _ _ hw F₄ (news_in N₄) off' (fresh_of hne)
end
end
section


local macro_rules | `(tactic| walk_at "subscriptTail") => `(tactic| (k_here; (with_reducible show wpAny _ _ (subscriptTail _ _ (Value.ref _) (Value.int _ _)) _ _ _); k_dflt (refine' item_z (by k_asm) (by k_mem) (by with_reducible assumption) (by first | with_reducible assumption | exact rfl) (by first | omega | exact Nat.le_of_ble_eq_true rfl) ?_ (by with_unfolding_all rfl); k_whole)))

section
variable {w : World} {mean : ExcName → Option Value} {mg mb : Str → Option Value} {dp un : Nat} {fr : Option (List Env)} {gd : Option (List Code)} {s : Shared} {Q : Flow → Shared → Prop} {E : Value → Shared → Prop}
  {h₀ : Heap} {L fa : Addr} {cd : Value} {m : Str → Option Value} {rest : List (Addr × Obj)} {o5 o4 o3 o2 o1 : Obj}
    (F : Fr h₀ L s.heap m) (N : News h₀ L s.heap (cells5 L o5 o4 o3 o2 o1 rest)) (off : OwnOff rest (cellsOf L)) (X : (Mine.hd.heap_39 w.params).In h₀) (T : Top Mine.hd.view_39 (looseW Mine.hd.view_39 [Str.ofString "IPV4_RE"]) mean mg mb h₀) (hdp : dp + 100 < recursionLimit) (hun : un + 1000 < cLine)
include F N off X T hdp hun
theorem st2 {ln lp : Addr} {vs vp : List Value} {n np k : Nat} {ks : List Nat} (hr : (ln, listOf vs.toArray n) ∈ rest) (hp : (lp, listOf vp.toArray np) ∈ rest) (hv : IntsAre vs (natsI ks)) (hn : Nodes ks) (hvp : StrsAre vp (litT k)) (hk : k < 3) (hlen : ks.length ≤ 3) (h3 : o3.data = .cell (some (.ref ln))) (h1 : o1.data = .cell (some (.ref lp))) {c4 : Option Value} (h4 : o4.data = .cell c4)
    (ret : ∀ D ws n' o4' h' tk', StrsAre ws (ks.map (tx k)) → o4'.data = .cell (some (.ref D)) → Fr h₀ L h' m → News h₀ L h' (cells5 L o5 o4' o3 o2 o1 ((D, listOf (List.toArray ws) n') :: rest)) → OwnOff ((D, listOf (List.toArray ws) n') :: rest) (cellsOf L) → (∀ p ∈ rest, p.1 ≠ D) → Q .next { s with heap := h', toks := tk' }) :
    wpAny (model PySem.Challenge.rw_pd0169_01.row.prog w) (Ar dp un fr gd) (exec (rs 2) (lawEnv L fa cd)) Q E s := by
  have hpl : vp.length = 16 := by rw [strsAre_len hvp]; exact lit_len hk
  unfold lawEnv
  (conv in rs 2 => whnf)
  (conv in lawScope => whnf)
  dsimp only [cells5] at N
  w_on
  (revert X; k_fill; intro X)
  (try k_fold)
  k_steps
  unfold Hold
  refine' lc_free (cl := [(Str.ofString "paths", L + 1)]) (fun _ => true) (StrTo (fun z => tx k z.toNat)) ?c1 ?c2 ?c3 ?c4 ?c5 ?_ ?c6
  (case c1 => exact rfl)
  (case c2 => decide)
  (case c3 => exact rfl)
  (case c4 => decide)
  (case c5 => exact rfl)
  (case c6 => (intro _; rfl))
  k_steps
  (try dsimp only)
  refine' comp_list (vs := vs) (nn := n) _ _ ?kh ?kF ?kN ?kl ?_ ?_ ?_ ?_
  (case kh => exact rfl)
  (case kF => k_asm)
  (case kN => k_asm)
  (case kl => k_mem)
  · rw [IntsAre.length hv, sizeLine_eq, List.length_map]; omega
  · intro C s₃ v m₃ E' hv₃ F₃ N₃ k₃
    exact tests0 ⟨rfl, keeps_refl _⟩
  · intro C s₃ v m₃ E' hv₃ hp F₃ N₃ k₃
    obtain ⟨y, t₃, rfl, hy₃⟩ := ints_mem hv hv₃
    obtain ⟨i, hi, hyi⟩ := List.mem_map.mp hy₃
    have hyi' : y = (i : Int) := hyi.symm
    obtain ⟨ti, hti⟩ := lit_item hk (hn i hi).2 hvp
    (try dsimp only at F₃ N₃ k₃)
    have X₃ := Frag.In.keeps X k₃
    have T₃ := T.keeps k₃
    refine el_in ?_
    k_steps
    exact el_out (fun x t e => by cases e; exact ⟨ti, by rw [hyi']; rfl⟩) (fun _ _ e => e)
  · intro D n₄ ws₄ h₄ tk₄ hpair F₄ N₄ hne
    rw [filter_all] at hpair
    have hw := paired_strs hv hpair
    rw [List.map_map] at hw
    clear hpair
    (try dsimp only)
    have off' := own_new (o := listOf (List.toArray ws₄) n₄) hne off
    obtain ⟨q1, q2, q3, q4, q5⟩ := ne5 hne
    k_steps
    (rename News _ _ _ _ => NE)
    (rename Fr _ _ _ _ => FE)
    exact ret _ _ _ _ _ _ hw (by with_reducible assumption) FE (news_in NE) off' (fresh_of hne)
end
end
section



section
variable {w : World} {mean : ExcName → Option Value} {mg mb : Str → Option Value} {dp un : Nat} {fr : Option (List Env)} {gd : Option (List Code)} {s : Shared} {Q : Flow → Shared → Prop} {E : Value → Shared → Prop}
  {h₀ : Heap} {L fa : Addr} {cd : Value} {m : Str → Option Value} {rest : List (Addr × Obj)} {o5 o4 o3 o2 o1 : Obj}
    (F : Fr h₀ L s.heap m) (N : News h₀ L s.heap (cells5 L o5 o4 o3 o2 o1 rest)) (off : OwnOff rest (cellsOf L)) (X : (Mine.hd.heap_39 w.params).In h₀) (T : Top Mine.hd.view_39 (looseW Mine.hd.view_39 [Str.ofString "IPV4_RE"]) mean mg mb h₀) (hdp : dp + 100 < recursionLimit) (hun : un + 1000 < cLine)
include F N off X T hdp hun
theorem st3 {c5 : Option Value} (h5 : o5.data = .cell c5)
    (ret : ∀ D n' o5' h' tk', o5'.data = .cell (some (.ref D)) → Fr h₀ L h' m → News h₀ L h' (cells5 L o5' o4 o3 o2 o1 ((D, listOf (List.toArray []) n') :: rest)) → OwnOff ((D, listOf (List.toArray []) n') :: rest) (cellsOf L) → (∀ p ∈ rest, p.1 ≠ D) → Q .next { s with heap := h', toks := tk' }) :
    wpAny (model PySem.Challenge.rw_pd0169_01.row.prog w) (Ar dp un fr gd) (exec (rs 3) (lawEnv L fa cd)) Q E s := by
  unfold lawEnv
  (conv in rs 3 => whnf)
  (conv in lawScope => whnf)
  dsimp only [cells5] at N
  w_on
  (revert X; k_fill; intro X)
  (try k_fold)
  k_steps
  (rename News _ _ _ _ => NE)
  (rename Fr _ _ _ _ => FE)
  (rename _ < _ ∧ _ => l1)
  exact ret _ _ _ _ _ (by with_reducible assumption) FE (news_in NE) (own_lt l1 off) (fresh_lt l1)
end
end
section



local macro_rules | `(tactic| walk_at "exec For Name Name cons nil") => `(tactic| (k_here; refine hold_in ?_))
local macro_rules | `(tactic| walk_at "call ref") => `(tactic| (k_here; (with_reducible show wpAny _ _ (call (Value.ref 189) _) _ _ _); refine hold_in ?_))

theorem put_led {h₀ h h₅ : Heap} {L lk l' : Addr} {m : Str → Option Value} {o o' o5 o4 o3 o2 o1 : Obj} {rest own : List (Addr × Obj)} (F : Fr h₀ L h m) (N : News h₀ L h (cells5 L o5 o4 o3 o2 o1 ((lk, o) :: (rest ++ own)))) (N₅ : News h₀ L h₅ (cells5 L o5 o4 o3 o2 o1 ((lk, o) :: (rest ++ own)))) (k : Kp h h₅)
    (hof : OwnOff ((lk, o) :: rest) (cellsOf L)) (how : ∀ p ∈ own, p.1 ≠ lk) (hfk : ∀ p ∈ rest, p.1 ≠ lk) (hor : (l', o') = (lk, o) ∨ h.get? l' = none) (hg : h₅.get? l' = some o') :
    News h₀ L h₅ (cells5 L o5 o4 o3 o2 o1 ((l', o') :: (rest ++ own))) ∧ OwnOff ((l', o') :: rest) (cellsOf L) ∧ (L + 1 ≠ l' ∧ L + 1 + 1 ≠ l' ∧ L + 1 + 1 + 1 ≠ l' ∧ L + 1 + 1 + 1 + 1 ≠ l' ∧ L + 1 + 1 + 1 + 1 + 1 ≠ l') ∧ (∀ p ∈ own, p.1 ≠ l') ∧ ∀ p ∈ rest, p.1 ≠ l' := by
  rcases hor with e | hn
  · have e1 := congrArg Prod.fst e
    have e2 := congrArg Prod.snd e
    dsimp only at e1 e2
    subst e1 e2
    have q := fun b hb => Ne.symm (hof _ (List.Mem.head _) b hb)
    simp only [cellsOf, List.mem_cons, List.not_mem_nil, or_false] at q
    exact ⟨N₅, hof, ⟨q _ (by simp), q _ (by simp), q _ (by simp), q _ (by simp), q _ (by simp)⟩, how, hfk⟩
  · have ne : ∀ p ∈ cells5 L o5 o4 o3 o2 o1 ((lk, o) :: (rest ++ own)), p.1 ≠ l' := fun p hp e => by
      have := (N p hp).1
      rw [e, hn] at this
      cases this
    have N' := news_new F N k hn hg
    refine ⟨?_, own_new (o5 := o5) (o4 := o4) (o3 := o3) (o2 := o2) (o1 := o1) (rest := rest) (fun p hp => ne p ?_) (fun p hp => hof p (List.mem_cons_of_mem _ hp)), ne5 ne, fun p hp => ne p ?_, fun p hp => ne p ?_⟩
    · intro p hp
      refine N' p ?_
      simp only [cells5, List.mem_cons] at hp ⊢
      rcases hp with hp | hp | hp | hp | hp | hp | hp
      all_goals simp only [hp, true_or, or_true]
    · simp only [cells5, List.mem_cons, List.mem_append] at hp ⊢
      rcases hp with hp | hp | hp | hp | hp | hp
      all_goals simp only [hp, true_or, or_true]
    · simp only [cells5, List.mem_cons, List.mem_append]
      simp only [hp, or_true]
    · simp only [cells5, List.mem_cons, List.mem_append]
      simp only [hp, true_or, or_true]
/-- what holds between the takings in -/
noncomputable abbrev PutJ (L : Addr) (m : Str → Option Value) (o4 o3 o2 o1 : Obj) (k : Nat) (ks : List Nat) (rest : List (Addr × Obj)) : Nat → (Str → Option Value) → List (Addr × Obj) → Prop := fun i m₁ news₁ => ∃ (lk : Addr) (u : Option Value) (o5' : Obj) (ws : List Value) (n' : Nat), (m₁ = fun z => if z = Str.ofString "path" then u else m z) ∧ news₁ = cells5 L o5' o4 o3 o2 o1 ((lk, listOf (List.toArray ws) n') :: rest) ∧ o5'.data = .cell (some (.ref lk)) ∧ StrsAre ws ((keptN (ks.take i)).map (tx k)) ∧ OwnOff ((lk, listOf (List.toArray ws) n') :: rest) (cellsOf L) ∧ ∀ p ∈ rest, p.1 ≠ lk
section
variable {w : World} {mean : ExcName → Option Value} {mg mb : Str → Option Value} {dp un : Nat} {fr : Option (List Env)} {gd : Option (List Code)} {s : Shared} {Q : Flow → Shared → Prop} {E : Value → Shared → Prop}
  {h₀ : Heap} {L fa : Addr} {cd : Value} {m : Str → Option Value} {rest : List (Addr × Obj)} {o5 o4 o3 o2 o1 : Obj}
    (F : Fr h₀ L s.heap m) (off : OwnOff rest (cellsOf L)) (X : (Mine.hd.heap_39 w.params).In h₀) (T : Top Mine.hd.view_39 (looseW Mine.hd.view_39 [Str.ofString "IPV4_RE"]) mean mg mb h₀) (hdp : dp + 100 < recursionLimit) (hun : un + 1000 < cLine)
include F off X T hdp hun
theorem st4 {l0 lp : Addr} {vp : List Value} {n0 np k : Nat} {ks : List Nat} (N : News h₀ L s.heap (cells5 L o5 o4 o3 o2 o1 ((l0, listOf (List.toArray []) n0) :: rest))) (off0 : OwnOff ((l0, listOf (List.toArray []) n0) :: rest) (cellsOf L)) (hfr : ∀ p ∈ rest, p.1 ≠ l0) (hp : (lp, listOf vp.toArray np) ∈ rest) (hvp : StrsAre vp (ks.map (tx k))) (hn : Nodes ks) (hk : k < 3) (hlen : ks.length ≤ 3) (h4 : o4.data = .cell (some (.ref lp))) (h5 : o5.data = .cell (some (.ref l0)))
    (ret : ∀ lk ws n' u o5' h' tk', StrsAre ws ((keptN ks).map (tx k)) → o5'.data = .cell (some (.ref lk)) → Fr h₀ L h' (fun y => if y = Str.ofString "path" then u else m y) → News h₀ L h' (cells5 L o5' o4 o3 o2 o1 ((lk, listOf (List.toArray ws) n') :: rest)) → OwnOff ((lk, listOf (List.toArray ws) n') :: rest) (cellsOf L) → (∀ p ∈ rest, p.1 ≠ lk) → Q .next { s with heap := h', toks := tk' }) :
    wpAny (model PySem.Challenge.rw_pd0169_01.row.prog w) (Ar dp un fr gd) (exec (rs 4) (lawEnv L fa cd)) Q E s := by
  unfold lawEnv
  (conv in rs 4 => whnf)
  (conv in lawScope => whnf)
  dsimp only [cells5] at N
  w_on
  (revert X; k_fill; intro X)
  (try k_fold)
  refine for_in ?_ (by intro _; rfl)
  k_steps
  refine' for_at (PutJ L m o4 o3 o2 o1 k ks rest) ?fh ?fl ?fF ?fN ?fj ?_ ?_
  (case fh => exact rfl)
  (case fF => k_asm)
  (case fN => k_asm)
  (case fl => k_mem)
  (case fj => exact ⟨_, _, _, [], _, map_first, rfl, h5, by simpa [keptN] using StrsAre.nil, off0, hfr⟩)
  · rintro i v m₁ news₁ h tk own hvi hoff hl₁ ⟨lk, u, o5', ws, n', rfl, rfl, ho, hws, hof, hfk⟩ F₁ N₁
    obtain ⟨y, ty, rfl, hy⟩ := strsAre_get hvp i v hvi
    obtain ⟨b, hb, rfl⟩ : ∃ b, ks[i]? = some b ∧ tx k b = y := by
      rw [List.getElem?_map] at hy
      cases e : ks[i]? with
      | none => rw [e] at hy; cases hy
      | some a => rw [e] at hy; exact ⟨a, rfl, by simpa using hy⟩
    obtain ⟨hb1, hb2⟩ := hn b (List.mem_of_getElem? hb)
    obtain ⟨hkn, hkl⟩ := kept_ok (nodes_take hn i) (by have := List.length_take_le' i ks; omega)
    simp only [cells5, List.cons_append] at N₁
    k_steps
    unfold Hold
    (rename News _ _ _ _ => NA)
    (rename Fr _ _ _ _ => FA)
    rw [map_again] at FA
    refine' Does.use (put_ok (tree_k hk) (com_says hk) (keptN (ks.take i)).length (by omega) (keptN (ks.take i)) b rfl hkn hb1 hb2 lk ws n' ty hws) ?gF ?gN ?gX ?gT ?gs ?gd ?gu ?_
    (case gF => exact FA)
    (case gN => exact NA)
    (case gX => k_asm)
    (case gT => k_asm)
    (case gs => exact fun p hp => by rw [List.mem_singleton.mp hp]; k_mem)
    (case gd => omega)
    (case gu => omega)
    rintro v₅ h₅ tk₅ F₅ N₅ k₅ ⟨l', ws', n₂, rfl, hor, hg, hw'⟩
    dsimp only at hor k₅
    rw [← kept_next hb] at hw'
    have how : ∀ p ∈ own, p.1 ≠ lk := OwnOff.ne hoff (by simp)
    obtain ⟨N₆, hof', ⟨q1, q2, q3, q4, q5⟩, how', hfk'⟩ := put_led FA NA N₅ k₅ hof how hfk hor hg
    have offo : OwnOff own (cellsOf L) := cells5_own hoff
    have offr : OwnOff (rest ++ own) (cellsOf L) := fun p hp => (List.mem_append.mp hp).elim (off p) (offo p)
    clear N₅ NA FA
    (try dsimp only [cells5] at N₆)
    (try dsimp only)
    k_steps
    (rename News _ _ _ _ => NE)
    (rename Fr _ _ _ _ => FE)
    refine InvEndG.intro FE NE ⟨?_, l', _, _, ws', n₂, rfl, rfl, by with_reducible assumption, hw', hof', hfk'⟩ ?_ ?_ ?_
    · exact cells5_rest (.tail _ hp)
    · exact own_adr fun p hp q hq => cells5_adr (P := fun a => p.1 ≠ a) (fun b hb => offo p hp b hb) (all_cons (how' p hp) fun q hq => adr_own hoff hp (cells5_rest (.tail _ hq))) q hq
    · exact cells5_sub (sub_cons (.head _) fun p hp => .tail _ (List.mem_append_left _ hp))
    · exact fun p hp => cells5_rest (.tail _ (List.mem_append_right _ hp))
  · rintro m₁ news₁ h tk ⟨lk, u, o5', ws, n', rfl, rfl, ho, hws, hof, hfk⟩ F₁ N₁ _
    rw [strsAre_len hvp, List.length_map, List.take_of_length_le (Nat.le_refl _)] at hws
    exact ret _ _ _ _ _ _ _ hws ho F₁ N₁ hof hfk
end
end
section



local macro_rules | `(tactic| walk_at "exec For Name Name cons nil") => `(tactic| (k_here; refine hold_in ?_))
local macro_rules | `(tactic| walk_at "call ref") => `(tactic| (k_here; (with_reducible show wpAny _ _ (call (Value.ref 189) _) _ _ _); refine hold_in ?_))
local macro_rules | `(tactic| walk_at "subscriptTail") => `(tactic| (k_here; (with_reducible show wpAny _ _ (subscriptTail _ _ (Value.ref _) (Value.int _ _)) _ _ _); k_dflt (refine' item_z (by k_asm) (by k_mem) (by with_reducible assumption) (by first | with_reducible assumption | exact rfl) (by first | omega | exact Nat.le_of_ble_eq_true rfl) ?_ (by with_unfolding_all rfl); k_whole)))

local macro_rules | `(tactic| walk_at "call builtin:sorted") => `(tactic| (k_here; (with_reducible show wpAny _ _ (call (Value.builtin _) [Value.ref _]) _ _ _); k_dflt (refine' sort_strs (by k_asm) (by k_asm) (by k_mem) (by with_reducible assumption) (by with_reducible assumption) ?_; k_whole); intro D' h' ws' zs' e' F' N' l1 hs' hp' ho'; (try dsimp only)))
local macro_rules | `(tactic| walk_at "call ref") => `(tactic| (k_here; (with_reducible show wpAny _ _ (call (Value.ref 194) _) _ _ _); refine hold_in ?_))
local macro_rules | `(tactic| walk_at "compareOp NotEq ref ref") => `(tactic| (k_here; refine hold_in ?_))

section
variable {w : World} {mean : ExcName → Option Value} {mg mb : Str → Option Value} {dp un : Nat} {fr : Option (List Env)} {gd : Option (List Code)} {s : Shared} {Q : Flow → Shared → Prop} {E : Value → Shared → Prop}
  {h₀ : Heap} {L fa : Addr} {cd : Value} {m : Str → Option Value} {rest : List (Addr × Obj)} {o5 o4 o3 o2 o1 : Obj}
    (F : Fr h₀ L s.heap m) (N : News h₀ L s.heap (cells5 L o5 o4 o3 o2 o1 rest)) (off : OwnOff rest (cellsOf L)) (X : (Mine.hd.heap_39 w.params).In h₀) (T : Top Mine.hd.view_39 (looseW Mine.hd.view_39 [Str.ofString "IPV4_RE"]) mean mg mb h₀) (hdp : dp + 100 < recursionLimit) (hun : un + 1000 < cLine)
include F N off X T hdp hun
theorem st5 {ll lp lk : Addr} {vl vp vk : List Value} {nl np nk k : Nat} {ks : List Nat} (hl : (ll, listOf vl.toArray nl) ∈ rest) (hp : (lp, listOf vp.toArray np) ∈ rest) (hkm : (lk, listOf vk.toArray nk) ∈ rest) (hvl : IntsAre vl (natsI (lowN ks))) (hvp : StrsAre vp (litT k)) (hvk : StrsAre vk ((keptN ks).map (tx k))) (hn : Nodes ks) (hk : k < 3) (hlen : ks.length ≤ 3) (h1 : o1.data = .cell (some (.ref lp))) (h5 : o5.data = .cell (some (.ref lk))) (hm : m (Str.ofString "lowest") = some (.ref ll))
    (ret : ∀ h' tk', Fr h₀ L h' m → News h₀ L h' (cells5 L o5 o4 o3 o2 o1 rest) → Q .next { s with heap := h', toks := tk' }) :
    wpAny (model PySem.Challenge.rw_pd0169_01.row.prog w) (Ar dp un fr gd) (exec (rs 5) (lawEnv L fa cd)) Q E s := by
  have hpl : vp.length = 16 := by rw [strsAre_len hvp]; exact lit_len hk
  have hks : ((keptN ks).map (tx k)).length < 64 := by have := (kept_ok hn hlen).2; rw [List.length_map]; omega
  have hll : (natsI (lowN ks)).length ≤ 1000 := by have := low_len ks; rw [List.length_map]; omega
  unfold lawEnv
  (conv in rs 5 => whnf)
  (conv in lawScope => whnf)
  dsimp only [cells5] at N
  w_on
  (revert X; k_fill; intro X)
  (try k_fold)
  k_steps
  unfold Hold
  refine' lc_free (cl := [(Str.ofString "paths", L + 1)]) (fun _ => true) (StrTo (fun z => tx k z.toNat)) ?c1 ?c2 ?c3 ?c4 ?c5 ?_ ?c6
  (case c1 => exact rfl)
  (case c2 => decide)
  (case c3 => exact rfl)
  (case c4 => decide)
  (case c5 => exact rfl)
  (case c6 => (intro _; rfl))
  k_steps
  unfold Hold
  (rename News _ _ _ _ => NA)
  (rename Fr _ _ _ _ => FA)
  refine' Does.useL (highest_ok ll vl nl (natsI (lowN ks)) hvl hll 3 (by omega) 1 3 _ _ rfl (by decide) (by decide)) ?gF ?gN ?gX ?gT ?gs ?gd ?gu ?_
  (case gF => exact FA)
  (case gN => exact NA)
  (case gX => k_asm)
  (case gT => k_asm)
  (case gs => exact fun p hp => by rw [List.mem_singleton.mp hp]; k_mem)
  (case gd => omega)
  (case gu => omega)
  intro lh vh nh h₁ tk₁ hvh F₁ N₁ hne₁
  have hvh' : IntsAre vh (highI ks) := hvh
  have hhl : ((highI ks).map fun z => tx k z.toNat).length < 64 := by
    have e := (high_ok hn hlen).1.length_eq
    have := (kept_ok hn hlen).2
    rw [List.length_map] at e ⊢
    omega
  clear FA NA hvh
  refine' comp_list (vs := vh) (nn := nh) _ _ ?kh ?kF ?kN ?kl ?_ ?_ ?_ ?_
  (case kh => exact rfl)
  (case kF => k_asm)
  (case kN => k_asm)
  (case kl => exact List.Mem.head _)
  · have := hhl
    rw [List.length_map] at this
    rw [IntsAre.length hvh', sizeLine_eq]; omega
  · intro C s₃ v m₃ E' hv₃ F₃ N₃ k₃
    exact tests0 ⟨rfl, keeps_refl _⟩
  · intro C s₃ v m₃ E' hv₃ hp F₃ N₃ k₃
    obtain ⟨y, t₃, rfl, hy₃⟩ := ints_mem hvh' hv₃
    have hy1 := (high_ok hn hlen).2 y hy₃
    have hyi' : y = (y.toNat : Int) := by omega
    obtain ⟨ti, hti⟩ := lit_item hk (i := y.toNat) (by omega) hvp
    (try dsimp only at F₃ N₃ k₃)
    have X₃ := Frag.In.keeps X k₃
    have T₃ := T.keeps k₃
    refine el_in ?_
    k_steps
    exact el_out (fun x t e => by cases e; exact ⟨ti, rfl⟩) (fun _ _ e => e)
  · intro D n₄ ws₄ h₄ tk₄ hpair F₄ N₄ hne
    rw [filter_all] at hpair
    have hw := paired_strs hvh' hpair
    clear hpair
    (try dsimp only)
    k_steps
    unfold Hold
    (rename News _ _ _ _ => NA)
    (rename Fr _ _ _ _ => FA)
    (rename (List.Perm _ (List.map _ (keptN ks))) => p1)
    (rename (List.Perm _ (List.map _ (highI ks))) => p2)
    have e := sorted_same hn hlen p1 (by with_reducible assumption) p2 (by with_reducible assumption)
    subst e
    refine ne_strs_same NA (by k_mem) (by k_mem) (by with_reducible assumption) (by with_reducible assumption) (all_perm_str p1 (tx_all hk (kept_ok hn hlen).1)) (by show un + 64 < cLine; omega) ?_
    k_steps
    (try dsimp only)
    exact ret _ _ FA (news_sub NA fun p hp => by simp only [List.mem_cons]; simp only [cells5, List.mem_cons] at hp; simp only [hp, or_true])
end
end
section



section
variable {w : World} {mean : ExcName → Option Value} {mg mb : Str → Option Value} {dp un : Nat} {fr : Option (List Env)} {gd : Option (List Code)} {s : Shared} {Q : Flow → Shared → Prop} {E : Value → Shared → Prop}
  {h₀ : Heap} {L fa : Addr} {cd : Value} {m : Str → Option Value} {rest : List (Addr × Obj)} {o5 o4 o3 o2 o1 : Obj}
    (F : Fr h₀ L s.heap m) (N : News h₀ L s.heap (cells5 L o5 o4 o3 o2 o1 rest)) (off : OwnOff rest (cellsOf L)) (X : (Mine.hd.heap_39 w.params).In h₀) (T : Top Mine.hd.view_39 (looseW Mine.hd.view_39 [Str.ofString "IPV4_RE"]) mean mg mb h₀) (hdp : dp + 100 < recursionLimit) (hun : un + 1000 < cLine)
include F N off X T hdp hun
theorem st6
    (ret : ∀ D n' h' tk', Fr h₀ L h' (fun y => if y = Str.ofString "due" then some (.ref D) else m y) → News h₀ L h' (cells5 L o5 o4 o3 o2 o1 ((D, listOf (List.toArray []) n') :: rest)) → OwnOff ((D, listOf (List.toArray []) n') :: rest) (cellsOf L) → (∀ p ∈ rest, p.1 ≠ D) → Q .next { s with heap := h', toks := tk' }) :
    wpAny (model PySem.Challenge.rw_pd0169_01.row.prog w) (Ar dp un fr gd) (exec (rs 6) (lawEnv L fa cd)) Q E s := by
  unfold lawEnv
  (conv in rs 6 => whnf)
  (conv in lawScope => whnf)
  dsimp only [cells5] at N
  w_on
  (revert X; k_fill; intro X)
  (try k_fold)
  k_steps
  (rename News _ _ _ _ => NE)
  (rename Fr _ _ _ _ => FE)
  (rename _ < _ ∧ _ => l1)
  exact ret _ _ _ _ FE (news_in NE) (own_lt l1 off) (fresh_lt l1)
end
end
section


local macro_rules | `(tactic| walk_at "subscriptTail") => `(tactic| (k_here; (with_reducible show wpAny _ _ (subscriptTail _ _ (Value.ref _) (Value.int _ _)) _ _ _); k_dflt (refine' item_z (by k_asm) (by k_mem) (by with_reducible assumption) (by first | with_reducible assumption | exact rfl) (by first | omega | exact Nat.le_of_ble_eq_true rfl) ?_ (by with_unfolding_all rfl); k_whole)))

local macro_rules | `(tactic| walk_at "call builtin:sorted") => `(tactic| (k_here; (with_reducible show wpAny _ _ (call (Value.builtin _) [Value.ref _]) _ _ _); k_dflt (refine' sort_strs (by k_asm) (by k_asm) (by k_mem) (by with_reducible assumption) (by with_reducible assumption) ?_; k_whole); intro D' h' ws' zs' e' F' N' l1 hs' hp' ho'; (try dsimp only)))
local macro_rules | `(tactic| walk_at "call ref") => `(tactic| (k_here; (with_reducible show wpAny _ _ (call (Value.ref 194) _) _ _ _); refine hold_in ?_))
local macro_rules | `(tactic| walk_at "compareOp NotEq ref ref") => `(tactic| (k_here; refine hold_in ?_))

local macro_rules | `(tactic| walk_at "call ref") => `(tactic| (k_here; (with_reducible show wpAny _ _ (call (Value.ref 184) _) _ _ _); k_dflt (refine' zone_at (by k_asm) (by k_asm) (by k_asm) (by k_asm) (by omega) (by with_reducible assumption) ?_; k_whole); intro t' h' tk' F' N' k'; (try dsimp only)))

section
variable {w : World} {mean : ExcName → Option Value} {mg mb : Str → Option Value} {dp un : Nat} {fr : Option (List Env)} {gd : Option (List Code)} {s : Shared} {Q : Flow → Shared → Prop} {E : Value → Shared → Prop}
  {h₀ : Heap} {L fa : Addr} {cd : Value} {m : Str → Option Value} {rest : List (Addr × Obj)} {o5 o4 o3 o2 o1 : Obj}
    (F : Fr h₀ L s.heap m) (N : News h₀ L s.heap (cells5 L o5 o4 o3 o2 o1 rest)) (off : OwnOff rest (cellsOf L)) (X : (Mine.hd.heap_39 w.params).In h₀) (T : Top Mine.hd.view_39 (looseW Mine.hd.view_39 [Str.ofString "IPV4_RE"]) mean mg mb h₀) (hdp : dp + 100 < recursionLimit) (hun : un + 1000 < cLine)
include F N off X T hdp hun
theorem st7 {ll lp d0 : Addr} {vl vp : List Value} {nl np n0 k : Nat} {tt : Tok} {ks : List Nat} (hl : (ll, listOf vl.toArray nl) ∈ rest) (hp : (lp, listOf vp.toArray np) ∈ rest) (hd : (d0, listOf (List.toArray []) n0) ∈ rest) (hvl : IntsAre vl (natsI (lowN ks))) (hvp : StrsAre vp (litT k)) (hn : Nodes ks) (hk : k < 3) (h1 : o1.data = .cell (some (.ref lp))) (hm : m (Str.ofString "lowest") = some (.ref ll)) (hmt : m (Str.ofString "top") = some (.str (topT k) tt)) (hmd : m (Str.ofString "due") = some (.ref d0))
    (ret : ∀ D wd n' ds h' tk', DueOk k ks ds → StrsAre wd ds → Fr h₀ L h' (fun y => if y = Str.ofString "due" then some (.ref D) else m y) → News h₀ L h' (cells5 L o5 o4 o3 o2 o1 ((D, listOf (List.toArray wd) n') :: rest)) → OwnOff ((D, listOf (List.toArray wd) n') :: rest) (cellsOf L) → (D = d0 ∨ ∀ p ∈ rest, p.1 ≠ D) → Q .next { s with heap := h', toks := tk' }) :
    wpAny (model PySem.Challenge.rw_pd0169_01.row.prog w) (Ar dp un fr gd) (exec (rs 7) (lawEnv L fa cd)) Q E s := by
  have hpl : vp.length = 16 := by rw [strsAre_len hvp]; exact lit_len hk
  have hll : ((natsI (lowN ks)).map fun z => wt k z.toNat).length < 64 := by have := low_len ks; rw [List.length_map, List.length_map]; omega
  unfold lawEnv
  (conv in rs 7 => whnf)
  (conv in lawScope => whnf)
  dsimp only [cells5] at N
  w_on
  (revert X; k_fill; intro X)
  (try k_fold)
  k_steps
  · unfold Hold
    refine' lc_free (cl := [(Str.ofString "paths", L + 1)]) (fun _ => true) (StrTo (fun z => wt k z.toNat)) ?c1 ?c2 ?c3 ?c4 ?c5 ?_ ?c6
    (case c1 => exact rfl)
    (case c2 => decide)
    (case c3 => exact rfl)
    (case c4 => decide)
    (case c5 => exact rfl)
    (case c6 => (intro _; rfl))
    k_steps
    refine' comp_list (vs := vl) (nn := nl) _ _ ?kh ?kF ?kN ?kl ?_ ?_ ?_ ?_
    (case kh => exact rfl)
    (case kF => k_asm)
    (case kN => k_asm)
    (case kl => k_mem)
    · rw [IntsAre.length hvl, sizeLine_eq, List.length_map]; have := low_len ks; omega
    · intro C s₃ v m₃ E' hv₃ F₃ N₃ k₃
      exact tests0 ⟨rfl, keeps_refl _⟩
    · intro C s₃ v m₃ E' hv₃ hp F₃ N₃ k₃
      obtain ⟨y, t₃, rfl, hy₃⟩ := ints_mem hvl hv₃
      obtain ⟨i, hi, hyi⟩ := List.mem_map.mp hy₃
      have hyi' : y = (i : Int) := hyi.symm
      have hi2 := low_sub hi
      obtain ⟨ti, hti⟩ := lit_item hk (i := i) (by omega) hvp
      obtain ⟨hz, hzl⟩ := zone_k hk hi2.2
      (try dsimp only at F₃ N₃ k₃)
      have X₃ := Frag.In.keeps X k₃
      have T₃ := T.keeps k₃
      refine el_in ?_
      k_steps
      refine el_str ?_ (by with_reducible assumption)
      have e' : y.toNat = i := by rw [hyi']; exact Int.toNat_natCast i
      show wt k y.toNat = wt k i
      rw [e']
    · intro D n₄ ws₄ h₄ tk₄ hpair F₄ N₄ hne
      rw [filter_all] at hpair
      have hw := paired_strs hvl hpair
      clear hpair
      (try dsimp only)
      k_steps
      (rename News _ _ _ _ => NE)
      (rename Fr _ _ _ _ => FE)
      (rename List.Perm _ _ => p1)
      (rename ∀ p : Addr × Obj, p ∈ (_ : List (Addr × Obj)) → p.1 < (_ : Addr) => l1)
      (rename (topT k != _) = true => ht)
      rw [nats_map] at p1
      have hk1 : k ≠ 1 := by rw [top7 hk] at ht; exact of_decide_eq_true ht
      refine ret _ _ _ _ _ _ (.inr ⟨hk1, p1, by with_reducible assumption⟩) (by with_reducible assumption) FE (news_in2 NE) (own_new (o5 := o5) (o4 := o4) (o3 := o3) (o2 := o2) (o1 := o1) (fun p hp => Nat.ne_of_lt (l1 p (List.mem_cons_of_mem _ hp))) off) (.inr (fresh_of (o5 := o5) (o4 := o4) (o3 := o3) (o2 := o2) (o1 := o1) fun p hp => Nat.ne_of_lt (l1 p (List.mem_cons_of_mem _ hp))))
  · (rename (topT k != _) = false => ht)
    have hk1 : k = 1 := by rw [top7 hk] at ht; exact Decidable.of_not_not (of_decide_eq_false ht)
    exact ret d0 [] n0 [] _ _ (.inl ⟨hk1, rfl⟩) .nil (fr_off F (map_is hmd)) (news_dup hd N) (own_mem hd off) (.inl rfl)
end
end
section
local macro_rules | `(tactic| walk_at "none of these") => `(tactic| skip)



local macro_rules | `(tactic| walk_at "call builtin:sorted") => `(tactic| (k_here; (with_reducible show wpAny _ _ (call (Value.builtin _) [Value.ref _]) _ _ _); k_dflt (refine' sort_strs (by k_asm) (by k_asm) (by k_mem) (by with_reducible assumption) (by with_reducible assumption) ?_; k_whole); intro D' h' ws' zs' e' F' N' l1 hs' hp' ho'; (try dsimp only)))
local macro_rules | `(tactic| walk_at "call ref") => `(tactic| (k_here; (with_reducible show wpAny _ _ (call (Value.ref 194) _) _ _ _); refine hold_in ?_))
local macro_rules | `(tactic| walk_at "compareOp NotEq ref ref") => `(tactic| (k_here; refine hold_in ?_))

local macro_rules | `(tactic| walk_at "call ref") => `(tactic| (k_here; (with_reducible show wpAny _ _ (call (Value.ref 184) _) _ _ _); k_dflt (refine' zone_at (by k_asm) (by k_asm) (by k_asm) (by k_asm) (by omega) (by with_reducible assumption) ?_; k_whole); intro t' h' tk' F' N' k'; (try dsimp only)))

local macro_rules | `(tactic| walk_at "call ref") => `(tactic| (k_here; (with_reducible show wpAny _ _ (call (Value.ref 201) _) _ _ _); refine hold_in ?_))

section
variable {w : World} {mean : ExcName → Option Value} {mg mb : Str → Option Value} {dp un : Nat} {fr : Option (List Env)} {gd : Option (List Code)} {s : Shared} {Q : Flow → Shared → Prop} {E : Value → Shared → Prop}
  {h₀ : Heap} {L fa : Addr} {cd : Value} {m : Str → Option Value} {rest : List (Addr × Obj)} {o5 o4 o3 o2 o1 : Obj}
    (F : Fr h₀ L s.heap m) (N : News h₀ L s.heap (cells5 L o5 o4 o3 o2 o1 rest)) (off : OwnOff rest (cellsOf L)) (X : (Mine.hd.heap_39 w.params).In h₀) (T : Top Mine.hd.view_39 (looseW Mine.hd.view_39 [Str.ofString "IPV4_RE"]) mean mg mb h₀) (hdp : dp + 100 < recursionLimit) (hun : un + 1000 < cLine)
include F N off X T hdp hun
theorem st8 {lh lp : Addr} {vh vp : List Value} {nh np k : Nat} {ks : List Nat} {hs ds : List Str} (hh : (lh, listOf vh.toArray nh) ∈ rest) (hp : (lp, listOf vp.toArray np) ∈ rest) (hvh : StrsAre vh hs) (hvp : StrsAre vp (ks.map (tx k))) (hhp : hs.Perm (leafsN.map (wt k))) (hhs : sortedS hs = true) (hd : DueOk k ks ds) (hT : Tells ks ks) (hk : k < 3) (hlen : ks.length ≤ 3) (h4 : o4.data = .cell (some (.ref lp))) (hm : m (Str.ofString "hosts") = some (.ref lh))
    (ret : ∀ D ws n' h' tk', StrsAre ws ds → Fr h₀ L h' (fun y => if y = Str.ofString "found" then some (.ref D) else m y) → News h₀ L h' (cells5 L o5 o4 o3 o2 o1 ((D, listOf (List.toArray ws) n') :: rest)) → OwnOff ((D, listOf (List.toArray ws) n') :: rest) (cellsOf L) → (∀ p ∈ rest, p.1 ≠ D) → Q .next { s with heap := h', toks := tk' }) :
    wpAny (model PySem.Challenge.rw_pd0169_01.row.prog w) (Ar dp un fr gd) (exec (rs 8) (lawEnv L fa cd)) Q E s := by
  have hhl : hs.length = 8 := by rw [hhp.length_eq, List.length_map]; rfl
  unfold lawEnv
  (conv in rs 8 => whnf)
  (conv in lawScope => whnf)
  dsimp only [cells5] at N
  w_on
  (revert X; k_fill; intro X)
  (try k_fold)
  refine' lc_assign (cl := [(Str.ofString "plain", L + 1 + 1 + 1 + 1)]) (strP (hitZ k ks)) (fun v y => y = v) ?c0 ?c1 ?c2 ?c3 ?c4 ?c5 ?c7 ?c8 ?_ ?c6
  (case c0 => with_unfolding_all rfl)
  (case c1 => exact rfl)
  (case c2 => decide)
  (case c3 => exact rfl)
  (case c4 => decide)
  (case c5 => exact rfl)
  (case c7 => exact rfl)
  (case c8 => exact rfl)
  (case c6 => (intro _; rfl))
  k_steps
  (try dsimp only)
  refine' comp_list_s (vs := vh) (nn := nh) _ _ ?kh ?kL ?kF ?kN ?kl ?_ ?_ ?_ ?_
  (case kh => exact rfl)
  (case kF => k_asm)
  (case kN => k_asm)
  (case kL => exact rfl)
  (case kl => k_mem)
  · rw [strsAre_len hvh, hhl, sizeLine_eq]; omega
  · intro C s₃ v m₃ E' hv₃ F₃ N₃ k₃
    (try dsimp only at F₃ N₃ k₃)
    have X₃ := Frag.In.keeps X k₃
    have T₃ := T.keeps k₃
    obtain ⟨x₃, t₃, rfl, hx₃⟩ := strs_mem hvh hv₃
    obtain ⟨a₃, ha₃, rfl⟩ := List.mem_map.mp (hhp.mem_iff.mp hx₃)
    obtain ⟨b₃, c₃⟩ := leafs_mem.mp ha₃
    refine tests1 (test_in ?_)
    k_steps
    unfold Hold
    refine' lc_free (cl := []) (fun _ => true) (ZoneTo) ?c1 ?c2 ?c3 ?c4 ?c5 ?_ ?c6
    (case c1 => exact rfl)
    (case c2 => decide)
    (case c3 => exact rfl)
    (case c4 => decide)
    (case c5 => exact rfl)
    (case c6 => (intro _; rfl))
    k_steps
    (rename News (hid _ _) C _ _ => NA)
    (rename Fr (hid _ _) C _ _ => FA)
    refine' comp_listK (vs := vp) (nn := np) _ _ ?kh ?kF ?kN ?kl ?_ ?_ ?_ ?_
    (case kh => exact rfl)
    (case kF => exact FA)
    (case kN => exact NA)
    (case kl => k_mem)
    · rw [strsAre_len hvp, sizeLine_eq, List.length_map]; omega
    · intro C₂ s₅ v₅ m₅ E₅ hv₅ F₅ N₅ k₅
      exact tests0 ⟨rfl, keeps_refl _⟩
    · intro C₂ s₅ v₅ m₅ E₅ hv₅ hp₅ F₅ N₅ k₅
      clear NA FA
      (try dsimp only at F₅ N₅ k₅)
      have X₅ := Frag.In.keeps X₃ k₅
      have T₅ := T₃.keeps k₅
      clear X₃ T₃ X T
      obtain ⟨x₅, t₅, rfl, hx₅⟩ := strs_mem hvp hv₅
      obtain ⟨a₅, ha₅, rfl⟩ := List.mem_map.mp hx₅
      have hz := (zone_k hk (i := a₅) (by have := hT.1 a₅ ha₅; omega)).1
      refine el_in ?_
      k_steps
      exact el_zone (by with_reducible assumption)
    · intro D₄ n₄ ws₄ h₄ tk₄ hpair F₄ N₄ hne₄ kp₄
      rw [filter_all] at hpair
      have hw := paired_zones hvp hpair
      rw [zones_map] at hw
      clear hpair
      (try dsimp only at kp₄)
      (try dsimp only)
      clear NA FA
      k_steps
      unfold Hold
      refine' Does.use (found_ok (wt k a₃) t₃ D₄ ws₄ n₄ (ks.map (zt k)) hw (by have := (txok hk c₃).2.2; omega) (zone_udm hk b₃ c₃ hT.1)) ?gF ?gN ?gX ?gT ?gs ?gd ?gu ?_
      (case gF => exact F₄)
      (case gN => exact N₄)
      (case gX => k_asm)
      (case gT => k_asm)
      (case gs => exact fun p hp => by rw [List.mem_singleton.mp hp]; exact List.Mem.head _)
      (case gd => omega)
      (case gu => omega)
      rintro v₆ h₆ tk₆ F₆ N₆ k₆ rfl
      (try dsimp only at k₆)
      (try dsimp only)
      k_steps
      exact test_out hit_def (fun b o e => k₆ b o (kp₄ b o e))
  · intro C s₃ v m₃ E' hv₃ hp F₃ N₃ k₃
    (try dsimp only at F₃ N₃ k₃)
    have X₃ := Frag.In.keeps X k₃
    have T₃ := T.keeps k₃
    refine el_in (G := fun v y => y = v) ?_
    k_steps
    exact el_out rfl (fun _ _ e => e)
  · intro D n₄ ws₄ h₄ tk₄ hpair F₄ N₄ hne
    obtain rfl := paired_eq hpair
    have hw := strs_filter (hitZ k ks) hvh
    rw [found_eq hk hT hhp hhs hd] at hw
    clear hpair
    (try dsimp only)
    exact ret _ _ _ _ _ hw F₄ (news_in N₄) (own_new hne off) (fresh_of hne)
end
end
section



local macro_rules | `(tactic| walk_at "call builtin:sorted") => `(tactic| (k_here; (with_reducible show wpAny _ _ (call (Value.builtin _) [Value.ref _]) _ _ _); k_dflt (refine' sort_strs (by k_asm) (by k_asm) (by k_mem) (by with_reducible assumption) (by with_reducible assumption) ?_; k_whole); intro D' h' ws' zs' e' F' N' l1 hs' hp' ho'; (try dsimp only)))
local macro_rules | `(tactic| walk_at "call ref") => `(tactic| (k_here; (with_reducible show wpAny _ _ (call (Value.ref 194) _) _ _ _); refine hold_in ?_))
local macro_rules | `(tactic| walk_at "compareOp NotEq ref ref") => `(tactic| (k_here; refine hold_in ?_))

section
variable {w : World} {mean : ExcName → Option Value} {mg mb : Str → Option Value} {dp un : Nat} {fr : Option (List Env)} {gd : Option (List Code)} {s : Shared} {Q : Flow → Shared → Prop} {E : Value → Shared → Prop}
  {h₀ : Heap} {L fa : Addr} {cd : Value} {m : Str → Option Value} {rest : List (Addr × Obj)} {o5 o4 o3 o2 o1 : Obj}
    (F : Fr h₀ L s.heap m) (N : News h₀ L s.heap (cells5 L o5 o4 o3 o2 o1 rest)) (off : OwnOff rest (cellsOf L)) (X : (Mine.hd.heap_39 w.params).In h₀) (T : Top Mine.hd.view_39 (looseW Mine.hd.view_39 [Str.ofString "IPV4_RE"]) mean mg mb h₀) (hdp : dp + 100 < recursionLimit) (hun : un + 1000 < cLine)
include F N off X T hdp hun
theorem st9 {lf ld : Addr} {vf vd : List Value} {nf nd k : Nat} {ks : List Nat} {ds : List Str} (hf : (lf, listOf vf.toArray nf) ∈ rest) (hdm : (ld, listOf vd.toArray nd) ∈ rest) (hvf : StrsAre vf ds) (hvd : StrsAre vd ds) (hd : DueOk k ks ds) (hk : k < 3) (hmf : m (Str.ofString "found") = some (.ref lf)) (hmd : m (Str.ofString "due") = some (.ref ld))
    (ret : ∀ h' tk', Fr h₀ L h' m → News h₀ L h' (cells5 L o5 o4 o3 o2 o1 rest) → Q .next { s with heap := h', toks := tk' }) :
    wpAny (model PySem.Challenge.rw_pd0169_01.row.prog w) (Ar dp un fr gd) (exec (rs 9) (lawEnv L fa cd)) Q E s := by
  unfold lawEnv
  (conv in rs 9 => whnf)
  (conv in lawScope => whnf)
  dsimp only [cells5] at N
  w_on
  (revert X; k_fill; intro X)
  (try k_fold)
  k_steps
  unfold Hold
  refine ne_strs_same N (by k_mem) (by k_mem) hvf hvd (due_all hk hd) (by show un + 64 < cLine; omega) ?_
  k_steps
  exact ret _ _ F N
end
end
section



local macro_rules | `(tactic| walk_at "call builtin:sorted") => `(tactic| (k_here; (with_reducible show wpAny _ _ (call (Value.builtin _) [Value.ref _]) _ _ _); k_dflt (refine' sort_strs (by k_asm) (by k_asm) (by k_mem) (by with_reducible assumption) (by with_reducible assumption) ?_; k_whole); intro D' h' ws' zs' e' F' N' l1 hs' hp' ho'; (try dsimp only)))
local macro_rules | `(tactic| walk_at "call ref") => `(tactic| (k_here; (with_reducible show wpAny _ _ (call (Value.ref 194) _) _ _ _); refine hold_in ?_))
local macro_rules | `(tactic| walk_at "compareOp NotEq ref ref") => `(tactic| (k_here; refine hold_in ?_))

local macro_rules | `(tactic| walk_at "call ref") => `(tactic| (k_here; (with_reducible show wpAny _ _ (call (Value.ref 184) _) _ _ _); k_dflt (refine' zone_at (by k_asm) (by k_asm) (by k_asm) (by k_asm) (by omega) (by with_reducible assumption) ?_; k_whole); intro t' h' tk' F' N' k'; (try dsimp only)))

local macro_rules | `(tactic| walk_at "call ref") => `(tactic| (k_here; (with_reducible show wpAny _ _ (call (Value.ref 201) _) _ _ _); refine hold_in ?_))

section
variable {w : World} {mean : ExcName → Option Value} {mg mb : Str → Option Value} {dp un : Nat} {fr : Option (List Env)} {gd : Option (List Code)} {s : Shared} {Q : Flow → Shared → Prop} {E : Value → Shared → Prop}
  {h₀ : Heap} {L fa : Addr} {cd : Value} {m : Str → Option Value} {rest : List (Addr × Obj)} {o5 o4 o3 o2 o1 : Obj}
    (F : Fr h₀ L s.heap m) (N : News h₀ L s.heap (cells5 L o5 o4 o3 o2 o1 rest)) (off : OwnOff rest (cellsOf L)) (X : (Mine.hd.heap_39 w.params).In h₀) (T : Top Mine.hd.view_39 (looseW Mine.hd.view_39 [Str.ofString "IPV4_RE"]) mean mg mb h₀) (hdp : dp + 100 < recursionLimit) (hun : un + 1000 < cLine)
include F N off X T hdp hun
theorem st10 {lh lp lk ld : Addr} {vh vp vk vd : List Value} {nh np nk nd k : Nat} {ks : List Nat} {hs ds : List Str} (hh : (lh, listOf vh.toArray nh) ∈ rest) (hp : (lp, listOf vp.toArray np) ∈ rest) (hkm : (lk, listOf vk.toArray nk) ∈ rest) (hdm : (ld, listOf vd.toArray nd) ∈ rest) (hvh : StrsAre vh hs) (hvp : StrsAre vp (ks.map (tx k))) (hvk : StrsAre vk ((keptN ks).map (tx k))) (hvd : StrsAre vd ds) (hhp : hs.Perm (leafsN.map (wt k))) (hhs : sortedS hs = true) (hd : DueOk k ks ds) (hn : Nodes ks) (hT : Tells ks (keptN ks)) (hk : k < 3) (hlen : ks.length ≤ 3) (h4 : o4.data = .cell (some (.ref lp))) (h5 : o5.data = .cell (some (.ref lk))) (hm : m (Str.ofString "hosts") = some (.ref lh)) (hmd : m (Str.ofString "due") = some (.ref ld))
    (ret : ∀ h' tk', Fr h₀ L h' m → News h₀ L h' (cells5 L o5 o4 o3 o2 o1 rest) → Q .next { s with heap := h', toks := tk' }) :
    wpAny (model PySem.Challenge.rw_pd0169_01.row.prog w) (Ar dp un fr gd) (exec (rs 10) (lawEnv L fa cd)) Q E s := by
  have hhl : hs.length = 8 := by rw [hhp.length_eq, List.length_map]; rfl
  have hkl := (kept_ok hn hlen).2
  have hkn := (kept_ok hn hlen).1
  unfold lawEnv
  (conv in rs 10 => whnf)
  (conv in lawScope => whnf)
  dsimp only [cells5] at N
  w_on
  (revert X; k_fill; intro X)
  (try k_fold)
  k_steps
  unfold Hold
  refine ne_strs N (by k_mem) (by k_mem) hvk hvp (tx_all hk hkn) (tx_all hk hn) (by show un + 64 < cLine; omega) ?_
  k_steps
  · exact ret _ _ F N
  · unfold Hold
    refine' lc_free (cl := [(Str.ofString "kept", L + 1 + 1 + 1 + 1 + 1)]) (strP (hitZ k (keptN ks))) (fun v y => y = v) ?c1 ?c2 ?c3 ?c4 ?c5 ?_ ?c6
    (case c1 => exact rfl)
    (case c2 => decide)
    (case c3 => exact rfl)
    (case c4 => decide)
    (case c5 => exact rfl)
    (case c6 => (intro _; rfl))
    k_steps
    (try dsimp only)
    refine' comp_list (vs := vh) (nn := nh) _ _ ?kh ?kF ?kN ?kl ?_ ?_ ?_ ?_
    (case kh => exact rfl)
    (case kF => k_asm)
    (case kN => k_asm)
    (case kl => k_mem)
    · rw [strsAre_len hvh, hhl, sizeLine_eq]; omega
    · intro C s₃ v m₃ E' hv₃ F₃ N₃ k₃
      (try dsimp only at F₃ N₃ k₃)
      have X₃ := Frag.In.keeps X k₃
      have T₃ := T.keeps k₃
      obtain ⟨x₃, t₃, rfl, hx₃⟩ := strs_mem hvh hv₃
      obtain ⟨a₃, ha₃, rfl⟩ := List.mem_map.mp (hhp.mem_iff.mp hx₃)
      obtain ⟨b₃, c₃⟩ := leafs_mem.mp ha₃
      refine tests1 (test_in ?_)
      k_steps
      unfold Hold
      refine' lc_free (cl := []) (fun _ => true) (ZoneTo) ?c1 ?c2 ?c3 ?c4 ?c5 ?_ ?c6
      (case c1 => exact rfl)
      (case c2 => decide)
      (case c3 => exact rfl)
      (case c4 => decide)
      (case c5 => exact rfl)
      (case c6 => (intro _; rfl))
      k_steps
      (rename News (hid _ _) C _ _ => NA)
      (rename Fr (hid _ _) C _ _ => FA)
      refine' comp_listK (vs := vk) (nn := nk) _ _ ?kh ?kF ?kN ?kl ?_ ?_ ?_ ?_
      (case kh => exact rfl)
      (case kF => exact FA)
      (case kN => exact NA)
      (case kl => k_mem)
      · rw [strsAre_len hvk, sizeLine_eq, List.length_map]; omega
      · intro C₂ s₅ v₅ m₅ E₅ hv₅ F₅ N₅ k₅
        exact tests0 ⟨rfl, keeps_refl _⟩
      · intro C₂ s₅ v₅ m₅ E₅ hv₅ hp₅ F₅ N₅ k₅
        clear NA FA
        (try dsimp only at F₅ N₅ k₅)
        have X₅ := Frag.In.keeps X₃ k₅
        have T₅ := T₃.keeps k₅
        clear X₃ T₃ X T
        obtain ⟨x₅, t₅, rfl, hx₅⟩ := strs_mem hvk hv₅
        obtain ⟨a₅, ha₅, rfl⟩ := List.mem_map.mp hx₅
        have hz := (zone_k hk (i := a₅) (by have := hT.1 a₅ ha₅; omega)).1
        refine el_in ?_
        k_steps
        exact el_zone (by with_reducible assumption)
      · intro D₄ n₄ ws₄ h₄ tk₄ hpair F₄ N₄ hne₄ kp₄
        rw [filter_all] at hpair
        have hw := paired_zones hvk hpair
        rw [zones_map] at hw
        clear hpair
        (try dsimp only at kp₄)
        (try dsimp only)
        clear NA FA
        k_steps
        unfold Hold
        refine' Does.use (found_ok (wt k a₃) t₃ D₄ ws₄ n₄ ((keptN ks).map (zt k)) hw (by have := (txok hk c₃).2.2; omega) (zone_udm hk b₃ c₃ hT.1)) ?gF ?gN ?gX ?gT ?gs ?gd ?gu ?_
        (case gF => exact F₄)
        (case gN => exact N₄)
        (case gX => k_asm)
        (case gT => k_asm)
        (case gs => exact fun p hp => by rw [List.mem_singleton.mp hp]; exact List.Mem.head _)
        (case gd => omega)
        (case gu => omega)
        rintro v₆ h₆ tk₆ F₆ N₆ k₆ rfl
        (try dsimp only at k₆)
        (try dsimp only)
        k_steps
        exact test_out hit_def (fun b o e => k₆ b o (kp₄ b o e))
    · intro C s₃ v m₃ E' hv₃ hp F₃ N₃ k₃
      (try dsimp only at F₃ N₃ k₃)
      have X₃ := Frag.In.keeps X k₃
      have T₃ := T.keeps k₃
      refine el_in (G := fun v y => y = v) ?_
      k_steps
      exact el_out rfl (fun _ _ e => e)
    · intro D n₄ ws₄ h₄ tk₄ hpair F₄ N₄ hne
      obtain rfl := paired_eq hpair
      have hw := strs_filter (hitZ k (keptN ks)) hvh
      rw [found_eq hk hT hhp hhs hd] at hw
      clear hpair
      (try dsimp only)
      k_steps
      unfold Hold
      refine ne_strs_same N₄ (List.Mem.head _) (by k_mem) hw hvd (due_all hk hd) (by show un + 64 < cLine; omega) ?_
      k_steps
      exact ret _ _ F₄ (news_sub N₄ fun p hp => List.mem_cons_of_mem _ hp)
end
end
section


local macro_rules | `(tactic| walk_at "call builtin:list.append") => `(tactic| (k_here; k_dflt (refine' append_K (by k_asm) (by k_asm) (by k_upd) ?_ (by (simp only [List.size_toArray]; rw [sizeLine_eq]; omega)); k_whole); intro h' F' N'; (try dsimp only); (try k_sweep)))
local macro_rules | `(tactic| k_all) => `(tactic| with_reducible assumption)

section
variable {w : World} {mean : ExcName → Option Value} {mg mb : Str → Option Value} {dp un : Nat} {fr : Option (List Env)} {gd : Option (List Code)} {s : Shared} {Q : Flow → Shared → Prop} {E : Value → Shared → Prop}
  {h₀ : Heap} {L fa : Addr} {cd : Value} {m : Str → Option Value} {rest : List (Addr × Obj)} {o5 o4 o3 o2 o1 : Obj}
    (F : Fr h₀ L s.heap m) (X : (Mine.hd.heap_39 w.params).In h₀) (T : Top Mine.hd.view_39 (looseW Mine.hd.view_39 [Str.ofString "IPV4_RE"]) mean mg mb h₀)
include F X T
theorem st11 {lt lf : Addr} {vt : List Value} {nt : Nat} (N : News h₀ L s.heap (cells5 L o5 o4 o3 o2 o1 ((lt, listOf vt.toArray nt) :: rest))) (offt : ∀ p ∈ rest, p.1 ≠ lt) (q1 : L + 1 ≠ lt) (q2 : L + 1 + 1 ≠ lt) (q3 : L + 1 + 1 + 1 ≠ lt) (q4 : L + 1 + 1 + 1 + 1 ≠ lt) (q5 : L + 1 + 1 + 1 + 1 + 1 ≠ lt) (hlen : vt.length ≤ 10) (hmt : m (Str.ofString "told") = some (.ref lt)) (hmf : m (Str.ofString "found") = some (.ref lf))
    (ret : ∀ n' h' tk', Fr h₀ L h' m → News h₀ L h' (cells5 L o5 o4 o3 o2 o1 ((lt, listOf (List.toArray (vt ++ [.ref lf])) n') :: rest)) → Q .next { s with heap := h', toks := tk' }) :
    wpAny (model PySem.Challenge.rw_pd0169_01.row.prog w) (Ar dp un fr gd) (exec (rs 11) (lawEnv L fa cd)) Q E s := by
  unfold lawEnv
  (conv in rs 11 => whnf)
  (conv in lawScope => whnf)
  dsimp only [cells5] at N
  w_on
  (revert X; k_fill; intro X)
  (try k_fold)
  k_steps
  (rename News _ _ _ _ => NE)
  (rename Fr _ _ _ _ => FE)
  rw [List.push_toArray] at NE
  exact ret _ _ _ FE NE
end
end
section


local macro_rules | `(tactic| walk_at "call builtin:list.append") => `(tactic| (k_here; k_dflt (refine' append_K (by k_asm) (by k_asm) (by k_upd) ?_ (by (simp only [List.size_toArray]; rw [sizeLine_eq]; omega)); k_whole); intro h' F' N'; (try dsimp only); (try k_sweep)))
local macro_rules | `(tactic| k_all) => `(tactic| with_reducible assumption)

section
variable {w : World} {mean : ExcName → Option Value} {mg mb : Str → Option Value} {dp un : Nat} {fr : Option (List Env)} {gd : Option (List Code)} {s : Shared} {Q : Flow → Shared → Prop} {E : Value → Shared → Prop}
  {h₀ : Heap} {L fa : Addr} {cd : Value} {m : Str → Option Value} {rest : List (Addr × Obj)} {o5 o4 o3 o2 o1 : Obj}
    (F : Fr h₀ L s.heap m) (X : (Mine.hd.heap_39 w.params).In h₀) (T : Top Mine.hd.view_39 (looseW Mine.hd.view_39 [Str.ofString "IPV4_RE"]) mean mg mb h₀)
include F X T
theorem st12 {lt lf : Addr} {vt : List Value} {nt : Nat} (N : News h₀ L s.heap (cells5 L o5 o4 o3 o2 o1 ((lt, listOf vt.toArray nt) :: rest))) (offt : ∀ p ∈ rest, p.1 ≠ lt) (q1 : L + 1 ≠ lt) (q2 : L + 1 + 1 ≠ lt) (q3 : L + 1 + 1 + 1 ≠ lt) (q4 : L + 1 + 1 + 1 + 1 ≠ lt) (q5 : L + 1 + 1 + 1 + 1 + 1 ≠ lt) (hlen : vt.length ≤ 10) (h2 : o2.data = .cell (some (.ref lt))) (hmf : m (Str.ofString "due") = some (.ref lf))
    (ret : ∀ n' h' tk', Fr h₀ L h' m → News h₀ L h' (cells5 L o5 o4 o3 o2 o1 ((lt, listOf (List.toArray (vt ++ [.ref lf])) n') :: rest)) → Q .next { s with heap := h', toks := tk' }) :
    wpAny (model PySem.Challenge.rw_pd0169_01.row.prog w) (Ar dp un fr gd) (exec (rs 12) (lawEnv L fa cd)) Q E s := by
  unfold lawEnv
  (conv in rs 12 => whnf)
  (conv in lawScope => whnf)
  dsimp only [cells5] at N
  w_on
  (revert X; k_fill; intro X)
  (try k_fold)
  k_steps
  (rename News _ _ _ _ => NE)
  (rename Fr _ _ _ _ => FE)
  rw [List.push_toArray] at NE
  exact ret _ _ _ FE NE
end
end
section
local macro_rules | `(tactic| k_mem) => `(tactic| ((show (_ : Addr × Obj) ∈ (_ : List (Addr × Obj))); with_reducible assumption))
theorem row_is : rowBody = [rs 0, rs 1, rs 2, rs 3, rs 4, rs 5, rs 6, rs 7, rs 8, rs 9, rs 10, rs 11, rs 12] := by rfl
noncomputable def nodesOf (ns : List Int) : List Nat := ns.map fun x => (nodeZ x).toNat
theorem nodeZ_in (x : Int) : 1 ≤ nodeZ x ∧ nodeZ x ≤ 15 := by
  unfold nodeZ
  have h1 := Int.fmod_nonneg_of_pos (x.fdiv 3) (b := 15) (by decide)
  have h2 := Int.fmod_lt_of_pos (x.fdiv 3) (b := 15) (by decide)
  omega
theorem nodes_is (ns : List Int) : natsI (nodesOf ns) = ns.map nodeZ := by
  unfold nodesOf natsI
  rw [List.map_map]
  refine List.map_congr_left fun x _ => ?_
  have := nodeZ_in x
  show ((nodeZ x).toNat : Int) = nodeZ x
  omega
theorem nodes_in (ns : List Int) : Nodes (nodesOf ns) := by
  intro a ha
  obtain ⟨x, _, rfl⟩ := List.mem_map.mp ha
  have := nodeZ_in x
  omega
theorem ne_cells {L lt : Addr} {rest : List (Addr × Obj)} (off : OwnOff rest (cellsOf L)) {o : Obj} (h : (lt, o) ∈ rest) : L + 1 ≠ lt ∧ L + 1 + 1 ≠ lt ∧ L + 1 + 1 + 1 ≠ lt ∧ L + 1 + 1 + 1 + 1 ≠ lt ∧ L + 1 + 1 + 1 + 1 + 1 ≠ lt := by
  have q := fun b hb => Ne.symm (off _ h b hb)
  simp only [cellsOf, List.mem_cons, List.not_mem_nil, or_false] at q
  exact ⟨q _ (by simp), q _ (by simp), q _ (by simp), q _ (by simp), q _ (by simp)⟩
section
variable {w : World} {mean : ExcName → Option Value} {mg mb : Str → Option Value} {dp un : Nat} {fr : Option (List Env)} {gd : Option (List Code)} {s : Shared} {Q : Flow → Shared → Prop} {E : Value → Shared → Prop}
  {h₀ : Heap} {L fa : Addr} {cd : Value} {m : Str → Option Value} {r0 : List (Addr × Obj)} {o5 o4 o3 o2 o1 : Obj}
theorem row_ok {lt ld lr lp lh : Addr} {vt vd vr vp vh : List Value} {nt nd nr np nh k : Nat} {ns : List Int} {hs : List Str} {tt : Tok} {c5 c4 c3 : Option Value}
    (F : Fr h₀ L s.heap m) (N : News h₀ L s.heap (cells5 L o5 o4 o3 o2 o1 ((lt, listOf vt.toArray nt) :: (ld, listOf vd.toArray nd) :: r0))) (off : OwnOff ((lt, listOf vt.toArray nt) :: (ld, listOf vd.toArray nd) :: r0) (cellsOf L)) (X : (Mine.hd.heap_39 w.params).In h₀) (T : Top Mine.hd.view_39 (looseW Mine.hd.view_39 [Str.ofString "IPV4_RE"]) mean mg mb h₀) (hdp : dp + 100 < recursionLimit) (hun : un + 1000 < cLine)
    (hlt : lt ≠ ld) (offt : ∀ p ∈ r0, p.1 ≠ lt) (offd : ∀ p ∈ r0, p.1 ≠ ld)
    (hmr : m (Str.ofString "row") = some (.ref lr)) (hmh : m (Str.ofString "hosts") = some (.ref lh)) (hmt : m (Str.ofString "top") = some (.str (topT k) tt)) (hmo : m (Str.ofString "told") = some (.ref lt))
    (hr : (lr, listOf vr.toArray nr) ∈ r0) (hp : (lp, listOf vp.toArray np) ∈ r0) (hh : (lh, listOf vh.toArray nh) ∈ r0) (hvr : IntsAre vr ns) (hlen : ns.length ≤ 3) (hvp : StrsAre vp (litT k)) (hk : k < 3) (hvh : StrsAre vh hs) (hhp : hs.Perm (leafsN.map (wt k))) (hhs : sortedS hs = true)
    (h5 : o5.data = .cell c5) (h4 : o4.data = .cell c4) (h3 : o3.data = .cell c3) (h2 : o2.data = .cell (some (.ref ld))) (h1 : o1.data = .cell (some (.ref lp))) (hvt : vt.length ≤ 9) (hvd : vd.length ≤ 9)
    (ret : ∀ lf wf nf lx wx nx ds m' o5' o4' o3' c5' c4' c3' nt' nd' h' tk', DueOk k (nodesOf ns) ds → StrsAre wf ds → StrsAre wx ds → (∀ y, y ≠ Str.ofString "lowest" → y ≠ Str.ofString "path" → y ≠ Str.ofString "due" → y ≠ Str.ofString "found" → m' y = m y) →
      o5'.data = .cell c5' → o4'.data = .cell c4' → o3'.data = .cell c3' → Fr h₀ L h' m' →
      News h₀ L h' (cells5 L o5' o4' o3' o2 o1 ((lt, listOf (List.toArray (vt ++ [.ref lf])) nt') :: (ld, listOf (List.toArray (vd ++ [.ref lx])) nd') :: (lf, listOf (List.toArray wf) nf) :: (lx, listOf (List.toArray wx) nx) :: r0)) →
      (∀ b ∈ cellsOf L, lf ≠ b ∧ lx ≠ b) → (∀ p ∈ (lt, listOf vt.toArray nt) :: (ld, listOf vd.toArray nd) :: r0, p.1 ≠ lf) → (∀ p ∈ (lt, listOf vt.toArray nt) :: (ld, listOf vd.toArray nd) :: r0, p.1 ≠ lx) → Q .next { s with heap := h', toks := tk' }) :
    wpAny (model PySem.Challenge.rw_pd0169_01.row.prog w) (Ar dp un fr gd) (execs rowBody (lawEnv L fa cd)) Q E s := by
  rw [row_is]
  have hn := nodes_in ns
  have hkl : (nodesOf ns).length ≤ 3 := by unfold nodesOf; rw [List.length_map]; exact hlen
  have hT := row_tells hn hkl
  refine wpAny_execs_cons (st0 F N off X T hdp hun hmr (by k_mem) hvr hlen h3 fun D0 w0 n0 o3' h' tk' hw0 hd3 F N off f0 => ?_)
  rw [← nodes_is] at hw0
  refine wpAny_execs_cons (st1 F N off X T hdp hun (List.Mem.head _) hw0 hkl hd3 fun D1 w1 n1 h' tk' hw1 F N off f1 => ?_)
  refine wpAny_execs_cons (st2 (k := k) F N off X T hdp hun (ln := D0) (.tail _ (.head _)) (lp := lp) (by k_mem) hw0 hn hvp hk hkl hd3 h1 h4 fun D2 w2 n2 o4' h' tk' hw2 hd4 F N off f2 => ?_)
  have offA := off
  refine wpAny_execs_cons (st3 F N off X T hdp hun h5 fun D3 n3 o5' h' tk' hd5 F N off f3 => ?_)
  refine wpAny_execs_cons (st4 (k := k) F offA X T hdp hun N off f3 (.head _) hw2 hn hk hkl hd4 hd5 fun D4 w4 n4 u4 o5' h' tk' hw4 hd5 F N off f4 => ?_)
  refine wpAny_execs_cons (st5 (k := k) F N off X T hdp hun (ll := D1) (.tail _ (.tail _ (.head _))) (lp := lp) (by k_mem) (.head _) hw1 hvp hw4 hn hk hkl h1 hd5 (by (try dsimp only); rw [if_neg (by decide), if_pos rfl]) fun h' tk' F N => ?_)
  refine wpAny_execs_cons (st6 F N off X T hdp hun fun D6 n6 h' tk' F N off f6 => ?_)
  refine wpAny_execs_cons (st7 (k := k) (tt := tt) F N off X T hdp hun (ll := D1) (.tail _ (.tail _ (.tail _ (.head _)))) (lp := lp) (by k_mem) (.head _) hw1 hvp hn hk h1 (by (try dsimp only); rw [if_neg (by decide), if_neg (by decide), if_pos rfl]) (by (try dsimp only); rw [if_neg (by decide), if_neg (by decide), if_neg (by decide)]; exact hmt) (by (try dsimp only); rw [if_pos rfl]) fun D7 w7 n7 ds h' tk' hds hw7 F N off f7 => ?_)
  refine wpAny_execs_cons (st8 (k := k) F N off X T hdp hun (lh := lh) (by k_mem) (lp := D2) (.tail _ (.tail _ (.tail _ (.head _)))) hvh hw2 hhp hhs hds hT.1 hk hkl hd4 (by (try dsimp only); rw [if_neg (by decide), if_neg (by decide), if_neg (by decide), if_neg (by decide)]; exact hmh) fun D8 w8 n8 h' tk' hw8 F N off f8 => ?_)
  refine wpAny_execs_cons (st9 (k := k) F N off X T hdp hun (lf := D8) (.head _) (ld := D7) (.tail _ (.head _)) hw8 hw7 hds hk (by (try dsimp only); rw [if_pos rfl]) (by (try dsimp only); rw [if_neg (by decide), if_pos rfl]) fun h' tk' F N => ?_)
  refine wpAny_execs_cons (st10 (k := k) F N off X T hdp hun (lh := lh) (by k_mem) (lp := D2) (.tail _ (.tail _ (.tail _ (.tail _ (.head _))))) (lk := D4) (.tail _ (.tail _ (.tail _ (.head _)))) (ld := D7) (.tail _ (.head _)) hvh hw2 hw4 hw7 hhp hhs hds hn hT.2 hk hkl hd4 hd5 (by (try dsimp only); rw [if_neg (by decide), if_neg (by decide), if_neg (by decide), if_neg (by decide), if_neg (by decide)]; exact hmh) (by (try dsimp only); rw [if_neg (by decide), if_pos rfl]) fun h' tk' F N => ?_)
  have g7 : ∀ p ∈ (lt, listOf vt.toArray nt) :: (ld, listOf vd.toArray nd) :: r0, p.1 ≠ D7 := fun p hp => by
    rcases f7 with e | f
    · rw [e]; exact f6 p (.tail _ (.tail _ (.tail _ (.tail _ hp))))
    · exact f p (.tail _ (.tail _ (.tail _ (.tail _ (.tail _ hp)))))
  have g8 : ∀ p ∈ (lt, listOf vt.toArray nt) :: (ld, listOf vd.toArray nd) :: r0, p.1 ≠ D8 := fun p hp => f8 p (.tail _ (.tail _ (.tail _ (.tail _ (.tail _ (.tail _ hp))))))
  obtain ⟨a1, a2, a3, a4, a5⟩ := ne_cells off (lt := lt) (o := listOf vt.toArray nt) (.tail _ (.tail _ (.tail _ (.tail _ (.tail _ (.tail _ (.tail _ (.head _))))))))
  obtain ⟨b1, b2, b3, b4, b5⟩ := ne_cells off (lt := ld) (o := listOf vd.toArray nd) (.tail _ (.tail _ (.tail _ (.tail _ (.tail _ (.tail _ (.tail _ (.tail _ (.head _)))))))))
  have N₁ : News h₀ L h' (cells5 L o5' o4' o3' o2 o1 ((lt, listOf vt.toArray nt) :: (ld, listOf vd.toArray nd) :: (D8, listOf w8.toArray n8) :: (D7, listOf w7.toArray n7) :: r0)) :=
    news_sub N (cells5_sub (sub_cons (.tail _ (.tail _ (.tail _ (.tail _ (.tail _ (.tail _ (.tail _ (.head _)))))))) (sub_cons (.tail _ (.tail _ (.tail _ (.tail _ (.tail _ (.tail _ (.tail _ (.tail _ (.head _))))))))) (sub_cons (.head _) (sub_cons (.tail _ (.head _)) fun p hp => .tail _ (.tail _ (.tail _ (.tail _ (.tail _ (.tail _ (.tail _ (.tail _ (.tail _ hp)))))))))))))
  have e11 : ∀ p ∈ (ld, listOf vd.toArray nd) :: (D8, listOf w8.toArray n8) :: (D7, listOf w7.toArray n7) :: r0, p.1 ≠ lt := all_cons hlt.symm (all_cons (g8 _ (.head _)).symm (all_cons (g7 _ (.head _)).symm offt))
  refine wpAny_execs_cons (st11 F X T N₁ e11 a1 a2 a3 a4 a5 (by omega) (by (try dsimp only); rw [if_neg (by decide), if_neg (by decide), if_neg (by decide), if_neg (by decide), if_neg (by decide)]; exact hmo) (by (try dsimp only); rw [if_pos rfl]) fun nt' h' tk' F N => ?_)
  have N₂ : News h₀ L h' (cells5 L o5' o4' o3' o2 o1 ((ld, listOf vd.toArray nd) :: (lt, listOf (List.toArray (vt ++ [.ref D8])) nt') :: (D8, listOf w8.toArray n8) :: (D7, listOf w7.toArray n7) :: r0)) :=
    news_sub N (cells5_sub (sub_cons (.tail _ (.head _)) (sub_cons (.head _) fun p hp => .tail _ (.tail _ hp))))
  have e12 : ∀ p ∈ (lt, listOf (List.toArray (vt ++ [.ref D8])) nt') :: (D8, listOf w8.toArray n8) :: (D7, listOf w7.toArray n7) :: r0, p.1 ≠ ld := all_cons hlt (all_cons (g8 _ (.tail _ (.head _))).symm (all_cons (g7 _ (.tail _ (.head _))).symm offd))
  refine wpAny_execs_cons (st12 F X T N₂ e12 b1 b2 b3 b4 b5 (by omega) h2 (by (try dsimp only); rw [if_neg (by decide), if_pos rfl]) fun nd' h' tk' F N => ?_)
  refine wpAny_execs_nil (ret D8 w8 n8 D7 w7 n7 ds _ o5' o4' o3' _ _ _ nt' nd' _ _ hds hw8 hw7 (fun y a b c d => ?_) hd5 hd4 hd3 F (news_sub N (cells5_sub (sub_cons (.tail _ (.head _)) (sub_cons (.head _) fun p hp => .tail _ (.tail _ hp))))) (fun b hb => ⟨off _ (.head _) b hb, off _ (.tail _ (.head _)) b hb⟩) g8 g7)
  · (try dsimp only)
    rw [if_neg d, if_neg c, if_neg c, if_neg b, if_neg a]
end
end
section



local macro_rules | `(tactic| walk_at "subscriptTail") => `(tactic| (k_here; (with_reducible show wpAny _ _ (subscriptTail _ _ (Value.ref _) (Value.int (Int.fmod _ _) _)) _ _ _); refine hold_in ?_))
local macro_rules | `(tactic| walk_at "call ref") => `(tactic| (k_here; (with_reducible show wpAny _ _ (call (Value.ref 177) _) _ _ _); refine hold_in ?_))

section
variable {prog : Program} {w : World} {A : Around} {E : Value → Shared → Prop} {s : Shared} {h₀ : Heap} {L l : Addr} {m : Str → Option Value} {news : List (Addr × Obj)}
/-- one of three texts, by a number modulo three -/
theorem top3 {value slice : PySem.Expr} {a b c : Str} {t1 t2 t3 : Tok} {n : Nat} {k : Int} {u : Tok} {Q : Value → Shared → Prop} (N : News h₀ L s.heap news) (hm : (l, listOf #[.str a t1, .str b t2, .str c t3] n) ∈ news) (hk0 : 0 ≤ k) (hk3 : k < 3)
    (h : ∀ x t, (x = a ∨ x = b ∨ x = c) → Q (.str x t) s)
    (hs : ∀ i : Nat, k = (i : Int) → subscripted slice false (.ref l) (.int (i : Int) u) = operate [.ref l, .int (i : Int) u] (getItem (.ref l) (.int (i : Int) u))) :
    wpAny (model prog w) A (subscriptTail value slice (.ref l) (.int k u)) Q E s := by
  obtain ⟨i, rfl⟩ := Int.eq_ofNat_of_zero_le hk0
  have hi : i = 0 ∨ i = 1 ∨ i = 2 := by omega
  rcases hi with rfl | rfl | rfl
  · exact item_at (vs := [.str a t1, .str b t2, .str c t3]) (i := 0) N hm rfl (by simp) (h _ _ (.inl rfl)) (hs _ rfl)
  · exact item_at (vs := [.str a t1, .str b t2, .str c t3]) (i := 1) N hm rfl (by simp) (h _ _ (.inr (.inl rfl))) (hs _ rfl)
  · exact item_at (vs := [.str a t1, .str b t2, .str c t3]) (i := 2) N hm rfl (by simp) (h _ _ (.inr (.inr rfl))) (hs _ rfl)
end
/-- which of the three tops -/
noncomputable def IsTop (k : Nat) (x : Str) : Prop := k < 3 ∧ x = topT k
theorem isTop {x : Str} (h : x = Str.ofString "com" ∨ x = Str.ofString "7" ∨ x = Str.ofString "a") : ∃ k, IsTop k x := by
  rcases h with rfl | rfl | rfl
  · exact ⟨0, by decide, rfl⟩
  · exact ⟨1, by decide, rfl⟩
  · exact ⟨2, by decide, rfl⟩
theorem paths_k {w : World} {mean : ExcName → Option Value} {mg mb : Str → Option Value} {k : Nat} {x : Str} (h : IsTop k x) (t : Tok) : Does w mean mg mb 177 [.str x t] [] 20 (NewL fun ws => StrsAre ws (litT k)) := by
  obtain ⟨hk, rfl⟩ := h
  have e : pathL (topT k) 14 = litT k := three (P := fun k => pathL (topT k) 14 = litT k) path_lit0 path_lit1 path_lit2 k hk
  rw [← e]
  exact paths_ok _ _ (three (P := fun k => (topT k).length ≤ 10) (by decide +kernel) (by decide +kernel) (by decide +kernel) k hk) (three (P := fun k => ∀ i, i < 15 → ∀ y ∈ pathL (topT k) i, y.length ≤ 100) (by decide +kernel) (by decide +kernel) (by decide +kernel) k hk)

section
variable {w : World} {mean : ExcName → Option Value} {mg mb : Str → Option Value} {dp un : Nat} {fr : Option (List Env)} {gd : Option (List Code)} {s : Shared} {Q : Flow → Shared → Prop} {E : Value → Shared → Prop}
  {h₀ : Heap} {L fa : Addr} {cd : Value} {m : Str → Option Value} {rest : List (Addr × Obj)} {o5 o4 o3 o2 o1 : Obj}
    (F : Fr h₀ L s.heap m) (N : News h₀ L s.heap (cells5 L o5 o4 o3 o2 o1 rest)) (off : OwnOff rest (cellsOf L)) (X : (Mine.hd.heap_39 w.params).In h₀) (T : Top Mine.hd.view_39 (looseW Mine.hd.view_39 [Str.ofString "IPV4_RE"]) mean mg mb h₀) (hdp : dp + 100 < recursionLimit) (hun : un + 1000 < cLine)
include F N off X T hdp hun
theorem lt0 {l : Addr} {vs : List Value} {ns : List Int} (hms : m (Str.ofString "script") = some (.ref l)) (hL : h₀.IsList l vs.toArray) (hI : IntsAre vs ns) (hlen : ns.length ≤ 63)
    (ret : ∀ k tt h' tk', k < 3 → Fr h₀ L h' (fun y => if y = Str.ofString "top" then some (.str (topT k) tt) else m y) → News h₀ L h' (cells5 L o5 o4 o3 o2 o1 rest) → Q .next { s with heap := h', toks := tk' }) :
    wpAny (model PySem.Challenge.rw_pd0169_01.row.prog w) (Ar dp un fr gd) (exec (ls 0) (lawEnv L fa cd)) Q E s := by
  unfold lawEnv
  (conv in ls 0 => whnf)
  (conv in lawScope => whnf)
  dsimp only [cells5] at N
  w_on
  (revert X; k_fill; intro X)
  (try k_fold)
  k_steps
  unfold Hold
  refine' top3 ?k1 ?k2 ?k3 ?k4 ?_ ?k5
  (case k1 => k_asm)
  (case k2 => k_mem)
  (case k3 => exact Int.fmod_nonneg_of_pos _ (by decide))
  (case k4 => exact Int.fmod_lt_of_pos _ (by decide))
  (case k5 => intro _ _; with_unfolding_all rfl)
  intro top ttop htop
  obtain ⟨k, hk, rfl⟩ := isTop htop
  clear htop
  (try dsimp only)
  k_steps
  (rename News _ _ _ _ => NE)
  (rename Fr _ _ _ _ => FE)
  exact ret _ _ _ _ hk FE (news_sub NE fun p hp => .tail _ (.tail _ (.tail _ hp)))
end
end
section



local macro_rules | `(tactic| walk_at "subscriptTail") => `(tactic| (k_here; (with_reducible show wpAny _ _ (subscriptTail _ _ (Value.ref _) (Value.int (Int.fmod _ _) _)) _ _ _); refine hold_in ?_))
local macro_rules | `(tactic| walk_at "call ref") => `(tactic| (k_here; (with_reducible show wpAny _ _ (call (Value.ref 177) _) _ _ _); refine hold_in ?_))

section
variable {w : World} {mean : ExcName → Option Value} {mg mb : Str → Option Value} {dp un : Nat} {fr : Option (List Env)} {gd : Option (List Code)} {s : Shared} {Q : Flow → Shared → Prop} {E : Value → Shared → Prop}
  {h₀ : Heap} {L fa : Addr} {cd : Value} {m : Str → Option Value} {rest : List (Addr × Obj)} {o5 o4 o3 o2 o1 : Obj}
    (F : Fr h₀ L s.heap m) (N : News h₀ L s.heap (cells5 L o5 o4 o3 o2 o1 rest)) (off : OwnOff rest (cellsOf L)) (X : (Mine.hd.heap_39 w.params).In h₀) (T : Top Mine.hd.view_39 (looseW Mine.hd.view_39 [Str.ofString "IPV4_RE"]) mean mg mb h₀) (hdp : dp + 100 < recursionLimit) (hun : un + 1000 < cLine)
include F N off X T hdp hun
theorem lt1 {k : Nat} {tt : Tok} (hk : k < 3) (hmt : m (Str.ofString "top") = some (.str (topT k) tt)) {c1 : Option Value} (h1 : o1.data = .cell c1)
    (ret : ∀ D ws n' o1' h' tk', StrsAre ws (litT k) → o1'.data = .cell (some (.ref D)) → Fr h₀ L h' m → News h₀ L h' (cells5 L o5 o4 o3 o2 o1' ((D, listOf (List.toArray ws) n') :: rest)) → OwnOff ((D, listOf (List.toArray ws) n') :: rest) (cellsOf L) → (∀ p ∈ rest, p.1 ≠ D) → Q .next { s with heap := h', toks := tk' }) :
    wpAny (model PySem.Challenge.rw_pd0169_01.row.prog w) (Ar dp un fr gd) (exec (ls 1) (lawEnv L fa cd)) Q E s := by
  unfold lawEnv
  (conv in ls 1 => whnf)
  (conv in lawScope => whnf)
  dsimp only [cells5] at N
  w_on
  (revert X; k_fill; intro X)
  (try k_fold)
  k_steps
  unfold Hold
  refine' Does.useL (paths_k ⟨hk, rfl⟩ tt) ?gF ?gN ?gX ?gT ?gs ?gd ?gu ?_
  (case gF => k_asm)
  (case gN => k_asm)
  (case gX => k_asm)
  (case gT => k_asm)
  (case gs => (intro p hp; cases hp))
  (case gd => omega)
  (case gu => omega)
  intro D ws₄ n₄ h₄ tk₄ hw F₄ N₄ hne
  (try dsimp only)
  have off' := own_new (o := listOf (List.toArray ws₄) n₄) hne off
  obtain ⟨q1, q2, q3, q4, q5⟩ := ne5 hne
  k_steps
  (rename News _ _ _ _ => NE)
  (rename Fr _ _ _ _ => FE)
  exact ret _ _ _ _ _ _ hw (by with_reducible assumption) FE (news_in NE) off' (fresh_of hne)
end
end
section



local macro_rules | `(tactic| walk_at "call builtin:sorted") => `(tactic| (k_here; (with_reducible show wpAny _ _ (call (Value.builtin _) [Value.ref _]) _ _ _); k_dflt (refine' sort_strs (by k_asm) (by k_asm) (by k_mem) (by with_reducible assumption) (by with_reducible assumption) ?_; k_whole); intro D' h' ws' zs' e' F' N' l1 hs' hp' ho'; (try dsimp only)))
local macro_rules | `(tactic| walk_at "call ref") => `(tactic| (k_here; (with_reducible show wpAny _ _ (call (Value.ref 194) _) _ _ _); refine hold_in ?_))
local macro_rules | `(tactic| walk_at "compareOp NotEq ref ref") => `(tactic| (k_here; refine hold_in ?_))

local macro_rules | `(tactic| walk_at "call ref") => `(tactic| (k_here; (with_reducible show wpAny _ _ (call (Value.ref 184) _) _ _ _); k_dflt (refine' zone_at (by k_asm) (by k_asm) (by k_asm) (by k_asm) (by omega) (by with_reducible assumption) ?_; k_whole); intro t' h' tk' F' N' k'; (try dsimp only)))

local macro_rules | `(tactic| walk_at "subscriptTail Name Slice ref ref") => `(tactic| (k_here; (with_reducible show wpAny _ _ (subscriptTail _ (Expr.Slice (some (Expr.Constant (Const.int 8) _ _)) none none _) _ _) _ _ _); k_dflt (refine' from_t 8 (by k_asm) (by k_asm) (by k_mem) (by with_reducible assumption) ?_ (by with_unfolding_all rfl) (by intro _; with_unfolding_all rfl) (by (rw [sizeLine_eq]; omega)); k_whole); intro D' ws' h' a' F' N' l1; (try dsimp only)))

noncomputable abbrev HostTo (v y : Value) : Prop := ∀ x t, v = .str x t → ∃ t', y = .str (Str.ofString "w" ++ zoneF x) t'
theorem paired_hosts {us : List Value} {xs : List Str} (h : StrsAre us xs) : ∀ {ws : List Value}, Paired HostTo us ws → StrsAre ws (xs.map fun x => Str.ofString "w" ++ zoneF x) := by
  induction h with
  | nil => intro ws h; cases h; exact .nil
  | cons x t r ih =>
    intro ws h
    cases h with
    | cons e k =>
      obtain ⟨t', rfl⟩ := e x t rfl
      exact .cons _ _ (ih k)
theorem el_host {x : Str} {t t' : Tok} {s₃ : Shared} {h' : Heap} {tk : Nat} (k : Kp s₃.heap h') : ElEnd HostTo (.str x t) s₃ (.str (Str.ofString "w" ++ zoneF x) t') { s₃ with heap := h', toks := tk } := by
  refine el_out (fun z u q => ?_) k
  cases q
  exact ⟨t', rfl⟩
theorem lit_drop {k : Nat} (hk : k < 3) : (litT k).drop 8 = leafsN.map (tx k) := three (P := fun k => (litT k).drop 8 = leafsN.map (tx k)) rfl rfl rfl k hk
theorem hosts_map {k : Nat} : (leafsN.map (tx k)).map (fun x => Str.ofString "w" ++ zoneF x) = leafsN.map (wt k) := by
  rw [List.map_map]
  exact List.map_congr_left fun a _ => rfl
theorem news_in3 {h₀ h : Heap} {L : Addr} {a b c : Addr × Obj} {o5 o4 o3 o2 o1 : Obj} {rest : List (Addr × Obj)} (N : News h₀ L h (a :: b :: c :: cells5 L o5 o4 o3 o2 o1 rest)) : News h₀ L h (cells5 L o5 o4 o3 o2 o1 (a :: rest)) := by
  intro p hp
  refine N p ?_
  simp only [cells5, List.mem_cons] at hp ⊢
  rcases hp with hp | hp | hp | hp | hp | hp | hp
  all_goals simp only [hp, true_or, or_true]
section
variable {w : World} {mean : ExcName → Option Value} {mg mb : Str → Option Value} {dp un : Nat} {fr : Option (List Env)} {gd : Option (List Code)} {s : Shared} {Q : Flow → Shared → Prop} {E : Value → Shared → Prop}
  {h₀ : Heap} {L fa : Addr} {cd : Value} {m : Str → Option Value} {rest : List (Addr × Obj)} {o5 o4 o3 o2 o1 : Obj}
    (F : Fr h₀ L s.heap m) (N : News h₀ L s.heap (cells5 L o5 o4 o3 o2 o1 rest)) (off : OwnOff rest (cellsOf L)) (X : (Mine.hd.heap_39 w.params).In h₀) (T : Top Mine.hd.view_39 (looseW Mine.hd.view_39 [Str.ofString "IPV4_RE"]) mean mg mb h₀) (hdp : dp + 100 < recursionLimit) (hun : un + 1000 < cLine)
include F N off X T hdp hun
theorem lt2 {lp : Addr} {vp : List Value} {np k : Nat} (hk : k < 3) (hp : (lp, listOf vp.toArray np) ∈ rest) (hvp : StrsAre vp (litT k)) (h1 : o1.data = .cell (some (.ref lp)))
    (ret : ∀ D ws n' hs h' tk', StrsAre ws hs → hs.Perm (leafsN.map (wt k)) → sortedS hs = true → Fr h₀ L h' (fun y => if y = Str.ofString "hosts" then some (.ref D) else m y) → News h₀ L h' (cells5 L o5 o4 o3 o2 o1 ((D, listOf (List.toArray ws) n') :: rest)) → OwnOff ((D, listOf (List.toArray ws) n') :: rest) (cellsOf L) → (∀ p ∈ rest, p.1 ≠ D) → Q .next { s with heap := h', toks := tk' }) :
    wpAny (model PySem.Challenge.rw_pd0169_01.row.prog w) (Ar dp un fr gd) (exec (ls 2) (lawEnv L fa cd)) Q E s := by
  have hlen : (litT k).length = 16 := lit_len hk
  have hll : ((leafsN.map (tx k)).map fun x => Str.ofString "w" ++ zoneF x).length < 64 := by rw [List.length_map, List.length_map]; decide
  unfold lawEnv
  (conv in ls 2 => whnf)
  (conv in lawScope => whnf)
  dsimp only [cells5] at N
  w_on
  (revert X; k_fill; intro X)
  (try k_fold)
  k_steps
  unfold Hold
  refine' lc_free (cl := []) (fun _ => true) (HostTo) ?c1 ?c2 ?c3 ?c4 ?c5 ?_ ?c6
  (case c1 => exact rfl)
  (case c2 => decide)
  (case c3 => exact rfl)
  (case c4 => decide)
  (case c5 => exact rfl)
  (case c6 => (intro _; rfl))
  k_steps
  (try dsimp only)
  rename_i D₁ w₁ h₁ hv₁ F₁ N₁ l₁
  rw [lit_drop hk] at hv₁
  refine' comp_list (vs := w₁) (nn := 0) _ _ ?kh ?kF ?kN ?kl ?_ ?_ ?_ ?_
  (case kh => exact rfl)
  (case kF => exact F₁)
  (case kN => exact N₁)
  (case kl => exact List.Mem.head _)
  · rw [strsAre_len hv₁, sizeLine_eq, List.length_map]; decide
  · intro C s₃ v m₃ E' hv₃ F₃ N₃ k₃
    exact tests0 ⟨rfl, keeps_refl _⟩
  · intro C s₃ v m₃ E' hv₃ hp F₃ N₃ k₃
    obtain ⟨x₃, t₃, rfl, hx₃⟩ := strs_mem hv₁ hv₃
    obtain ⟨a₃, ha₃, rfl⟩ := List.mem_map.mp hx₃
    obtain ⟨b₃, c₃⟩ := leafs_mem.mp ha₃
    obtain ⟨hz, hzl⟩ := zone_k hk c₃
    (try dsimp only at F₃ N₃ k₃)
    have X₃ := Frag.In.keeps X k₃
    have T₃ := T.keeps k₃
    refine el_in ?_
    k_steps
    exact el_host (by with_reducible assumption)
  · intro D n₄ ws₄ h₄ tk₄ hpair F₄ N₄ hne
    rw [filter_all] at hpair
    have hw := paired_hosts hv₁ hpair
    clear hpair F₁ N₁ l₁
    (try dsimp only)
    k_steps
    (rename News _ _ _ _ => NE)
    (rename Fr _ _ _ _ => FE)
    (rename List.Perm _ _ => p1)
    (rename ∀ p : Addr × Obj, p ∈ (_ : List (Addr × Obj)) → p.1 < (_ : Addr) => l1)
    rw [hosts_map] at p1
    exact ret _ _ _ _ _ _ (by with_reducible assumption) p1 (by with_reducible assumption) FE (news_in3 NE) (own_new (o5 := o5) (o4 := o4) (o3 := o3) (o2 := o2) (o1 := o1) (fun p hp => Nat.ne_of_lt (l1 p (.tail _ (.tail _ hp)))) off) (fresh_of (o5 := o5) (o4 := o4) (o3 := o3) (o2 := o2) (o1 := o1) fun p hp => Nat.ne_of_lt (l1 p (.tail _ (.tail _ hp))))
end
end
section



section
variable {w : World} {mean : ExcName → Option Value} {mg mb : Str → Option Value} {dp un : Nat} {fr : Option (List Env)} {gd : Option (List Code)} {s : Shared} {Q : Flow → Shared → Prop} {E : Value → Shared → Prop}
  {h₀ : Heap} {L fa : Addr} {cd : Value} {m : Str → Option Value} {rest : List (Addr × Obj)} {o5 o4 o3 o2 o1 : Obj}
    (F : Fr h₀ L s.heap m) (N : News h₀ L s.heap (cells5 L o5 o4 o3 o2 o1 rest)) (off : OwnOff rest (cellsOf L)) (X : (Mine.hd.heap_39 w.params).In h₀) (T : Top Mine.hd.view_39 (looseW Mine.hd.view_39 [Str.ofString "IPV4_RE"]) mean mg mb h₀) (hdp : dp + 100 < recursionLimit) (hun : un + 1000 < cLine)
include F N off X T hdp hun
theorem lt3
    (ret : ∀ D n' h' tk', Fr h₀ L h' (fun y => if y = Str.ofString "told" then some (.ref D) else m y) → News h₀ L h' (cells5 L o5 o4 o3 o2 o1 ((D, listOf (List.toArray []) n') :: rest)) → OwnOff ((D, listOf (List.toArray []) n') :: rest) (cellsOf L) → (∀ p ∈ rest, p.1 ≠ D) → Q .next { s with heap := h', toks := tk' }) :
    wpAny (model PySem.Challenge.rw_pd0169_01.row.prog w) (Ar dp un fr gd) (exec (ls 3) (lawEnv L fa cd)) Q E s := by
  unfold lawEnv
  (conv in ls 3 => whnf)
  (conv in lawScope => whnf)
  dsimp only [cells5] at N
  w_on
  (revert X; k_fill; intro X)
  (try k_fold)
  k_steps
  (rename News _ _ _ _ => NE)
  (rename Fr _ _ _ _ => FE)
  (rename _ < _ ∧ _ => l1)
  exact ret _ _ _ _ FE (news_in NE) (own_lt l1 off) (fresh_lt l1)
theorem lt4 {c2 : Option Value} (h2 : o2.data = .cell c2)
    (ret : ∀ D n' o2' h' tk', o2'.data = .cell (some (.ref D)) → Fr h₀ L h' m → News h₀ L h' (cells5 L o5 o4 o3 o2' o1 ((D, listOf (List.toArray []) n') :: rest)) → OwnOff ((D, listOf (List.toArray []) n') :: rest) (cellsOf L) → (∀ p ∈ rest, p.1 ≠ D) → Q .next { s with heap := h', toks := tk' }) :
    wpAny (model PySem.Challenge.rw_pd0169_01.row.prog w) (Ar dp un fr gd) (exec (ls 4) (lawEnv L fa cd)) Q E s := by
  unfold lawEnv
  (conv in ls 4 => whnf)
  (conv in lawScope => whnf)
  dsimp only [cells5] at N
  w_on
  (revert X; k_fill; intro X)
  (try k_fold)
  k_steps
  (rename News _ _ _ _ => NE)
  (rename Fr _ _ _ _ => FE)
  (rename _ < _ ∧ _ => l1)
  exact ret _ _ _ _ _ (by with_reducible assumption) FE (news_in NE) (own_lt l1 off) (fresh_lt l1)
end
end
section



theorem six {a : Int} (h0 : 0 ≤ a) (ns : List Int) : (pickNums ns (some a) (some 6) (some 2)).length ≤ 3 := by
  unfold pickNums
  refine Nat.le_trans (List.length_filterMap_le ..) ?_
  have e : (sliceBounds (some a) (some 6) (some 2) ns.length) = (max 0 (min a (ns.length : Int)), max 0 (min 6 (ns.length : Int)), 2) := by
    simp only [sliceBounds, Option.getD_some, show (2 : Int) > 0 by decide, if_true, if_neg (show ¬ (a < 0) by omega), if_neg (show ¬ ((6 : Int) < 0) by decide)]
  rw [e]
  unfold sliceRange
  rw [List.length_map, List.length_range]
  dsimp only
  split <;> omega
section
variable {prog : Program} {w : World} {A : Around} {E : Value → Shared → Prop} {s : Shared} {h₀ : Heap} {L l : Addr} {m : Str → Option Value} {news : List (Addr × Obj)} {Q : Value → Shared → Prop}
theorem slice6 {value slice : PySem.Expr} {vs : List Value} {ns : List Int} {a : Int} {t1 t2 t3 : Tok} {ops : List Value} (F : Fr h₀ L s.heap m) (N : News h₀ L s.heap news) (hL : h₀.IsList l vs.toArray) (hi : IntsAre vs ns) (hlen : ns.length ≤ 63) (h0 : 0 ≤ a)
    (h : ∀ D ws ms h', IntsAre ws ms → ms.length ≤ 3 → Fr h₀ L h' m → News h₀ L h' ((D, listOf (List.toArray ws) 0) :: news) → (∀ p ∈ news, p.1 < D) → Q (.ref D) { s with heap := h' })
    (hs : subscripted slice false (.ref l) (.ref s.heap.objs.size) = operate ops (getItem (.ref l) (.ref s.heap.objs.size))) (ht : ∀ r, letTemporaryGo value (.ref l) r = pure ()) :
    wpAny (model prog w) A (subscriptTail value slice (.ref l) (.ref s.heap.objs.size)) Q E { s with heap := s.heap.push { cls := .type "slice", data := .fields #[.int a t1, .int 6 t2, .int 2 t3] } } :=
  kmk_slice3_lit (its := vs.toArray) (zs := (slicePick vs.toArray (some a) (some 6) (some 2)).toList) F N (hL.at fun o e => F.keep _ o e) (.int _ _) (.int _ _) (.int _ _) (by decide) rfl
    (fun D h' F' N' l1 => h D _ _ h' (hi.pick (some a) (some 6) (some 2)) (six h0 ns) F' N' l1) hs ht (by rw [List.size_toArray, hi.length, sizeLine_eq]; omega)
end
end
section



local macro_rules | `(tactic| walk_at "subscriptTail Name Slice ref ref") => `(tactic| (k_here; k_dflt (refine' slice6 (by k_asm) (by k_asm) (by with_reducible assumption) (by with_reducible assumption) (by with_reducible assumption) (by decide) ?_ (by with_unfolding_all rfl) (by intro _; with_unfolding_all rfl); k_whole); intro D' ws' ms' h' a' b' F' N' l1; (try k_lt l1); (try dsimp only)))

/-- what a row has told: found and due, the same texts -/
noncomputable def RowAt (k : Nat) (dd : List (Addr × Obj)) (r : Addr × Addr × List Str) : Prop :=
  ∃ ns wf nf wx nx, (r.1, listOf (List.toArray wf) nf) ∈ dd ∧ (r.2.1, listOf (List.toArray wx) nx) ∈ dd ∧ StrsAre wf r.2.2 ∧ StrsAre wx r.2.2 ∧ DueOk k (nodesOf ns) r.2.2
theorem RowAt.mono {k : Nat} {dd dd' : List (Addr × Obj)} {r : Addr × Addr × List Str} (h : RowAt k dd r) (hs : ∀ p ∈ dd, p ∈ dd') : RowAt k dd' r := by
  obtain ⟨ns, wf, nf, wx, nx, a, b, c⟩ := h
  exact ⟨ns, wf, nf, wx, nx, hs _ a, hs _ b, c⟩
theorem own_app {a b : List (Addr × Obj)} {adr : List Addr} (h : OwnOff a adr) (k : OwnOff b adr) : OwnOff (a ++ b) adr := fun p hp => (List.mem_append.mp hp).elim (h p) (k p)
/-- what holds between the rows -/
noncomputable abbrev RowJ (L lt ld : Addr) (k : Nat) (m : Str → Option Value) (o2 o1 : Obj) (R : List (Addr × Obj)) : Nat → (Str → Option Value) → List (Addr × Obj) → Prop := fun i m₁ news₁ => ∃ (dd : List (Addr × Obj)) (rs : List (Addr × Addr × List Str)) (nt' nd' : Nat) (o5' o4' o3' : Obj) (c5' c4' c3' : Option Value), (∀ y, y ≠ Str.ofString "row" → y ≠ Str.ofString "lowest" → y ≠ Str.ofString "path" → y ≠ Str.ofString "due" → y ≠ Str.ofString "found" → m₁ y = m y) ∧
      news₁ = cells5 L o5' o4' o3' o2 o1 ((lt, listOf (List.toArray (rs.map fun (r : Addr × Addr × List Str) => Value.ref r.1)) nt') :: (ld, listOf (List.toArray (rs.map fun (r : Addr × Addr × List Str) => Value.ref r.2.1)) nd') :: (dd ++ R)) ∧
      o5'.data = .cell c5' ∧ o4'.data = .cell c4' ∧ o3'.data = .cell c3' ∧ rs.length = i ∧ (∀ r ∈ rs, RowAt k dd r) ∧ OwnOff dd (cellsOf L) ∧ (∀ p ∈ dd, p.1 ≠ lt) ∧ (∀ p ∈ dd, p.1 ≠ ld) ∧ ∀ p ∈ dd, ∃ ws n, p.2 = listOf ws n
section
variable {w : World} {mean : ExcName → Option Value} {mg mb : Str → Option Value} {dp un : Nat} {fr : Option (List Env)} {gd : Option (List Code)} {s : Shared} {Q : Flow → Shared → Prop} {E : Value → Shared → Prop}
  {h₀ : Heap} {L fa : Addr} {cd : Value} {m : Str → Option Value} {rest : List (Addr × Obj)} {o5 o4 o3 o2 o1 : Obj}
    (F : Fr h₀ L s.heap m) (N : News h₀ L s.heap (cells5 L o5 o4 o3 o2 o1 rest)) (off : OwnOff rest (cellsOf L)) (X : (Mine.hd.heap_39 w.params).In h₀) (T : Top Mine.hd.view_39 (looseW Mine.hd.view_39 [Str.ofString "IPV4_RE"]) mean mg mb h₀) (hdp : dp + 100 < recursionLimit) (hun : un + 1000 < cLine)
include F N off X T hdp hun
theorem lt5 {l : Addr} {vs : List Value} {ns : List Int} (hms : m (Str.ofString "script") = some (.ref l)) (hL : h₀.IsList l vs.toArray) (hI : IntsAre vs ns) (hlen : ns.length ≤ 63) {lt ld lp lh : Addr} {vp vh : List Value} {nt nd np nh k : Nat} {hs : List Str} {tt : Tok} {c5 c4 c3 : Option Value} {r0 : List (Addr × Obj)}
    (hre : rest = (lt, listOf (List.toArray []) nt) :: (ld, listOf (List.toArray []) nd) :: r0) (hlt : lt ≠ ld) (offt : ∀ p ∈ r0, p.1 ≠ lt) (offd : ∀ p ∈ r0, p.1 ≠ ld)
    (hmh : m (Str.ofString "hosts") = some (.ref lh)) (hmt : m (Str.ofString "top") = some (.str (topT k) tt)) (hmo : m (Str.ofString "told") = some (.ref lt))
    (hp : (lp, listOf vp.toArray np) ∈ r0) (hh : (lh, listOf vh.toArray nh) ∈ r0) (hvp : StrsAre vp (litT k)) (hk : k < 3) (hvh : StrsAre vh hs) (hhp : hs.Perm (leafsN.map (wt k))) (hhs : sortedS hs = true)
    (h5 : o5.data = .cell c5) (h4 : o4.data = .cell c4) (h3 : o3.data = .cell c3) (h2 : o2.data = .cell (some (.ref ld))) (h1 : o1.data = .cell (some (.ref lp)))
    (ret : ∀ a b dd m' o5' o4' o3' c5' c4' c3' nt' nd' h' tk', RowAt k dd a → RowAt k dd b → (∀ y, y ≠ Str.ofString "row" → y ≠ Str.ofString "lowest" → y ≠ Str.ofString "path" → y ≠ Str.ofString "due" → y ≠ Str.ofString "found" → m' y = m y) →
      o5'.data = .cell c5' → o4'.data = .cell c4' → o3'.data = .cell c3' → Fr h₀ L h' m' →
      News h₀ L h' (cells5 L o5' o4' o3' o2 o1 ((lt, listOf (List.toArray [.ref a.1, .ref b.1]) nt') :: (ld, listOf (List.toArray [.ref a.2.1, .ref b.2.1]) nd') :: dd)) →
      OwnOff dd (cellsOf L) → (∀ p ∈ dd, p.1 ≠ lt) → (∀ p ∈ dd, p.1 ≠ ld) → (∀ p ∈ dd, ∃ ws n, p.2 = listOf ws n) → Q .next { s with heap := h', toks := tk' }) :
    wpAny (model PySem.Challenge.rw_pd0169_01.row.prog w) (Ar dp un fr gd) (exec (ls 5) (lawEnv L fa cd)) Q E s := by
  unfold lawEnv
  (conv in ls 5 => whnf)
  (conv in lawScope => whnf)
  dsimp only [cells5] at N
  w_on
  (revert X; k_fill; intro X)
  (try k_fold)
  refine for_in ?_ (by intro _; rfl)
  k_steps
  rename_i q1 w1 ms1 _ hi1 hl1 l1a q2 w2 ms2 _ hi2 hl2 l1b lo ho FO NO l1c
  (try dsimp only at l1c)
  obtain ⟨R, hR⟩ : ∃ R, R = (lo, listOf (List.toArray [Value.ref q1, Value.ref q2]) 0) :: (q2, listOf (List.toArray w2) 0) :: (q1, listOf (List.toArray w1) 0) :: r0 := ⟨_, rfl⟩
  have oR : OwnOff R (cellsOf L) := by
    rw [hR]
    refine fun p hp => ?_
    rcases List.mem_cons.mp hp with rfl | hp
    · exact own_lt (o := listOf (List.toArray [Value.ref q1, Value.ref q2]) 0) l1c.2.2 off _ (.head _)
    rcases List.mem_cons.mp hp with rfl | hp
    · exact own_lt (o := listOf (List.toArray w2) 0) l1b.2 off _ (.head _)
    rcases List.mem_cons.mp hp with rfl | hp
    · exact own_lt (o := listOf (List.toArray w1) 0) l1a off _ (.head _)
    · exact off p (by rw [hre]; exact .tail _ (.tail _ hp))
  have fR : ∀ a o, (a, o) ∈ rest → a ≠ q1 ∧ a ≠ q2 ∧ a ≠ lo := fun a o ha => ⟨fresh_lt l1a _ ha, fresh_lt l1b.2 _ ha, fresh_lt l1c.2.2 _ ha⟩
  have Rt : ∀ p ∈ R, p.1 ≠ lt := by
    obtain ⟨x1, x2, x3⟩ := fR lt _ (by rw [hre]; exact .head _)
    rw [hR]
    exact all_cons x3.symm (all_cons x2.symm (all_cons x1.symm offt))
  have Rd : ∀ p ∈ R, p.1 ≠ ld := by
    obtain ⟨x1, x2, x3⟩ := fR ld _ (by rw [hre]; exact .tail _ (.head _))
    rw [hR]
    exact all_cons x3.symm (all_cons x2.symm (all_cons x1.symm offd))
  have NR : News h₀ L ho (cells5 L o5 o4 o3 o2 o1 ((lt, listOf (List.toArray []) nt) :: (ld, listOf (List.toArray []) nd) :: ([] ++ R))) := by
    have N3 := news_pre3 NO
    rw [hre] at N3
    rw [hR]
    exact news_sub N3 (cells5_sub (sub_cons (.tail _ (.tail _ (.tail _ (.head _)))) (sub_cons (.tail _ (.tail _ (.tail _ (.tail _ (.head _))))) (sub_cons (.head _) (sub_cons (.tail _ (.head _)) (sub_cons (.tail _ (.tail _ (.head _))) fun p hp => .tail _ (.tail _ (.tail _ (.tail _ (.tail _ hp))))))))))
  refine' for_at (l := lo) (vs := [Value.ref q1, Value.ref q2]) (nn := 0) (RowJ L lt ld k m o2 o1 R) ?fh ?fl ?fF ?fN ?fj ?_ ?_
  (case fh => exact rfl)
  (case fF => exact FO)
  (case fN => exact NR)
  (case fl => exact cells5_rest (.tail _ (.tail _ (by rw [hR]; exact .head _))))
  (case fj => exact ⟨[], [], nt, nd, o5, o4, o3, _, _, _, fun _ _ _ _ _ _ => rfl, rfl, h5, h4, h3, rfl, (fun _ h => nomatch h), (fun _ h => nomatch h), (fun _ h => nomatch h), (fun _ h => nomatch h), (fun _ h => nomatch h)⟩)
  · rintro i v m₁ news₁ h tk own hvi hoff hl₁ ⟨dd, rs, nt', nd', o5', o4', o3', c5', c4', c3', hmap, rfl, e5, e4, e3, hrl, hrows, hdc, hdt, hdd, hdl⟩ F₁ N₁
    have hil : i ≤ 1 := by
      obtain ⟨x, _⟩ := List.getElem?_eq_some_iff.mp hvi
      have : i < 2 := x
      omega
    have hv : ∃ lr vr nr ms, v = .ref lr ∧ (lr, listOf (List.toArray vr) nr) ∈ R ∧ IntsAre vr ms ∧ ms.length ≤ 3 := by
      have hm := List.mem_of_getElem? hvi
      simp only [List.mem_cons, List.not_mem_nil, or_false] at hm
      rw [hR]
      rcases hm with rfl | rfl
      · exact ⟨q1, w1, 0, ms1, rfl, .tail _ (.tail _ (.head _)), hi1, hl1⟩
      · exact ⟨q2, w2, 0, ms2, rfl, .tail _ (.head _), hi2, hl2⟩
    obtain ⟨lr, vr, nr, ms, rfl, hlr, hvr, hms3⟩ := hv
    refine storeX_L F₁ N₁ (fun h' F' N' => ?_) rfl rfl
    have N₂ : News h₀ L h' (cells5 L o5' o4' o3' o2 o1 ((lt, listOf (List.toArray (rs.map fun (r : Addr × Addr × List Str) => Value.ref r.1)) nt') :: (ld, listOf (List.toArray (rs.map fun (r : Addr × Addr × List Str) => Value.ref r.2.1)) nd') :: ((dd ++ R) ++ own))) := N'
    have ownc : OwnOff own (cellsOf L) := cells5_own hoff
    have ownt : ∀ p ∈ own, p.1 ≠ lt := fun p hp => adr_own hoff hp (cells5_rest (.head _))
    have ownd : ∀ p ∈ own, p.1 ≠ ld := fun p hp => adr_own hoff hp (cells5_rest (.tail _ (.head _)))
    have offc : OwnOff ((lt, listOf (List.toArray (rs.map fun (r : Addr × Addr × List Str) => Value.ref r.1)) nt') :: (ld, listOf (List.toArray (rs.map fun (r : Addr × Addr × List Str) => Value.ref r.2.1)) nd') :: ((dd ++ R) ++ own)) (cellsOf L) := by
      refine all_cons ?_ (all_cons ?_ (own_app (own_app hdc oR) ownc))
      · exact off (lt, listOf (List.toArray []) nt) (by rw [hre]; exact .head _)
      · exact off (ld, listOf (List.toArray []) nd) (by rw [hre]; exact .tail _ (.head _))
    refine row_ok (k := k) (nr := nr) (np := np) (nh := nh) (lr := lr) (lp := lp) (lh := lh) (hs := hs) (tt := tt) (fa := fa) (cd := cd) F' N₂ offc X T hdp hun hlt (all_app (all_app hdt Rt) ownt) (all_app (all_app hdd Rd) ownd) ?m1 ?m2 ?m3 ?m4 ?m5 ?m6 ?m7 hvr hms3 hvp hk hvh hhp hhs e5 e4 e3 h2 h1 ?v1 ?v2 ?_
    case m1 => (try dsimp only); rw [if_pos rfl]
    case m2 => (try dsimp only); rw [if_neg (by decide), hmap _ (by decide) (by decide) (by decide) (by decide) (by decide)]; exact hmh
    case m3 => (try dsimp only); rw [if_neg (by decide), hmap _ (by decide) (by decide) (by decide) (by decide) (by decide)]; exact hmt
    case m4 => (try dsimp only); rw [if_neg (by decide), hmap _ (by decide) (by decide) (by decide) (by decide) (by decide)]; exact hmo
    case m5 => exact List.mem_append_left _ (List.mem_append_right _ hlr)
    case m6 => exact List.mem_append_left _ (List.mem_append_right _ (by rw [hR]; exact .tail _ (.tail _ (.tail _ hp))))
    case m7 => exact List.mem_append_left _ (List.mem_append_right _ (by rw [hR]; exact .tail _ (.tail _ (.tail _ hh))))
    case v1 => rw [List.length_map]; omega
    case v2 => rw [List.length_map]; omega
    intro lf wf nf lx wx nx ds m' p5 p4 p3 d5 d4 d3 nt₂ nd₂ h₂ tk₂ hds hwf hwx hm' f5 f4 f3 F₃ N₃ hc₃ ff fx
    have app1 : (rs.map fun (r : Addr × Addr × List Str) => Value.ref r.1) ++ [.ref lf] = (rs ++ [(lf, lx, ds)]).map fun (r : Addr × Addr × List Str) => Value.ref r.1 := by rw [List.map_append]; rfl
    have app2 : (rs.map fun (r : Addr × Addr × List Str) => Value.ref r.2.1) ++ [.ref lx] = (rs ++ [(lf, lx, ds)]).map fun (r : Addr × Addr × List Str) => Value.ref r.2.1 := by rw [List.map_append]; rfl
    rw [app1, app2] at N₃
    refine InvEndG.intro F₃ N₃ ⟨cells5_rest (.tail _ (.tail _ (List.mem_append_right _ (by rw [hR]; exact .head _)))), (lf, listOf (List.toArray wf) nf) :: (lx, listOf (List.toArray wx) nx) :: dd, rs ++ [(lf, lx, ds)], nt₂, nd₂, p5, p4, p3, d5, d4, d3, ?_, rfl, f5, f4, f3, ?_, ?_, ?_, ?_, ?_, ?_⟩ ?_ ?_ ?_
    · intro y a1 a2 a3 a4 a5
      rw [hm' y a2 a3 a4 a5, if_neg a1]
      exact hmap y a1 a2 a3 a4 a5
    · rw [List.length_append, hrl]; rfl
    · intro r hr
      rcases List.mem_append.mp hr with hr | hr
      · exact (hrows r hr).mono fun p hp => .tail _ (.tail _ hp)
      · rw [List.mem_singleton.mp hr]
        exact ⟨ms, wf, nf, wx, nx, .head _, .tail _ (.head _), hwf, hwx, hds⟩
    · exact all_cons (fun b hb => (hc₃ b hb).1) (all_cons (fun b hb => (hc₃ b hb).2) hdc)
    · exact all_cons (ff _ (.head _)).symm (all_cons (fx _ (.head _)).symm hdt)
    · exact all_cons (ff _ (.tail _ (.head _))).symm (all_cons (fx _ (.tail _ (.head _))).symm hdd)
    · exact all_cons ⟨_, _, rfl⟩ (all_cons ⟨_, _, rfl⟩ hdl)
    · exact own_adr fun p hp q hq => cells5_adr (P := fun a => p.1 ≠ a) (fun b hb => ownc p hp b hb) (all_cons (P := fun q : Addr × Obj => p.1 ≠ q.1) (ownt p hp) (all_cons (P := fun q : Addr × Obj => p.1 ≠ q.1) (ownd p hp) (all_cons (P := fun q : Addr × Obj => p.1 ≠ q.1) (ff p (.tail _ (.tail _ (List.mem_append_right _ hp)))) (all_cons (P := fun q : Addr × Obj => p.1 ≠ q.1) (fx p (.tail _ (.tail _ (List.mem_append_right _ hp)))) fun q hq => adr_own hoff hp (cells5_rest (.tail _ (.tail _ hq))))))) q hq
    · exact cells5_sub (sub_cons (.head _) (sub_cons (.tail _ (.head _)) (sub_cons (.tail _ (.tail _ (.head _))) (sub_cons (.tail _ (.tail _ (.tail _ (.head _)))) fun p hp => .tail _ (.tail _ (.tail _ (.tail _ (List.mem_append_left _ hp))))))))
    · exact fun p hp => cells5_rest (.tail _ (.tail _ (.tail _ (.tail _ (List.mem_append_right _ hp)))))
  · rintro m₁ news₁ h tk ⟨dd, rs, nt', nd', o5', o4', o3', c5', c4', c3', hmap, rfl, e5, e4, e3, hrl, hrows, hdc, hdt, hdd, hdl⟩ F₁ N₁ _
    obtain ⟨a, b, rfl⟩ : ∃ a b, rs = [a, b] := by
      match rs, hrl with
      | [a, b], _ => exact ⟨a, b, rfl⟩
    exact ret a b dd m₁ o5' o4' o3' c5' c4' c3' nt' nd' _ _ (hrows a (.head _)) (hrows b (.tail _ (.head _))) hmap e5 e4 e3 F₁ (news_sub N₁ (cells5_sub (sub_cons (.head _) (sub_cons (.tail _ (.head _)) fun p hp => .tail _ (.tail _ (List.mem_append_left _ hp)))))) hdc hdt hdd hdl
end
end
section



local macro_rules | `(tactic| walk_at "subscriptTail") => `(tactic| (k_here; (with_reducible show wpAny _ _ (subscriptTail _ _ (Value.ref _) (Value.int 0 _)) _ _ _); k_dflt (refine' item_z (i := 0) (by k_asm) (by k_mem) (by exact rfl) (by exact rfl) (by exact Nat.le_of_ble_eq_true rfl) ?_ (by with_unfolding_all rfl); k_whole)))
local macro_rules | `(tactic| walk_at "subscriptTail") => `(tactic| (k_here; (with_reducible show wpAny _ _ (subscriptTail _ _ (Value.ref _) (Value.int 1 _)) _ _ _); k_dflt (refine' item_z (i := 1) (by k_asm) (by k_mem) (by exact rfl) (by exact rfl) (by exact Nat.le_of_ble_eq_true rfl) ?_ (by with_unfolding_all rfl); k_whole)))
local macro_rules | `(tactic| walk_at "compareOp NotIn str ref") => `(tactic| (k_here; k_dflt (refine' notin_list_strs (by exact at_list (by k_asm) (by k_mem)) (by with_reducible assumption) ?_; k_whole)))

section
variable {w : World} {mean : ExcName → Option Value} {mg mb : Str → Option Value} {dp un : Nat} {fr : Option (List Env)} {gd : Option (List Code)} {s : Shared} {Q : Flow → Shared → Prop} {E : Value → Shared → Prop}
  {h₀ : Heap} {L fa : Addr} {cd : Value} {m : Str → Option Value} {rest : List (Addr × Obj)} {o5 o4 o3 o2 o1 : Obj}
    (F : Fr h₀ L s.heap m) (N : News h₀ L s.heap (cells5 L o5 o4 o3 o2 o1 rest)) (off : OwnOff rest (cellsOf L)) (X : (Mine.hd.heap_39 w.params).In h₀) (T : Top Mine.hd.view_39 (looseW Mine.hd.view_39 [Str.ofString "IPV4_RE"]) mean mg mb h₀) (hdp : dp + 100 < recursionLimit) (hun : un + 1000 < cLine)
include F N off X T hdp hun
theorem lt6 {ld x0 x1 : Addr} {w0 w1 : List Value} {nd n0 n1 : Nat} {d0 d1 : List Str} (hd : (ld, listOf (List.toArray [.ref x0, .ref x1]) nd) ∈ rest) (h0 : (x0, listOf (List.toArray w0) n0) ∈ rest) (h1 : (x1, listOf (List.toArray w1) n1) ∈ rest) (hw0 : StrsAre w0 d0) (hw1 : StrsAre w1 d1) (hl0 : d0.length ≤ 8) (hl1 : d1.length ≤ 8) (h2 : o2.data = .cell (some (.ref ld)))
    (ret : ∀ D ws n' h' tk', StrsAre ws (d0.filter (notIn d1)) → Fr h₀ L h' (fun y => if y = Str.ofString "first_alone" then some (.ref D) else m y) → News h₀ L h' (cells5 L o5 o4 o3 o2 o1 ((D, listOf (List.toArray ws) n') :: rest)) → OwnOff ((D, listOf (List.toArray ws) n') :: rest) (cellsOf L) → Q .next { s with heap := h', toks := tk' }) :
    wpAny (model PySem.Challenge.rw_pd0169_01.row.prog w) (Ar dp un fr gd) (exec (ls 6) (lawEnv L fa cd)) Q E s := by
  unfold lawEnv
  (conv in ls 6 => whnf)
  (conv in lawScope => whnf)
  dsimp only [cells5] at N
  w_on
  (revert X; k_fill; intro X)
  (try k_fold)
  refine' lc_assign (cl := [(Str.ofString "dues", L + 1 + 1)]) (strP (notIn d1)) (fun v y => y = v) ?c0 ?c1 ?c2 ?c3 ?c4 ?c5 ?c7 ?c8 ?_ ?c6
  (case c0 => with_unfolding_all rfl)
  (case c1 => exact rfl)
  (case c2 => decide)
  (case c3 => exact rfl)
  (case c4 => decide)
  (case c5 => exact rfl)
  (case c7 => exact rfl)
  (case c8 => exact rfl)
  (case c6 => (intro _; rfl))
  k_steps
  (try dsimp only)
  refine' comp_list_s (vs := w0) (nn := n0) _ _ ?kh ?kL ?kF ?kN ?kl ?_ ?_ ?_ ?_
  (case kh => exact rfl)
  (case kF => k_asm)
  (case kN => k_asm)
  (case kL => exact rfl)
  (case kl => k_mem)
  · rw [strsAre_len hw0, sizeLine_eq]; omega
  · intro C s₃ v m₃ E' hv₃ F₃ N₃ k₃
    obtain ⟨x₃, t₃, rfl, hx₃⟩ := strs_mem hw0 hv₃
    (try dsimp only at F₃ N₃ k₃)
    have X₃ := Frag.In.keeps X k₃
    have T₃ := T.keeps k₃
    refine tests1 (test_in ?_)
    k_steps
    exact test_out rfl (fun _ _ e => e)
  · intro C s₃ v m₃ E' hv₃ hp F₃ N₃ k₃
    (try dsimp only at F₃ N₃ k₃)
    have X₃ := Frag.In.keeps X k₃
    have T₃ := T.keeps k₃
    refine el_in (G := fun v y => y = v) ?_
    k_steps
    exact el_out rfl (fun _ _ e => e)
  · intro D n₄ ws₄ h₄ tk₄ hpair F₄ N₄ hne
    obtain rfl := paired_eq hpair
    have hw := strs_filter (notIn d1) hw0
    clear hpair
    (try dsimp only)
    exact ret _ _ _ _ _ hw F₄ (news_in N₄) (own_new hne off)
end
end
section



local macro_rules | `(tactic| walk_at "subscriptTail") => `(tactic| (k_here; (with_reducible show wpAny _ _ (subscriptTail _ _ (Value.ref _) (Value.int 0 _)) _ _ _); k_dflt (refine' item_z (i := 0) (by k_asm) (by k_mem) (by exact rfl) (by exact rfl) (by exact Nat.le_of_ble_eq_true rfl) ?_ (by with_unfolding_all rfl); k_whole)))
local macro_rules | `(tactic| walk_at "subscriptTail") => `(tactic| (k_here; (with_reducible show wpAny _ _ (subscriptTail _ _ (Value.ref _) (Value.int 1 _)) _ _ _); k_dflt (refine' item_z (i := 1) (by k_asm) (by k_mem) (by exact rfl) (by exact rfl) (by exact Nat.le_of_ble_eq_true rfl) ?_ (by with_unfolding_all rfl); k_whole)))
local macro_rules | `(tactic| walk_at "compareOp NotIn str ref") => `(tactic| (k_here; k_dflt (refine' notin_list_strs (by exact at_list (by k_asm) (by k_mem)) (by with_reducible assumption) ?_; k_whole)))

section
variable {w : World} {mean : ExcName → Option Value} {mg mb : Str → Option Value} {dp un : Nat} {fr : Option (List Env)} {gd : Option (List Code)} {s : Shared} {Q : Flow → Shared → Prop} {E : Value → Shared → Prop}
  {h₀ : Heap} {L fa : Addr} {cd : Value} {m : Str → Option Value} {rest : List (Addr × Obj)} {o5 o4 o3 o2 o1 : Obj}
    (F : Fr h₀ L s.heap m) (N : News h₀ L s.heap (cells5 L o5 o4 o3 o2 o1 rest)) (off : OwnOff rest (cellsOf L)) (X : (Mine.hd.heap_39 w.params).In h₀) (T : Top Mine.hd.view_39 (looseW Mine.hd.view_39 [Str.ofString "IPV4_RE"]) mean mg mb h₀) (hdp : dp + 100 < recursionLimit) (hun : un + 1000 < cLine)
include F N off X T hdp hun
theorem lt7 {ld x0 x1 : Addr} {w0 w1 : List Value} {nd n0 n1 : Nat} {d0 d1 : List Str} (hd : (ld, listOf (List.toArray [.ref x0, .ref x1]) nd) ∈ rest) (h0 : (x0, listOf (List.toArray w0) n0) ∈ rest) (h1 : (x1, listOf (List.toArray w1) n1) ∈ rest) (hw0 : StrsAre w0 d0) (hw1 : StrsAre w1 d1) (hl0 : d0.length ≤ 8) (hl1 : d1.length ≤ 8) (h2 : o2.data = .cell (some (.ref ld)))
    (ret : ∀ D ws n' h' tk', StrsAre ws (d1.filter (notIn d0)) → Fr h₀ L h' (fun y => if y = Str.ofString "second_alone" then some (.ref D) else m y) → News h₀ L h' (cells5 L o5 o4 o3 o2 o1 ((D, listOf (List.toArray ws) n') :: rest)) → OwnOff ((D, listOf (List.toArray ws) n') :: rest) (cellsOf L) → Q .next { s with heap := h', toks := tk' }) :
    wpAny (model PySem.Challenge.rw_pd0169_01.row.prog w) (Ar dp un fr gd) (exec (ls 7) (lawEnv L fa cd)) Q E s := by
  unfold lawEnv
  (conv in ls 7 => whnf)
  (conv in lawScope => whnf)
  dsimp only [cells5] at N
  w_on
  (revert X; k_fill; intro X)
  (try k_fold)
  refine' lc_assign (cl := [(Str.ofString "dues", L + 1 + 1)]) (strP (notIn d0)) (fun v y => y = v) ?c0 ?c1 ?c2 ?c3 ?c4 ?c5 ?c7 ?c8 ?_ ?c6
  (case c0 => with_unfolding_all rfl)
  (case c1 => exact rfl)
  (case c2 => decide)
  (case c3 => exact rfl)
  (case c4 => decide)
  (case c5 => exact rfl)
  (case c7 => exact rfl)
  (case c8 => exact rfl)
  (case c6 => (intro _; rfl))
  k_steps
  (try dsimp only)
  refine' comp_list_s (vs := w1) (nn := n1) _ _ ?kh ?kL ?kF ?kN ?kl ?_ ?_ ?_ ?_
  (case kh => exact rfl)
  (case kF => k_asm)
  (case kN => k_asm)
  (case kL => exact rfl)
  (case kl => k_mem)
  · rw [strsAre_len hw1, sizeLine_eq]; omega
  · intro C s₃ v m₃ E' hv₃ F₃ N₃ k₃
    obtain ⟨x₃, t₃, rfl, hx₃⟩ := strs_mem hw1 hv₃
    (try dsimp only at F₃ N₃ k₃)
    have X₃ := Frag.In.keeps X k₃
    have T₃ := T.keeps k₃
    refine tests1 (test_in ?_)
    k_steps
    exact test_out rfl (fun _ _ e => e)
  · intro C s₃ v m₃ E' hv₃ hp F₃ N₃ k₃
    (try dsimp only at F₃ N₃ k₃)
    have X₃ := Frag.In.keeps X k₃
    have T₃ := T.keeps k₃
    refine el_in (G := fun v y => y = v) ?_
    k_steps
    exact el_out rfl (fun _ _ e => e)
  · intro D n₄ ws₄ h₄ tk₄ hpair F₄ N₄ hne
    obtain rfl := paired_eq hpair
    have hw := strs_filter (notIn d0) hw1
    clear hpair
    (try dsimp only)
    exact ret _ _ _ _ _ hw F₄ (news_in N₄) (own_new hne off)
end
end
section



local macro_rules | `(tactic| walk_at "subscriptTail") => `(tactic| (k_here; (with_reducible show wpAny _ _ (subscriptTail _ _ (Value.ref _) (Value.int 0 _)) _ _ _); k_dflt (refine' item_z (i := 0) (by k_asm) (by k_mem) (by exact rfl) (by exact rfl) (by exact Nat.le_of_ble_eq_true rfl) ?_ (by with_unfolding_all rfl); k_whole)))
local macro_rules | `(tactic| walk_at "subscriptTail") => `(tactic| (k_here; (with_reducible show wpAny _ _ (subscriptTail _ _ (Value.ref _) (Value.int 1 _)) _ _ _); k_dflt (refine' item_z (i := 1) (by k_asm) (by k_mem) (by exact rfl) (by exact rfl) (by exact Nat.le_of_ble_eq_true rfl) ?_ (by with_unfolding_all rfl); k_whole)))
local macro_rules | `(tactic| walk_at "compareOp NotIn str ref") => `(tactic| (k_here; k_dflt (refine' notin_list_strs (by exact at_list (by k_asm) (by k_mem)) (by with_reducible assumption) ?_; k_whole)))

local macro_rules | `(tactic| walk_at "call ref") => `(tactic| (k_here; (with_reducible show wpAny _ _ (call (Value.ref 170) _) _ _ _); refine hold_in ?_))
local macro_rules | `(tactic| walk_at "compareOp Eq ref ref") => `(tactic| (k_here; refine hold_in ?_))

theorem all_filter {xs : List Str} {q : Str → Bool} (h : xs.all PyData.strOk = true) : (xs.filter q).all PyData.strOk = true := by
  rw [List.all_eq_true] at h ⊢
  exact fun x hx => h x (List.mem_filter.mp hx).1
section
variable {w : World} {mean : ExcName → Option Value} {mg mb : Str → Option Value} {dp un : Nat} {gd : Option (List Code)} {s : Shared} {Q : Flow → Shared → Prop} {E : Value → Shared → Prop}
  {h₀ : Heap} {L fa : Addr} {cd : Value} {m : Str → Option Value} {rest : List (Addr × Obj)} {o5 o4 o3 o2 o1 : Obj}
    (F : Fr h₀ L s.heap m) (N : News h₀ L s.heap (cells5 L o5 o4 o3 o2 o1 rest)) (X : (Mine.hd.heap_39 w.params).In h₀) (T : Top Mine.hd.view_39 (looseW Mine.hd.view_39 [Str.ofString "IPV4_RE"]) mean mg mb h₀) (hdp : dp + 100 < recursionLimit) (hun : un + 1000 < cLine)
include F N X T hdp hun
theorem lt8 {lt f0 f1 A B : Addr} {v0 v1 wa wb : List Value} {nt n0 n1 na nb : Nat} {d0 d1 : List Str} (hd : (lt, listOf (List.toArray [.ref f0, .ref f1]) nt) ∈ rest) (h0 : (f0, listOf (List.toArray v0) n0) ∈ rest) (h1 : (f1, listOf (List.toArray v1) n1) ∈ rest) (hA : (A, listOf (List.toArray wa) na) ∈ rest) (hB : (B, listOf (List.toArray wb) nb) ∈ rest) (hv0 : StrsAre v0 d0) (hv1 : StrsAre v1 d1) (hwa : StrsAre wa (d0.filter (notIn d1))) (hwb : StrsAre wb (d1.filter (notIn d0))) (hl0 : d0.length ≤ 8) (hl1 : d1.length ≤ 8) (hs0 : d0.Pairwise ltT) (hs1 : d1.Pairwise ltT) (ok0 : d0.all PyData.strOk = true) (ok1 : d1.all PyData.strOk = true)
    {c5 c4 c3 c2 c1 : Option Value} (e5 : o5.data = .cell c5) (e4 : o4.data = .cell c4) (e3 : o3.data = .cell c3) (e2 : o2.data = .cell c2) (e1 : o1.data = .cell c1) (hnf : ∀ p ∈ rest, ∃ ws n, p.2 = listOf ws n)
    (hmt : m (Str.ofString "told") = some (.ref lt)) (hma : m (Str.ofString "first_alone") = some (.ref A)) (hmb : m (Str.ofString "second_alone") = some (.ref B))
    (ret : ∀ h' tk', Fr h₀ L h' m → Q (.ret (.bool true)) { s with heap := h', toks := tk' }) :
    wpAny (model PySem.Challenge.rw_pd0169_01.row.prog w) (Ar dp un (some [lawEnv L fa cd]) gd) (exec (ls 8) (lawEnv L fa cd)) Q E s := by
  have hsld := sld_eq _ d0 d1 (Nat.le_refl _) hs0 hs1
  have hnf' : ∀ p ∈ cells5 L o5 o4 o3 o2 o1 rest, ∀ vs, p.2.data ≠ .fields vs := by
    intro p hp vs q
    simp only [cells5, List.mem_cons] at hp
    rcases hp with rfl | rfl | rfl | rfl | rfl | hp
    · rw [e5] at q; cases q
    · rw [e4] at q; cases q
    · rw [e3] at q; cases q
    · rw [e2] at q; cases q
    · rw [e1] at q; cases q
    · obtain ⟨ws, n, e⟩ := hnf p hp
      rw [e] at q; cases q
  have hkind : (lawEnv L fa cd).scope.kind ≠ .module := fun q => ScopeKind.noConfusion q
  obtain ⟨envL, hEq⟩ : ∃ e, e = lawEnv L fa cd := ⟨_, rfl⟩
  have hfL : envL.frame = some L := by rw [hEq]; rfl
  have hkL : envL.scope.kind ≠ .module := by rw [hEq]; exact hkind
  rw [show Ar dp un (some [lawEnv L fa cd]) gd = Ar dp un (some [envL]) gd from by rw [hEq]]
  clear hEq hkind
  unfold lawEnv
  (conv in ls 8 => whnf)
  (conv in lawScope => whnf)
  dsimp only [cells5] at N
  w_on
  (revert X; k_fill; intro X)
  (try k_fold)
  k_steps
  unfold Hold
  (rename News _ _ _ _ => NA)
  (rename Fr _ _ _ _ => FA)
  refine' sld_at (dp := dp) (un := un) (gd := gd) (lx := f0) (ly := f1) (vx := v0) (vy := v1) (nx := n0) (ny := n1) (xs := d0) (ys := d1) ?gF ?gN X T (by omega) (by omega) hfL hkL hnf' (by k_mem) (by k_mem) hv0 hv1 (near_ne hs0) (near_ne hs1) (by omega) (by omega) ?_
  (case gF => exact FA)
  (case gN => exact NA)
  intro D M U h' tk' ws us n3 n4 F' N' hws hus
  rw [hsld] at hws hus
  clear FA NA
  (try dsimp only at hws hus)
  (try dsimp only)
  k_steps
  unfold Hold
  (rename News _ _ _ _ => NE)
  (rename Fr _ _ _ _ => FE)
  refine eq_pairs (a1 := M) (a2 := U) (b1 := A) (b2 := B) NE (by k_mem) (by k_mem) (by k_mem) (by k_mem) (by k_mem) (by k_mem) hws hus hwa hwb (all_filter ok0) (all_filter ok1) (by show un + 64 < cLine; omega) ?_
  exact ret _ _ FE
end
end
end
section
local macro_rules | `(tactic| k_mem) => `(tactic| ((show (_ : Addr × Obj) ∈ (_ : List (Addr × Obj))); with_reducible assumption))
theorem law_is : lawBody = [ls 0, ls 1, ls 2, ls 3, ls 4, ls 5, ls 6, ls 7, ls 8] := by rfl
section
variable {w : World} {mean : ExcName → Option Value} {mg mb : Str → Option Value} {dp un : Nat} {gd : Option (List Code)} {s : Shared} {Q : Flow → Shared → Prop} {E : Value → Shared → Prop}
  {h₀ : Heap} {L fa : Addr} {cd : Value} {m : Str → Option Value} {o5 o4 o3 o2 o1 : Obj}
theorem body_ok {l : Addr} {vs : List Value} {ns : List Int} {c5 c4 c3 c2 c1 : Option Value}
    (F : Fr h₀ L s.heap m) (N : News h₀ L s.heap (cells5 L o5 o4 o3 o2 o1 [])) (X : (Mine.hd.heap_39 w.params).In h₀) (T : Top Mine.hd.view_39 (looseW Mine.hd.view_39 [Str.ofString "IPV4_RE"]) mean mg mb h₀) (hdp : dp + 100 < recursionLimit) (hun : un + 1000 < cLine)
    (hms : m (Str.ofString "script") = some (.ref l)) (hL : h₀.IsList l vs.toArray) (hI : IntsAre vs ns) (hlen : ns.length ≤ 63)
    (h5 : o5.data = .cell c5) (h4 : o4.data = .cell c4) (h3 : o3.data = .cell c3) (h2 : o2.data = .cell c2) (h1 : o1.data = .cell c1)
    (ret : ∀ h' tk' m', Fr h₀ L h' m' → Q (.ret (.bool true)) { s with heap := h', toks := tk' }) :
    wpAny (model PySem.Challenge.rw_pd0169_01.row.prog w) (Ar dp un (some [lawEnv L fa cd]) gd) (execs lawBody (lawEnv L fa cd)) Q E s := by
  rw [law_is]
  have off : OwnOff [] (cellsOf L) := fun p hp => nomatch hp
  refine wpAny_execs_cons (lt0 F N off X T hdp hun hms hL hI hlen fun k tt h' tk' hk F N => ?_)
  refine wpAny_execs_cons (lt1 (k := k) (tt := tt) F N off X T hdp hun hk (by (try dsimp only); rw [if_pos rfl]) h1 fun D1 w1 n1 o1' h' tk' hw1 h1 F N off f1 => ?_)
  refine wpAny_execs_cons (lt2 (k := k) F N off X T hdp hun hk (lp := D1) (.head _) hw1 h1 fun D2 w2 n2 hs h' tk' hw2 hhp hhs F N off f2 => ?_)
  refine wpAny_execs_cons (lt3 F N off X T hdp hun fun D3 n3 h' tk' F N off f3 => ?_)
  refine wpAny_execs_cons (lt4 F N off X T hdp hun h2 fun D4 n4 o2' h' tk' h2 F N off f4 => ?_)
  have N₁ : News h₀ L h' (cells5 L o5 o4 o3 o2' o1' ((D3, listOf (List.toArray []) n3) :: (D4, listOf (List.toArray []) n4) :: (D2, listOf w2.toArray n2) :: (D1, listOf w1.toArray n1) :: [])) :=
    news_sub N (cells5_sub (sub_cons (.tail _ (.head _)) (sub_cons (.head _) fun p hp => .tail _ (.tail _ hp))))
  have off₁ : OwnOff ((D3, listOf (List.toArray []) n3) :: (D4, listOf (List.toArray []) n4) :: (D2, listOf w2.toArray n2) :: (D1, listOf w1.toArray n1) :: []) (cellsOf L) :=
    fun p hp => off p (sub_cons (.tail _ (.head _)) (sub_cons (.head _) fun p hp => .tail _ (.tail _ hp)) p hp)
  refine wpAny_execs_cons (lt5 (k := k) (tt := tt) (hs := hs) (lt := D3) (ld := D4) (lp := D1) (lh := D2) (vp := w1) (vh := w2) (np := n1) (nh := n2) (nt := n3) (nd := n4) (r0 := [(D2, listOf w2.toArray n2), (D1, listOf w1.toArray n1)]) F N₁ off₁ X T hdp hun ?ms hL hI hlen rfl ?lt ?ot ?od ?mh ?mt ?mo (.tail _ (.head _)) (.head _) hw1 hk hw2 hhp hhs h5 h4 h3 h2 h1 ?_)
  case ms => (try dsimp only); rw [if_neg (by decide), if_neg (by decide), if_neg (by decide)]; exact hms
  case lt => exact f4 _ (.head _)
  case ot => exact all_cons (f3 _ (.head _)) (all_cons (f3 _ (.tail _ (.head _))) fun _ h => nomatch h)
  case od => exact all_cons (f4 _ (.tail _ (.head _))) (all_cons (f4 _ (.tail _ (.tail _ (.head _)))) fun _ h => nomatch h)
  case mh => (try dsimp only); rw [if_neg (by decide), if_pos rfl]
  case mt => (try dsimp only); rw [if_neg (by decide), if_neg (by decide), if_pos rfl]
  case mo => (try dsimp only); rw [if_pos rfl]
  intro a b dd m' p5 p4 p3 d5 d4 d3 nt nd h' tk' ra rb hmap e5 e4 e3 F N hdc _ _ hdl
  obtain ⟨nsa, wfa, nfa, wxa, nxa, ma1, ma2, sa1, sa2, da⟩ := ra
  obtain ⟨nsb, wfb, nfb, wxb, nxb, mb1, mb2, sb1, sb2, db⟩ := rb
  have off₂ : OwnOff ((D3, listOf (List.toArray [.ref a.1, .ref b.1]) nt) :: (D4, listOf (List.toArray [.ref a.2.1, .ref b.2.1]) nd) :: dd) (cellsOf L) :=
    all_cons (off₁ (D3, listOf (List.toArray []) n3) (.head _)) (all_cons (off₁ (D4, listOf (List.toArray []) n4) (.tail _ (.head _))) hdc)
  have la := due_len da
  have lb := due_len db
  refine wpAny_execs_cons (lt6 F N off₂ X T hdp hun (ld := D4) (x0 := a.2.1) (x1 := b.2.1) (.tail _ (.head _)) (.tail _ (.tail _ ma2)) (.tail _ (.tail _ mb2)) sa2 sb2 la lb h2 fun DA wa na h' tk' hwa F N off => ?_)
  refine wpAny_execs_cons (lt7 F N off X T hdp hun (ld := D4) (x0 := a.2.1) (x1 := b.2.1) (.tail _ (.tail _ (.head _))) (.tail _ (.tail _ (.tail _ ma2))) (.tail _ (.tail _ (.tail _ mb2))) sa2 sb2 la lb h2 fun DB wb nb h' tk' hwb F N off => ?_)
  refine wpAny_execs_cons (lt8 F N X T hdp hun (lt := D3) (f0 := a.1) (f1 := b.1) (A := DA) (B := DB) (.tail _ (.tail _ (.head _))) (.tail _ (.tail _ (.tail _ (.tail _ ma1)))) (.tail _ (.tail _ (.tail _ (.tail _ mb1)))) (.tail _ (.head _)) (.head _) sa1 sb1 hwa hwb la lb (due_strict hk da) (due_strict hk db) (due_all hk da) (due_all hk db) e5 e4 e3 h2 h1
    (all_cons ⟨_, _, rfl⟩ (all_cons ⟨_, _, rfl⟩ (all_cons ⟨_, _, rfl⟩ (all_cons ⟨_, _, rfl⟩ hdl)))) ?mo2 ?ma ?mb fun h' tk' F => ?_)
  case mo2 => (try dsimp only); rw [if_neg (by decide), if_neg (by decide), hmap _ (by decide) (by decide) (by decide) (by decide) (by decide), if_pos rfl]
  case ma => (try dsimp only); rw [if_neg (by decide), if_pos rfl]
  case mb => (try dsimp only); rw [if_pos rfl]
  exact ret _ _ _ F
end
end
section
theorem law_holds : PySem.Challenge.rw_pd0169_01.Holds := Mine.hd (by
  w_on
  k_go0
  (all_goals try k_fold)
  (rename Frag.In _ _ => X)
  (rename Top _ _ _ _ _ _ => T)
  (rename Fr _ _ _ _ => F)
  (rename News _ _ _ _ => N)
  (rename Heap.IsList _ _ _ => hL)
  (rename IntsAre _ _ => hI)
  (rename ¬ _ < _ => hlen)
  refine' body_ok F N X T ?d ?u ?ms hL hI ?hl ?e5 ?e4 ?e3 ?e2 ?e1 ?_
  (case d => decide +kernel)
  (case u => decide +kernel)
  (case ms => exact rfl)
  (case hl => omega)
  (case e5 => with_reducible assumption)
  (case e4 => with_reducible assumption)
  (case e3 => with_reducible assumption)
  (case e2 => with_reducible assumption)
  (case e1 => with_reducible assumption)
  intro h' tk' m' F'
  k_steps)
end
end Mine
theorem PySem.Challenge.cw_pd0169_01_holds : PySem.Challenge.rw_pd0169_01.Holds :=
  Mine.law_holds
