import PyProof.Rows.All
import Wide.All
import OpenK.AllK
import Wide.FinOn
import PySem.Challenge.RW_mr0247_01
set_option Elab.async false
set_option maxRecDepth 100000
set_option maxHeartbeats 8000000
set_option autoImplicit false
set_option linter.unusedVariables false
namespace Mine
section
open PySem PySem.W PyProof.Rows
local macro_rules | `(tactic| k_head) => `(tactic| x_head)
open_top hd for PySem.Challenge.rw_mr0247_01

end
section
open PySem PySem.W PySem.W.X PyProof.Rows PySem.Spec
abbrev P : Program := PySem.Challenge.rw_mr0247_01.row.toRowW.prog
abbrev A0 : Around := { handled := none, depth := 800, frames := none, guards := none, units := 3000 }
theorem wpAny_A0 {α : Type} {M : Model} {A : Around} {t : Sem α} {Q : α → Shared → Prop} {E : Value → Shared → Prop} {s : Shared} (h : wpAny M A0 t Q E s) (hh : A.handled = none) (hd : A.depth ≤ 800) (hu : A.units ≤ 3000) : wpAny M A t Q E s :=
  fun Γ p hΓ => h Γ p ⟨hΓ.1.trans hh, Nat.le_trans hΓ.2.1 hd, fun _ e => (nomatch e), fun _ e => (nomatch e), Nat.le_trans hΓ.2.2.2.2 hu⟩
theorem keeps_of {h₀ h : Heap} {news : List (Addr × Obj)} (D : Mem h₀ h [] news) : ∀ b o, h₀.get? b = some o → h.get? b = some o := fun b o e => D.keep b o e (by simp [away])
local macro_rules | `(tactic| x_close) => `(tactic| (first | exact ⟨rfl, _, rfl⟩ | exact ⟨rfl, keeps_of (by assumption)⟩ | exact ⟨⟨_, rfl⟩, keeps_of (by assumption)⟩))
def okNames : List Str := ["content-type", "etag", "x-a-b", "host", "x--y", "CONTENT-TYPE", "ETAG", "X-A-B", "HOST", "X--Y", "Content-type", "Etag", "X-a-b", "Host", "X--y", "Content-Type"]
def okVals : List Str := ["v0", "v1", "v2", "v3", "v4", "v5", "v6", "v7", "v8", "v9", "v10", "v11", "v12", "v13", "v14", "v15", "v16"]
set_option linter.unusedVariables false
theorem searchN {w : World} {s : Shared} {t : Tok} {E : Value → Shared → Prop} {x : Str} (KX : (hd.heap_39 w.params).In s.heap) (hx : x ∈ okNames) :
   wpAny (model P w) A0 (PySem.call (.builtin "re.Pattern.search") [.ref 41, .str x t]) (fun v s' => v = .none ∧ ∃ tk, s' = { s with toks := tk }) E s := by
  simp only [okNames, List.mem_cons, List.not_mem_nil, or_false] at hx
  rcases hx with rfl | rfl | rfl | rfl | rfl | rfl | rfl | rfl | rfl | rfl | rfl | rfl | rfl | rfl | rfl | rfl <;> x_run
theorem searchV {w : World} {s : Shared} {t : Tok} {E : Value → Shared → Prop} {x : Str} (KX : (hd.heap_39 w.params).In s.heap) (hx : x ∈ okVals) :
   wpAny (model P w) A0 (PySem.call (.builtin "re.Pattern.search") [.ref 46, .str x t]) (fun v s' => v = .none ∧ ∃ tk, s' = { s with toks := tk }) E s := by
  simp only [okVals, List.mem_cons, List.not_mem_nil, or_false] at hx
  rcases hx with rfl | rfl | rfl | rfl | rfl | rfl | rfl | rfl | rfl | rfl | rfl | rfl | rfl | rfl | rfl | rfl | rfl <;> x_run
end
section
open PySem PySem.W PySem.W.X PyProof.Rows PySem.Spec
noncomputable abbrev loose : List Str := looseW hd.view_39 [Str.ofString "tspecials", Str.ofString "_name_disallowed_re", Str.ofString "_value_disallowed_re", Str.ofString "_formatparam", Str.ofString "capwords"]
abbrev fsc (nms : List (Str × NameKind)) (more : List (Str × Const)) : Scope := { kind := .function, names := nms, isGenerator := false, isCoroutine := false, more := more }
abbrev AK (d u : Nat) (fr : List Env) : Around := { handled := none, depth := d, frames := some fr, guards := none, units := u }
theorem plainAttrs_pat : PlainAttrs "re.Pattern" :=
  ⟨⟨"object.__getattribute__", by rw [typeLookup_type, builtinLookup_eq_fast]; kernel_rfl, by decide +kernel⟩, by rw [typeLookup_type, builtinLookup_eq_fast]; kernel_rfl⟩
theorem slot_pat_search : Slot "re.Pattern" "search" "re.Pattern.search" :=
  .of (owner := "re.Pattern") (n := "search") (by rw [typeLookup_type, builtinLookup_eq_fast]; kernel_rfl) (by decide +kernel) (by decide +kernel) (by decide +kernel)
    (by first | exact .inl (by decide +kernel) | exact .inr (by decide +kernel)) (by rw [isSubtype_type]; kernel_rfl)
theorem type_pat_search : typeOf (.builtin "re.Pattern.search") = pure (.type "method_descriptor") := by show builtinType _ = _; rw [builtinType_eq_fast]; kernel_rfl
section
variable {w : World} {s : Shared} {A₀ : Around} {base h₀ : Heap} {outer : List Env} {env : Env}
  {L : Addr} {m : Str → Option Value} {news : List (Addr × Obj)} {mean : ExcName → Option Value} {mg mb : Str → Option Value} {Q : Value → Shared → Prop} {E : Value → Shared → Prop}
theorem search_K {A : Around} {x : Str} {t : Tok} (X : (hd.heap_39 w.params).In s.heap) (hh : A.handled = none) (hdp : A.depth ≤ 800) (hu : A.units ≤ 3000) (hx : x ∈ okNames) (h : ∀ tk, Q .none { s with toks := tk }) :
    wpAny (model P w) A (call (.builtin "re.Pattern.search") [.ref 41, .str x t]) Q E s :=
  wpAny_A0 (wpAny_mono (searchN X hx) (fun v s' ⟨e, tk, e'⟩ => by subst e e'; exact h tk) fun _ _ e => e) hh hdp hu
theorem getMethod_pat {A : Around} {p : Addr} {pl : Sem Bool} {o : Obj} {Q : Value × List Value → Shared → Prop} (ho : s.heap.get? p = some o) (hc : o.cls = .type "re.Pattern") (hd : o.dict = none) (h : Q (.builtin "re.Pattern.search", [.ref p]) s) :
    wpAny (model P w) A (getMethod (.ref p) "search" pl) Q E s :=
  getMethod_builtin ⟨o, ho, hc⟩ plainAttrs_pat slot_pat_search type_pat_search (fun a e => by cases e; exact ⟨o, ho, hd⟩) h
local macro_rules | `(tactic| walk_at "getMethod ref") => `(tactic| (k_here; (with_reducible show wpAny _ _ (getMethod (Value.ref 41) (PySem.Str.ofString "search") _) _ _ _); k_dflt (refine' getMethod_pat (p := 41) ?k1 ?k2 ?k3 ?_; (case k1 => exact (Frag.In.keeps (by k_asm) (Fr.keep (by k_asm))) _ _ rfl); (case k2 => exact rfl); (case k3 => exact rfl); k_whole)))
local macro_rules | `(tactic| walk_at "call builtin:re.Pattern.search") => `(tactic| (k_here; k_dflt (refine' search_K ?k1 ?k2 ?k3 ?k4 ?k5 ?_; (case k1 => exact (Frag.In.keeps (by k_asm) (Fr.keep (by k_asm)))); (case k2 => exact rfl); (case k3 => exact Nat.le_of_ble_eq_true rfl); (case k4 => exact Nat.le_of_ble_eq_true rfl); (case k5 => assumption); k_whole); intro tk'))
theorem AK_mono {α : Type} {M : Model} {A : Around} {d u : Nat} {fr : List Env} {t : Sem α} {Q : α → Shared → Prop} {E : Value → Shared → Prop} {s : Shared} (h : wpAny M (AK d u fr) t Q E s) (hh : A.handled = none) (hf : A.frames = some fr) (hd : A.depth ≤ d) (hu : A.units ≤ u) : wpAny M A t Q E s :=
  fun Γ p hΓ => h Γ p ⟨hΓ.1.trans hh, Nat.le_trans hΓ.2.1 hd, fun l e => hΓ.2.2.1 l (hf.trans e), fun _ e => (nomatch e), Nat.le_trans hΓ.2.2.2.2 hu⟩
local macro_rules | `(tactic| k_enter) => `(tactic| first
  | (refine' code_def ?k1 ?k2 ?k3 ?k4 ?k5 ?kA ?kF ?kK ?k6 ?k7 ?k8 ?k9 ?kB ?_ ?c2 ?c3 ?c4 ?c5; (case kA => exact rfl); (case kF => first | exact rfl | assumption); (case kK => first | exact rfl | assumption); (case k1 => k_asm); (case k2 => k_asm); (case k3 => k_asm); (case k4 => k_asm); (case k5 => k_asm); (case k6 => k_is); (case k7 => k_is); (case k8 => k_room); (case k9 => first | exact BindsTo.of_eq rfl | exact binds_K (by k_in) rfl (by k_is) rfl rfl rfl | fail "k_enter: no rule for these arguments"); (case c5 => decide); (case kB => exact locs rfl); (case c2 => exact rfl); (case c3 => exact rfl); (case c4 => exact rfl); k_whole; intro g' L' h' FG' F' N' B' X' T'; (try dsimp only); (try k_lift B'); (try k_fold))
  | (refine' code_defC ?k1 ?k2 ?k3 ?k4 ?k5 ?kA ?kF ?kK ?k6 ?k7 ?k8 ?k9 ?kB ?kD ?_ ?c2 ?c3 ?c4; (case kA => exact rfl); (case kF => first | exact rfl | assumption); (case kK => first | exact rfl | assumption); (case k1 => k_asm); (case k2 => k_asm); (case k3 => k_asm); (case k4 => k_asm); (case k5 => k_asm); (case k6 => k_is); (case k7 => k_is); (case k8 => k_room); (case k9 => first | exact BindsTo.of_eq rfl | exact binds_K (by k_in) rfl (by k_is) rfl rfl rfl | fail "k_enter: no rule for these arguments"); (case kB => exact rfl); (case kD => decide +kernel); (case c2 => exact rfl); (case c3 => exact rfl); (case c4 => exact rfl); k_whole; intro g' L' h' tk' cells' FG' F' N' Y' B' X' T' l1; (try k_lt l1); k_cells Y'; (try simp only [List.cons_append, List.nil_append] at N'); (try dsimp only); (try k_lift B'); (try k_fold)))
theorem conv_K {x : Str} {t : Tok} {self : Addr} (T : Top hd.view_39 loose mean mg mb h₀) (KX : (hd.heap_39 w.params).In h₀) (B : Below A₀ base outer h₀) (F : Fr h₀ L s.heap m) (N : News h₀ L s.heap news) (hf : env.frame = some L) (hke : env.scope.kind = .function)
    (hx : x ∈ okNames) (h : ∀ h' tk, Fr h₀ L h' m → News h₀ L h' news → Q (.str x t) { s with heap := h', toks := tk }) :
    wpAny (model PySem.Challenge.rw_mr0247_01.row.toRowW.prog w) (AK 700 2000 (env :: outer)) (PySem.call (.ref 76) [.ref self, .str x t] [(Str.ofString "name", .bool true)]) Q E s := by
  revert KX; k_fill; intro KX
  w_on
  w_strict (repeat (first | (k_unfold; (try dsimp only)) | walk1 | (dsimp only; walk1)))
  exact h _ _ (by assumption) (by assumption)
theorem searchV_K {A : Around} {x : Str} {t : Tok} (X : (hd.heap_39 w.params).In s.heap) (hh : A.handled = none) (hdp : A.depth ≤ 800) (hu : A.units ≤ 3000) (hx : x ∈ okVals) (h : ∀ tk, Q .none { s with toks := tk }) :
    wpAny (model P w) A (call (.builtin "re.Pattern.search") [.ref 46, .str x t]) Q E s :=
  wpAny_A0 (wpAny_mono (searchV X hx) (fun v s' ⟨e, tk, e'⟩ => by subst e e'; exact h tk) fun _ _ e => e) hh hdp hu
local macro_rules | `(tactic| walk_at "getMethod ref") => `(tactic| (k_here; (with_reducible show wpAny _ _ (getMethod (Value.ref 46) (PySem.Str.ofString "search") _) _ _ _); k_dflt (refine' getMethod_pat (p := 46) ?k1 ?k2 ?k3 ?_; (case k1 => exact (Frag.In.keeps (by k_asm) (Fr.keep (by k_asm))) _ _ rfl); (case k2 => exact rfl); (case k3 => exact rfl); k_whole)))
local macro_rules | `(tactic| walk_at "call builtin:re.Pattern.search") => `(tactic| (k_here; k_dflt (refine' searchV_K ?k1 ?k2 ?k3 ?k4 ?k5 ?_; (case k1 => exact (Frag.In.keeps (by k_asm) (Fr.keep (by k_asm)))); (case k2 => exact rfl); (case k3 => exact Nat.le_of_ble_eq_true rfl); (case k4 => exact Nat.le_of_ble_eq_true rfl); (case k5 => assumption); k_whole); intro tk'))
theorem convV_K {x : Str} {t : Tok} {self : Addr} (T : Top hd.view_39 loose mean mg mb h₀) (KX : (hd.heap_39 w.params).In h₀) (B : Below A₀ base outer h₀) (F : Fr h₀ L s.heap m) (N : News h₀ L s.heap news) (hf : env.frame = some L) (hke : env.scope.kind = .function)
    (hx : x ∈ okVals) (h : ∀ h' tk, Fr h₀ L h' m → News h₀ L h' news → Q (.str x t) { s with heap := h', toks := tk }) :
    wpAny (model PySem.Challenge.rw_mr0247_01.row.toRowW.prog w) (AK 700 2000 (env :: outer)) (PySem.call (.ref 76) [.ref self, .str x t] [(Str.ofString "name", .bool false)]) Q E s := by
  revert KX; k_fill; intro KX
  w_on
  w_strict (repeat (first | (k_unfold; (try dsimp only)) | walk1 | (dsimp only; walk1)))
  exact h _ _ (by assumption) (by assumption)
end
end
section
open PySem PySem.W PySem.W.X PyProof.Rows PySem.Spec PyProof.Rows.LCg PyProof.Rows.LCt
def lowNames : List Str := ["content-type", "etag", "x-a-b", "host", "x--y", "content-type", "etag", "x-a-b", "host", "x--y", "content-type", "etag", "x-a-b", "host", "x--y", "content-type"]
def low (x : Str) : Str := ((okNames.zip lowNames).lookup x).getD x
theorem low_ok {x : Str} (hx : x ∈ okNames) : low x ∈ okNames := by
  have : ∀ y ∈ okNames, low y ∈ okNames := by decide +kernel
  exact this x hx
theorem low_low {x : Str} (hx : x ∈ okNames) : low (low x) = low x := by
  have : ∀ y ∈ okNames, low (low y) = low y := by decide +kernel
  exact this x hx
local macro_rules | `(tactic| x_close) => `(tactic| (first | exact ⟨⟨_, rfl⟩, _, rfl⟩ ))
theorem lower0 {w : World} {s : Shared} {t : Tok} {E : Value → Shared → Prop} {x : Str} (KX : (hd.heap_39 w.params).In s.heap) (hx : x ∈ okNames) :
   wpAny (model P w) A0 (PySem.call (.builtin "str.lower") [.str x t]) (fun v s' => (∃ t', v = .str (low x) t') ∧ ∃ tk, s' = { s with toks := tk }) E s := by
  simp only [okNames, List.mem_cons, List.not_mem_nil, or_false] at hx
  rcases hx with rfl | rfl | rfl | rfl | rfl | rfl | rfl | rfl | rfl | rfl | rfl | rfl | rfl | rfl | rfl | rfl <;> x_run
section
variable {w : World} {s : Shared} {Q : Value → Shared → Prop} {E : Value → Shared → Prop}
theorem lower_K {A : Around} {x : Str} {t : Tok} (X : (hd.heap_39 w.params).In s.heap) (hh : A.handled = none) (hdp : A.depth ≤ 800) (hu : A.units ≤ 3000) (hx : x ∈ okNames) (h : ∀ t' tk, Q (.str (low x) t') { s with toks := tk }) :
    wpAny (model P w) A (call (.builtin "str.lower") [.str x t]) Q E s :=
  wpAny_A0 (wpAny_mono (lower0 X hx) (fun v s' ⟨⟨t', e⟩, tk, e'⟩ => by subst e e'; exact h t' tk) fun _ _ e => e) hh hdp hu
end
abbrev tup2 (u v : Value) : Obj := { cls := .type "tuple", data := .seq [u, v].toArray }
inductive PairsIn (news : List (Addr × Obj)) : List Value → List (Str × Str) → Prop
  | nil : PairsIn news [] []
  | cons {a : Addr} {t1 t2 : Tok} {x y : Str} {vs : List Value} {ps : List (Str × Str)} : (a, tup2 (.str x t1) (.str y t2)) ∈ news → PairsIn news vs ps → PairsIn news (.ref a :: vs) ((x, y) :: ps)
theorem PairsIn.mono {news news' : List (Addr × Obj)} (hs : ∀ p ∈ news, p ∈ news') {vs : List Value} {ps : List (Str × Str)} (h : PairsIn news vs ps) : PairsIn news' vs ps := by
  induction h with
  | nil => exact .nil
  | cons hm _ ih => exact .cons (hs _ hm) ih
theorem PairsIn.length {news : List (Addr × Obj)} {vs : List Value} {ps : List (Str × Str)} (h : PairsIn news vs ps) : vs.length = ps.length := by
  induction h with
  | nil => rfl
  | cons _ _ ih => simp [ih]
theorem PairsIn.get {news : List (Addr × Obj)} {vs : List Value} {ps : List (Str × Str)} (h : PairsIn news vs ps) {i : Nat} {v : Value} (hv : vs[i]? = some v) :
    ∃ a t1 t2 x y, v = .ref a ∧ ps[i]? = some (x, y) ∧ (a, tup2 (.str x t1) (.str y t2)) ∈ news := by
  induction h generalizing i with
  | nil => simp at hv
  | cons hm _ ih =>
    cases i with
    | zero => simp at hv; subst hv; exact ⟨_, _, _, _, _, rfl, rfl, hm⟩
    | succ i => exact ih (by simpa using hv)
inductive StrsAre : List Value → List Str → Prop
  | nil : StrsAre [] []
  | cons {t : Tok} {x : Str} {vs : List Value} {xs : List Str} : StrsAre vs xs → StrsAre (.str x t :: vs) (x :: xs)
theorem StrsAre.snoc {vs : List Value} {xs : List Str} {t : Tok} {x : Str} (h : StrsAre vs xs) : StrsAre (vs ++ [.str x t]) (xs ++ [x]) := by
  induction h with
  | nil => exact .cons .nil
  | cons _ ih => exact .cons ih
local macro_rules | `(tactic| walk_at "call builtin:str.lower") => `(tactic| (k_here; k_dflt (refine' lower_K ?k1 ?k2 ?k3 ?k4 ?k5 ?_; (case k1 => exact (Frag.In.keeps (by k_asm) (Fr.keep (by k_asm)))); (case k2 => exact rfl); (case k3 => exact Nat.le_of_ble_eq_true rfl); (case k4 => exact Nat.le_of_ble_eq_true rfl); (case k5 => assumption); k_whole); intro t' tk'))
end
section
open PySem PySem.W PySem.W.X PyProof.Rows PySem.Spec PyProof.Rows.LCg PyProof.Rows.LCt
local macro_rules | `(tactic| k_enter) => `(tactic| first
  | (refine' code_def ?k1 ?k2 ?k3 ?k4 ?k5 ?kA ?kF ?kK ?k6 ?k7 ?k8 ?k9 ?kB ?_ ?c2 ?c3 ?c4 ?c5; (case kA => exact rfl); (case kF => first | exact rfl | assumption); (case kK => first | exact rfl | assumption); (case k1 => k_asm); (case k2 => k_asm); (case k3 => k_asm); (case k4 => k_asm); (case k5 => k_asm); (case k6 => k_is); (case k7 => k_is); (case k8 => k_room); (case k9 => first | exact BindsTo.of_eq rfl | exact binds_K (by k_in) rfl (by k_is) rfl rfl rfl | fail "k_enter: no rule for these arguments"); (case c5 => decide); (case kB => exact locs rfl); (case c2 => exact rfl); (case c3 => exact rfl); (case c4 => exact rfl); k_whole; intro g' L' h' FG' F' N' B' X' T'; (try dsimp only); (try k_lift B'); (try k_fold))
  | (refine' code_defC ?k1 ?k2 ?k3 ?k4 ?k5 ?kA ?kF ?kK ?k6 ?k7 ?k8 ?k9 ?kB ?kD ?_ ?c2 ?c3 ?c4; (case kA => exact rfl); (case kF => first | exact rfl | assumption); (case kK => first | exact rfl | assumption); (case k1 => k_asm); (case k2 => k_asm); (case k3 => k_asm); (case k4 => k_asm); (case k5 => k_asm); (case k6 => k_is); (case k7 => k_is); (case k8 => k_room); (case k9 => first | exact BindsTo.of_eq rfl | exact binds_K (by k_in) rfl (by k_is) rfl rfl rfl | fail "k_enter: no rule for these arguments"); (case kB => exact rfl); (case kD => decide +kernel); (case c2 => exact rfl); (case c3 => exact rfl); (case c4 => exact rfl); k_whole; intro g' L' h' tk' cells' FG' F' N' Y' B' X' T' l1; (try k_lt l1); (repeat (obtain ⟨_, l1⟩ := l1)); k_cells Y'; (try simp only [List.cons_append, List.nil_append] at N'); (try dsimp only); (try k_lift B'); (try k_fold)))
theorem allLt_mem {d : Nat} {l : List (Addr × Obj)} {p : Addr × Obj} (h : AllLt d l) (hp : p ∈ l) : @LT.lt Nat _ p.1 d := by
  induction l with
  | nil => cases hp
  | cons q r ih =>
    rcases List.mem_cons.mp hp with rfl | hp
    · exact h.1
    · exact ih h.2 hp
local macro_rules | `(tactic| k_all) => `(tactic| (intro p9 hp9; first | ((have q9 := allLt_mem ‹AllLt _ _› hp9); refine neN ?_; omega) | ((have q9 := allLt_mem (‹_ ∧ AllLt _ _›).2 hp9); refine neN ?_; omega) | ((have q9 := allLt_mem (‹_ ∧ _ ∧ AllLt _ _›).2.2 hp9); refine neN ?_; omega) | ((have q9 := allLt_mem (‹_ ∧ _ ∧ _ ∧ AllLt _ _›).2.2.2 hp9); refine neN ?_; omega) | ((have q9 := allLt_mem (‹_ ∧ _ ∧ _ ∧ _ ∧ AllLt _ _›).2.2.2.2 hp9); refine neN ?_; omega) | ((have q9 := allLt_mem (‹_ ∧ _ ∧ _ ∧ _ ∧ _ ∧ AllLt _ _›).2.2.2.2.2 hp9); refine neN ?_; omega) | ((have q9 := allLt_mem (‹_ ∧ _ ∧ _ ∧ _ ∧ _ ∧ _ ∧ AllLt _ _›).2.2.2.2.2.2 hp9); refine neN ?_; omega) | ((have q9 := allLt_mem (‹_ ∧ _ ∧ _ ∧ _ ∧ _ ∧ _ ∧ _ ∧ AllLt _ _›).2.2.2.2.2.2.2 hp9); refine neN ?_; omega) | ((have q9 := allLt_mem (‹_ ∧ _ ∧ _ ∧ _ ∧ _ ∧ _ ∧ _ ∧ _ ∧ AllLt _ _›).2.2.2.2.2.2.2.2 hp9); refine neN ?_; omega)))
local macro_rules | `(tactic| walk_at "call builtin:str.lower") => `(tactic| (k_here; k_dflt (refine' lower_K ?k1 ?k2 ?k3 ?k4 ?k5 ?_; (case k1 => exact (Frag.In.keeps (by k_asm) (Fr.keep (by k_asm)))); (case k2 => exact rfl); (case k3 => exact Nat.le_of_ble_eq_true rfl); (case k4 => exact Nat.le_of_ble_eq_true rfl); (case k5 => assumption); k_whole); intro t' tk'))
local macro_rules | `(tactic| walk_at "call ref") => `(tactic| (k_here; (with_reducible show wpAny _ _ (call (Value.ref 76) _ _) _ _ _); k_dflt (refine' AK_mono (conv_K ?T ?X ?B ?F ?N ?f ?k ?x ?_) ?h1 ?h2 ?h3 ?h4; (case h1 => exact rfl); (case h2 => exact rfl); (case h3 => exact Nat.le_of_ble_eq_true rfl); (case h4 => exact Nat.le_of_ble_eq_true rfl); (case T => k_asm); (case X => k_asm); (case B => k_asm); (case F => k_asm); (case N => k_asm); (case f => exact rfl); (case k => exact rfl); (case x => first | assumption | exact low_ok (by assumption)); k_whole); intro h' tk' F' N'))
local macro_rules | `(tactic| walk_at "eval ListComp") => `(tactic| (k_here; k_dflt (refine LCt.ListComp_T (F₀ := by k_asm) (by with_unfolding_all rfl) (by decide) (by rfl) (by decide) (by rfl) ?_)))
theorem rest_ind {prog : Program} {w : World} {A : Around} {h₀ : Heap} {L : Addr} {m : Str → Option Value} {env : Env} {ct elt : Expr} {x : Str} {scope : Scope} {cl : List (Str × Addr)} {s : Shared} {S : List (Addr × Obj) → Prop} {P : Nat → Value → Prop}
    {Fin : List Value → List (Addr × Obj) → Prop} {news : List (Addr × Obj)} {n : Nat} (J : Nat → List Value → Prop) (h0 : J 0 []) (hfin : ∀ ys, J n ys → Fin ys news)
    (hstep : ∀ i ys, i < n → J i ys → ∀ (R₁ R₀ : Value → List (Addr × Obj) → Prop), (∀ y, J (i + 1) (ys ++ [y]) → R₁ y news) → (∀ y, J (i + 1) ys → R₀ y news) →
      ∀ v I oI C oC D m₂ h tk (E' : Value → Shared → Prop), P i v → NsObj oC m₂ → m₂ x = some v → Fr h₀ L h m → News h₀ L h ((I, oI) :: (C, oC) :: (D, lst ys) :: news) → Off3 I C D news → ((@Ne Nat I C) ∧ (@Ne Nat I D) ∧ (@Ne Nat C D)) →
      wpAny (model prog w) A (isTrue ct (compEnvC scope cl C env) (eval ct (compEnvC scope cl C env))) (fun ok s' => if ok = true then
        wpAny (model prog w) A (eval elt (compEnvC scope cl C env)) (CompEnd h₀ L m { s with heap := h, toks := tk } I oI C oC D (lst ys) S R₁) E' s'
        else CompEnd h₀ L m { s with heap := h, toks := tk } I oI C oC D (lst ys) S R₀ Value.none s') E' { s with heap := h, toks := tk }) :
    CompRestT prog w A h₀ L m env ct elt x scope cl s S P Fin n 0 [] news := by
  have key : ∀ k i ys, i + k = n → J i ys → CompRestT prog w A h₀ L m env ct elt x scope cl s S P Fin k i ys news := by
    intro k
    induction k with
    | zero => intro i ys hi hj; exact CompRestT.zero (hfin ys (by rw [← hi]; exact hj))
    | succ k ih =>
      intro i ys hi hj
      exact CompRestT.succ (hstep i ys (by omega) hj _ _ (fun y hy => ih (i + 1) (ys ++ [y]) (by omega) hy) (fun y hy => ih (i + 1) ys (by omega) hy))
  exact key n 0 [] (by omega) h0
local macro_rules | `(tactic| k_mem) => `(tactic| first | assumption | (refine List.Mem.tail _ ?_; k_mem))
theorem take_filter_pos {α : Type} {ps : List α} {i : Nat} {p : α} {f : α → Bool} (hpi : ps[i]? = some p) (hf : f p = true) : (ps.take (i + 1)).filter f = (ps.take i).filter f ++ [p] := by
  rw [List.take_add_one, hpi, List.filter_append]; simp [hf]
theorem take_filter_neg {α : Type} {ps : List α} {i : Nat} {p : α} {f : α → Bool} (hpi : ps[i]? = some p) (hf : f p = false) : (ps.take (i + 1)).filter f = (ps.take i).filter f := by
  rw [List.take_add_one, hpi, List.filter_append]; simp [hf]
abbrev headD (w : World) (tk : Tok) (l : Addr) : Obj := dictOf [⟨PyData.keyHash w.params (Str.ofString "_headers"), .str (Str.ofString "_headers") tk, .ref l⟩] 1
section
variable {w : World} {s : Shared} {A₀ : Around} {base h₀ : Heap} {outer : List Env} {env : Env}
  {L : Addr} {m : Str → Option Value} {news : List (Addr × Obj)} {mean : ExcName → Option Value} {mg mb : Str → Option Value} {Q : Value → Shared → Prop} {E : Value → Shared → Prop}
theorem getall_K {x : Str} {t tk0 : Tok} {self d l : Addr} {vs : List Value} {n : Nat} {ps : List (Str × Str)}
    (T : Top hd.view_39 loose mean mg mb h₀) (KX : (hd.heap_39 w.params).In h₀) (B : Below A₀ base outer h₀) (F : Fr h₀ L s.heap m)
    (N : News h₀ L s.heap ((l, listOf vs.toArray n) :: (self, instObj 175 d) :: (d, headD w tk0 l) :: news)) (hf : env.frame = some L) (hke : env.scope.kind = .function)
    (hps : PairsIn news vs ps) (hok : ∀ p ∈ ps, p.1 ∈ okNames) (hx : x ∈ okNames) (hlen : ps.length ≤ 1000)
    (h : ∀ D h' tk ys, Fr h₀ L h' m → News h₀ L h' ((D, lst ys) :: (l, listOf vs.toArray n) :: (self, instObj 175 d) :: (d, headD w tk0 l) :: news) → StrsAre ys ((ps.filter fun p => low p.1 == low x).map (·.2)) → Q (.ref D) { s with heap := h', toks := tk }) :
    wpAny (model PySem.Challenge.rw_mr0247_01.row.toRowW.prog w) (AK 600 1700 (env :: outer)) (PySem.call (.ref 114) [.ref self, .str x t] []) Q E s := by
  revert KX; k_fill; intro KX
  w_on
  w_strict (repeat (first | (k_unfold; (try dsimp only)) | walk1 | (dsimp only; walk1)))
  refine LCt.CompSrcT.ledger (by rfl) (by k_asm) (by k_asm) (by k_mem) ?sz ?_
  case sz => rw [List.size_toArray, hps.length]; exact Nat.le_trans hlen (by decide)
  intro g9
  have hlen9 : vs.toArray.size = ps.length := by rw [List.size_toArray, hps.length]
  refine rest_ind (fun i ys => StrsAre ys (((ps.take i).filter fun p => low p.1 == low x).map (·.2))) .nil ?fin ?step
  case fin =>
    intro ys hy D9 h9 tk9 F9 N9 off9
    w_strict (repeat (first | (k_unfold; (try dsimp only)) | walk1 | (dsimp only; walk1)))
    rename News h₀ L _ _ => kN9
    refine h D9 _ _ ys (by assumption) (fun p hp => kN9 p ?_) ?_
    · rcases List.mem_cons.mp hp with rfl | hp
      · exact .head _
      · exact .tail _ (.tail _ hp)
    · rw [hlen9, List.take_length] at hy; exact hy
  case step =>
    intro i ys hi hj R₁ R₀ hR1 hR0 v I oI C oC D m₂ h9 tk9 E' hv hC hm9 F9 N9 off9 ne9
    obtain ⟨a, t1, t2, x9, y9, rfl, hpi, hmem⟩ := hps.get (by simpa using hv)
    have hx9 : x9 ∈ okNames := hok (x9, y9) (List.mem_of_getElem? hpi)
    w_strict (repeat (first | (k_unfold; (try dsimp only)) | walk1 | (dsimp only; walk1)))
    · rename (low x9 == low x) = true => hq
      refine CompEnd.intro F9 N9 _ (fun p hp => hp) off9 (.inr ⟨_, by k_mem, rfl, _, rfl⟩) (hR1 _ ?_)
      rw [take_filter_pos hpi hq, List.map_append]
      exact hj.snoc
    · rename (low x9 == low x) = false => hq
      refine CompEnd.intro F9 N9 _ (fun p hp => hp) off9 (.inr ⟨_, by k_mem, rfl, _, rfl⟩) (hR0 _ ?_)
      rw [take_filter_neg hpi hq]
      exact hj
end
end
section
open PySem PySem.W PySem.W.X PyProof.Rows PySem.Spec PyProof.Rows.LCg PyProof.Rows.LCt
local macro_rules | `(tactic| k_enter) => `(tactic| first
  | (refine' code_def ?k1 ?k2 ?k3 ?k4 ?k5 ?kA ?kF ?kK ?k6 ?k7 ?k8 ?k9 ?kB ?_ ?c2 ?c3 ?c4 ?c5; (case kA => exact rfl); (case kF => first | exact rfl | assumption); (case kK => first | exact rfl | assumption); (case k1 => k_asm); (case k2 => k_asm); (case k3 => k_asm); (case k4 => k_asm); (case k5 => k_asm); (case k6 => k_is); (case k7 => k_is); (case k8 => k_room); (case k9 => first | exact BindsTo.of_eq rfl | exact binds_K (by k_in) rfl (by k_is) rfl rfl rfl | fail "k_enter: no rule for these arguments"); (case c5 => decide); (case kB => exact locs rfl); (case c2 => exact rfl); (case c3 => exact rfl); (case c4 => exact rfl); k_whole; intro g' L' h' FG' F' N' B' X' T'; (try dsimp only); (try k_lift B'); (try k_fold))
  | (refine' code_defC ?k1 ?k2 ?k3 ?k4 ?k5 ?kA ?kF ?kK ?k6 ?k7 ?k8 ?k9 ?kB ?kD ?_ ?c2 ?c3 ?c4; (case kA => exact rfl); (case kF => first | exact rfl | assumption); (case kK => first | exact rfl | assumption); (case k1 => k_asm); (case k2 => k_asm); (case k3 => k_asm); (case k4 => k_asm); (case k5 => k_asm); (case k6 => k_is); (case k7 => k_is); (case k8 => k_room); (case k9 => first | exact BindsTo.of_eq rfl | exact binds_K (by k_in) rfl (by k_is) rfl rfl rfl | fail "k_enter: no rule for these arguments"); (case kB => exact rfl); (case kD => decide +kernel); (case c2 => exact rfl); (case c3 => exact rfl); (case c4 => exact rfl); k_whole; intro g' L' h' tk' cells' FG' F' N' Y' B' X' T' l1; (try k_lt l1); (repeat (obtain ⟨_, l1⟩ := l1)); k_cells Y'; (try simp only [List.cons_append, List.nil_append] at N'); (try dsimp only); (try k_lift B'); (try k_fold)))
local macro_rules | `(tactic| k_all) => `(tactic| (intro p9 hp9; first | ((have q9 := allLt_mem ‹AllLt _ _› hp9); refine neN ?_; omega) | ((have q9 := allLt_mem (‹_ ∧ AllLt _ _›).2 hp9); refine neN ?_; omega) | ((have q9 := allLt_mem (‹_ ∧ _ ∧ AllLt _ _›).2.2 hp9); refine neN ?_; omega) | ((have q9 := allLt_mem (‹_ ∧ _ ∧ _ ∧ AllLt _ _›).2.2.2 hp9); refine neN ?_; omega) | ((have q9 := allLt_mem (‹_ ∧ _ ∧ _ ∧ _ ∧ AllLt _ _›).2.2.2.2 hp9); refine neN ?_; omega) | ((have q9 := allLt_mem (‹_ ∧ _ ∧ _ ∧ _ ∧ _ ∧ AllLt _ _›).2.2.2.2.2 hp9); refine neN ?_; omega) | ((have q9 := allLt_mem (‹_ ∧ _ ∧ _ ∧ _ ∧ _ ∧ _ ∧ AllLt _ _›).2.2.2.2.2.2 hp9); refine neN ?_; omega) | ((have q9 := allLt_mem (‹_ ∧ _ ∧ _ ∧ _ ∧ _ ∧ _ ∧ _ ∧ AllLt _ _›).2.2.2.2.2.2.2 hp9); refine neN ?_; omega) | ((have q9 := allLt_mem (‹_ ∧ _ ∧ _ ∧ _ ∧ _ ∧ _ ∧ _ ∧ _ ∧ AllLt _ _›).2.2.2.2.2.2.2.2 hp9); refine neN ?_; omega)))
section
open PySem PySem.W PySem.W.X PyProof.Rows PySem.Spec PyProof.Rows.LCg PyProof.Rows.LCt
theorem setItem_all {prog : Program} {w : World} {A : Around} {E : Value → Shared → Prop} {s : Shared} {l sl D : Addr} {items ys : Array Value} {n k : Nat} {Q : Unit → Shared → Prop} (ho : s.heap.get? l = some (listOf items n))
    (hs : s.heap.IsSliceOf sl .none .none .none) (hD : s.heap.get? D = some (listOf ys k)) (hne : l ≠ D) (hsz : items.size + ys.size ≤ sizeLine)
    (h : ∀ h' n', h'.get? l = some (listOf ys n') → Heap.SameBut l s.heap h' → Q () { s with heap := h' }) :
    wpAny (model prog w) A (setItem (.ref l) (.ref sl) (.ref D)) Q E s := by
  have hl : s.heap.IsList l items := ⟨_, ho, rfl, _, rfl⟩
  have hlD : s.heap.IsList D ys := ⟨_, hD, rfl, _, rfl⟩
  obtain ⟨os, hos, hcs, hds⟩ := id hs
  have hTs : s.TypeIs (.ref sl) "slice" := ⟨os, hos, hcs⟩
  unfold setItem
  try with_reducible refine wpAny_holding ?_
  refine wpAny_bind (wpAny_sequenceKey hl.typeIs (by decide) ?_)
  refine wpAny_bind (wpAny_callSpecial?_slot (name := Str.ofString "__setitem__") hl.typeIs slot_list_setitem
    (wpAny_call_entry slot_list_setitem hl.typeIs entry_list_setitem ?_ (args_list_setitem _ _ _)))
  show wpAny _ _ (Builtin.List.listSubscript? (.ref sl) >>= _) _ _ s
  refine wpAny_bind ?_
  unfold Builtin.List.listSubscript?
  refine wpAny_bind (wpAny_specialOf hTs slice_no_index ?_)
  simp only [Option.isNone_none, if_true]
  refine wpAny_pure ?_
  show wpAny _ _ (typeOf (.ref sl) >>= _) _ _ s
  refine wpAny_bind (wpAny_typeOf hTs ?_)
  rw [if_neg (by decide)]
  rw [listSliceParts_eq]
  refine wpAny_bind (wpAny_bind (wpAny_field hos hds (x := .none) rfl (wpAny_bind (wpAny_listPart .none ?_))))
  rw [if_neg (show ¬ ((rawPart none == rawInt 0) = true) from Bool.false_ne_true)]
  refine wpAny_bind (wpAny_field hos hds (x := .none) rfl (wpAny_bind (wpAny_listPart .none ?_)))
  refine wpAny_bind (wpAny_field hos hds (x := .none) rfl (wpAny_bind (wpAny_listPart .none (wpAny_pure ?_))))
  have hsr : Builtin.List.listSameRef (.ref l) (.ref D) = false := by simp [Builtin.List.listSameRef, hne]
  dsimp only
  rw [hsr]
  simp only [Bool.false_eq_true, if_false]
  refine wpAny_bind (m := Builtin.List.listAllItems (.ref D) _) ?_
  unfold Builtin.List.listAllItems
  refine wpAny_bind (wpAny_typeOf hlD.typeIs ?_)
  rw [if_pos (by decide)]
  unfold Builtin.List.listItems
  refine wpAny_bind (wpAny_seqItems hD rfl (wpAny_pure ?_))
  refine wpAny_bind (wpAny_bind (wpAny_seqItems ho rfl (wpAny_pure ?_)))
  refine wpAny_bind (wpAny_of_eq (sliceIndices_raw none none none items.size (by simp)) ?_)
  have e1 : ((sliceBounds none none none items.size).2.2 == 1) = true := rfl
  rw [if_pos e1]
  refine wpAny_bind (wpAny_rule ?_)
  rw [if_neg (by simp only [Builtin.List.listTooLong, decide_eq_true_eq]; omega)]
  have e2 : (sliceBounds none none none items.size).1 = 0 := rfl
  have e3 : (sliceBounds none none none items.size).2.1 = (items.size : Int) := rfl
  rw [e2, e3]
  have e4 : (max (0 : Int) (items.size : Int)).toNat = items.size := by omega
  rw [e4]
  have hf : (fun xs : Array Value => xs.extract 0 (0 : Int).toNat ++ ys ++ xs.extract items.size) items = ys := by
    apply Array.ext'
    simp
  have hf' : items.extract 0 (0 : Int).toNat ++ ys ++ items.extract items.size = ys := hf
  refine wpAny_bind (m := Builtin.List.listUpdate (.ref l) _) ?_
  show wpAny _ _ (updateSeq l _) _ _ _
  refine wpAny_updateSeq ho rfl ?_ (by omega) (by show Array.size (items.extract 0 (0 : Int).toNat ++ ys ++ items.extract items.size) ≤ _; rw [hf']; omega)
  refine wpAny_bind (wpAny_letGo ?_)
  obtain ⟨n', hd'⟩ := Obj.data_mapSeq (o := listOf items n) (xs := items) (n := n) rfl (fun xs : Array Value => xs.extract 0 (0 : Int).toNat ++ ys ++ xs.extract items.size)
  refine wpAny_pure (a := Fin.done (Flow.ret Value.none)) ⟨.none, rfl, wpAny_pure (h _ n' ?_ (Heap.SameBut.update ..))⟩
  rw [Heap.get?_update_self _ ho (Obj.isFreed_of_seq hd')]
  rw [hf'] at hd'
  have hm : Obj.mapSeq (fun xs : Array Value => xs.extract 0 (0 : Int).toNat ++ ys ++ xs.extract items.size) (W.listOf items n) = { W.listOf items n with data := (Obj.mapSeq (fun xs : Array Value => xs.extract 0 (0 : Int).toNat ++ ys ++ xs.extract items.size) (W.listOf items n)).data } := rfl
  rw [hm, hd']
end
section
open PySem PySem.W PySem.W.X PyProof.Rows PySem.Spec PyProof.Rows.LCg PyProof.Rows.LCt
local macro_rules | `(tactic| walk_at "call builtin:str.lower") => `(tactic| (k_here; k_dflt (refine' lower_K ?k1 ?k2 ?k3 ?k4 ?k5 ?_; (case k1 => exact (Frag.In.keeps (by k_asm) (Fr.keep (by k_asm)))); (case k2 => exact rfl); (case k3 => exact Nat.le_of_ble_eq_true rfl); (case k4 => exact Nat.le_of_ble_eq_true rfl); (case k5 => assumption); k_whole); intro t' tk'))
local macro_rules | `(tactic| walk_at "call ref") => `(tactic| (k_here; (with_reducible show wpAny _ _ (call (Value.ref 76) _ _) _ _ _); k_dflt (refine' AK_mono (conv_K ?T ?X ?B ?F ?N ?f ?k ?x ?_) ?h1 ?h2 ?h3 ?h4; (case h1 => exact rfl); (case h2 => exact rfl); (case h3 => exact Nat.le_of_ble_eq_true rfl); (case h4 => exact Nat.le_of_ble_eq_true rfl); (case T => k_asm); (case X => k_asm); (case B => k_asm); (case F => k_asm); (case N => k_asm); (case f => exact rfl); (case k => exact rfl); (case x => first | assumption | exact low_ok (by assumption)); k_whole); intro h' tk' F' N'))
local macro_rules | `(tactic| walk_at "eval ListComp") => `(tactic| (k_here; k_dflt (refine LCt.ListComp_T (F₀ := by k_asm) (by with_unfolding_all rfl) (by decide) (by rfl) (by decide) (by rfl) ?_)))
section
open PySem PySem.W PySem.W.X PyProof.Rows PySem.Spec PyProof.Rows.LCg PyProof.Rows.LCt
local macro_rules | `(tactic| k_mem) => `(tactic| first | assumption | (refine List.Mem.tail _ ?_; k_mem))
section
variable {w : World} {s : Shared} {A₀ : Around} {base h₀ : Heap} {outer : List Env} {env : Env}
  {L : Addr} {m : Str → Option Value} {news : List (Addr × Obj)} {mean : ExcName → Option Value} {mg mb : Str → Option Value} {Q : Value → Shared → Prop} {E : Value → Shared → Prop}
theorem PairsIn.snoc {news : List (Addr × Obj)} {vs : List Value} {ps : List (Str × Str)} {a : Addr} {t1 t2 : Tok} {x y : Str} (h : PairsIn news vs ps) (hm : (a, tup2 (.str x t1) (.str y t2)) ∈ news) : PairsIn news (vs ++ [.ref a]) (ps ++ [(x, y)]) := by
  induction h with
  | nil => exact .cons hm .nil
  | cons hm' _ ih => exact .cons hm' ih
theorem news_store {g h h2 h' : Heap} {L l : Addr} {o₀ o : Obj} {all keep : List (Addr × Obj)} (N : News g L h all) (hl : (l, o₀) ∈ all) (hs : Heap.SameBut l h2 h') (hk : ∀ b o, h.get? b = some o → h2.get? b = some o) (hget : h'.get? l = some o)
    (hsub : ∀ p ∈ keep, p ∈ all) (hne : ∀ p ∈ keep, p.1 ≠ l) : News g L h' ((l, o) :: keep) := by
  intro p hp
  rcases List.mem_cons.mp hp with rfl | hp
  · exact ⟨hget, (N _ hl).2⟩
  · have hp9 := N p (hsub p hp)
    exact ⟨(hs.2 p.1 (hne p hp)).trans (hk _ _ hp9.1), hp9.2⟩
theorem delitem_K {x : Str} {t tk0 : Tok} {self d l : Addr} {vs : List Value} {n : Nat} {ps : List (Str × Str)}
    (T : Top hd.view_39 loose mean mg mb h₀) (KX : (hd.heap_39 w.params).In h₀) (B : Below A₀ base outer h₀) (F : Fr h₀ L s.heap m)
    (N : News h₀ L s.heap ((l, listOf vs.toArray n) :: (self, instObj 175 d) :: (d, headD w tk0 l) :: news)) (hf : env.frame = some L) (hke : env.scope.kind = .function)
    (hps : PairsIn news vs ps) (hok : ∀ p ∈ ps, p.1 ∈ okNames) (hx : x ∈ okNames) (hlen : ps.length ≤ 1000)
    (hls : l ≠ self) (hld : l ≠ d) (hln : ∀ p ∈ news, p.1 ≠ l)
    (h : ∀ h' tk vs' n', Fr h₀ L h' m → News h₀ L h' ((l, listOf vs'.toArray n') :: (self, instObj 175 d) :: (d, headD w tk0 l) :: news) → PairsIn news vs' (ps.filter fun p => low p.1 != low x) → Q .none { s with heap := h', toks := tk }) :
    wpAny (model PySem.Challenge.rw_mr0247_01.row.toRowW.prog w) (AK 600 1700 (env :: outer)) (PySem.call (.ref 95) [.ref self, .str x t] []) Q E s := by
  revert KX; k_fill; intro KX
  w_on
  w_strict (repeat (first | (k_unfold; (try dsimp only)) | walk1 | (dsimp only; walk1)))
  refine LCt.CompSrcT.ledger (by rfl) (by k_asm) (by k_asm) (by k_mem) ?sz ?_
  case sz => rw [List.size_toArray, hps.length]; exact Nat.le_trans hlen (by decide)
  intro g9
  have hlen9 : vs.toArray.size = ps.length := by rw [List.size_toArray, hps.length]
  refine rest_ind (fun i ys => PairsIn news ys ((ps.take i).filter fun p => low p.1 != low x)) .nil ?fin ?step
  case fin =>
    intro ys hy D9 h9 tk9 F9 N9 off9
    w_strict (repeat (first | (k_unfold; (try dsimp only)) | walk1 | (dsimp only; walk1)))
    have Nl := N9 (l, listOf vs.toArray n) (by k_mem)
    have ND := N9 (D9, lst ys) (by k_mem)
    have hlD : l ≠ D9 := fun e => by
      have e1 := Nl.1
      have e2 := off9
      simp only [Off1] at e2
      exact e2.2.1 e
    refine setItem_all (items := vs.toArray) (ys := ys.toArray) (n := n) (k := ys.length) ?ho (Heap.IsSliceOf.new ..) ?hD hlD ?hsz ?_
    case ho => exact Heap.get?_push_of_some _ Nl.1
    case hD => exact Heap.get?_push_of_some _ ND.1
    case hsz =>
      have h1 : ys.length ≤ ps.length := by
        rw [hy.length]
        exact Nat.le_trans (List.length_filter_le _ _) (Nat.le_trans (List.length_take_le _ _) (Nat.le_of_eq hlen9))
      rw [List.size_toArray, List.size_toArray, hps.length]
      have : sizeLine = 16777216 := by decide
      omega
    intro h8 n8 hget hsame
    have F8 := Fr.change (F9.push _) hsame Nl.2.1 Nl.2.2
    have N8 := news_store (o := listOf ys.toArray n8) (keep := (self, instObj 175 d) :: (d, headD w tk0 l) :: news) N9 (o₀ := listOf vs.toArray n) (by k_mem) hsame (fun _ _ e => Heap.get?_push_of_some _ e) hget
      (fun p hp => .tail _ (.tail _ (.tail _ hp))) (fun p hp => by
        rcases List.mem_cons.mp hp with rfl | hp
        · exact Ne.symm hls
        · rcases List.mem_cons.mp hp with rfl | hp
          · exact Ne.symm hld
          · exact hln p hp)
    dsimp only
    w_strict (repeat (first | (k_unfold; (try dsimp only)) | walk1 | (dsimp only; walk1)))
    exact h _ _ ys n8 (by assumption) (by assumption) (by rw [hlen9, List.take_length] at hy; exact hy)
  case step =>
    intro i ys hi hj R₁ R₀ hR1 hR0 v I oI C oC D m₂ h9 tk9 E' hv hC hm9 F9 N9 off9 ne9
    obtain ⟨a, t1, t2, x9, y9, rfl, hpi, hmem⟩ := hps.get (by simpa using hv)
    have hx9 : x9 ∈ okNames := hok (x9, y9) (List.mem_of_getElem? hpi)
    w_strict (repeat (first | (k_unfold; (try dsimp only)) | walk1 | (dsimp only; walk1)))
    · rename (low x9 != low x) = true => hq
      refine CompEnd.intro F9 N9 _ (fun p hp => hp) off9 (.inr ⟨_, by k_mem, rfl, _, rfl⟩) (hR1 _ ?_)
      rw [take_filter_pos hpi hq]
      exact hj.snoc hmem
    · rename (low x9 != low x) = false => hq
      refine CompEnd.intro F9 N9 _ (fun p hp => hp) off9 (.inr ⟨_, by k_mem, rfl, _, rfl⟩) (hR0 _ ?_)
      rw [take_filter_neg hpi hq]
      exact hj
end
end
section
open PySem PySem.W PySem.W.X PyProof.Rows PySem.Spec PyProof.Rows.LCg PyProof.Rows.LCt
local macro_rules | `(tactic| k_mem) => `(tactic| first | assumption | (refine List.Mem.tail _ ?_; k_mem))
section
variable {w : World} {s : Shared} {A₀ : Around} {base h₀ : Heap} {outer : List Env} {env : Env}
  {L : Addr} {m : Str → Option Value} {news : List (Addr × Obj)} {mean : ExcName → Option Value} {mg mb : Str → Option Value} {Q : Value → Shared → Prop} {E : Value → Shared → Prop}
abbrev ovr (ks : List Str) (u m₀ : Str → Option Value) : Str → Option Value := fun y => if ks.contains y then u y else m₀ y
theorem ovr_self (ks : List Str) (m₀ : Str → Option Value) : ovr ks m₀ m₀ = m₀ := by funext y; simp [ovr]
theorem items_ind {prog : Program} {w : World} {A : Around} {E : Value → Shared → Prop} {h₀ : Heap} {env : Env} {target : Expr} {body : List Stmt} {Q : Flow → Shared → Prop} {s : Shared} {ws : List (Addr × String)} {keep : List (Addr × Obj)}
    {news : List (Addr × Obj)} {m₀ : Str → Option Value} (ks : List Str) (J : Nat → Prop) (vs : List Value) (hk : SubL keep news) (h0 : J 0)
    (hfin : J vs.length → ∀ u h tk, Fr h₀ env.locals h (ovr ks u m₀) → News h₀ env.locals h news → Q .next { s with heap := h, toks := tk })
    (hstep : ∀ i v, vs[i]? = some v → J i → ∀ u h tk, Fr h₀ env.locals h (ovr ks u m₀) → AllObj ws (fun its => News h₀ env.locals h (its ++ news) →
      wpAny (model prog w) A (assign target env v) (fun _ s₂ => wpAny (model prog w) A (execs body env) (UnrPostW h₀ env.locals { s with heap := h, toks := tk } its (fun m' n' => n' = news ∧ J (i + 1) ∧ ∃ u', m' = ovr ks u' m₀) Q) E s₂) E { s with heap := h, toks := tk })) :
    ItemsRest prog w A E h₀ env target body Q s ws keep (vs.map .val) m₀ news := by
  have key : ∀ (k i : Nat) u, i + k = vs.length → J i → ItemsRest prog w A E h₀ env target body Q s ws keep ((vs.drop i).map .val) (ovr ks u m₀) news := by
    intro k
    induction k with
    | zero =>
      intro i u hi hj
      have : vs.drop i = [] := List.drop_eq_nil_of_le (by omega)
      rw [this]
      exact fun h tk F N => hfin (by rw [← hi]; exact hj) u h tk F N
    | succ k ih =>
      intro i u hi hj
      have hlt : i < vs.length := by omega
      rw [List.drop_eq_getElem_cons hlt, List.map_cons]
      refine ItemsRest.val (fun h tk F => ?_)
      have st := hstep i (vs[i]) (List.getElem?_eq_getElem hlt) hj u h tk F
      have mono : ∀ {ws : List (Addr × String)} {k k' : List (Addr × Obj) → Prop}, (∀ l, k l → k' l) → AllObj ws k → AllObj ws k' := by
        intro ws
        induction ws with
        | nil => intro k k' hk h; exact hk _ h
        | cons w r ihw => intro k k' hk h o ho; exact ihw (fun l => hk _) (h o ho)
      refine mono (fun its st hN => wpAny_mono (st hN) (fun _ s₂ h2 => wpAny_mono h2 (fun f s₃ h3 => ?_) fun _ _ e => e) fun _ _ e => e) st
      have up : UnrEndW h₀ env.locals { s with heap := h, toks := tk } its (fun m' n' => n' = news ∧ J (i + 1) ∧ ∃ u', m' = ovr ks u' m₀) s₃ →
          UnrEndW h₀ env.locals { s with heap := h, toks := tk } its (fun m' n' => SubL keep n' ∧ ItemsRest prog w A E h₀ env target body Q s ws keep ((vs.drop (i + 1)).map .val) m' n') s₃ := by
        rintro ⟨h', tk', m', n', e, F', N', off, rfl, hj', u', rfl⟩
        exact ⟨h', tk', _, n', e, F', N', off, hk, ih (i + 1) u' (by omega) hj'⟩
      cases f with
      | ret v => exact h3
      | brk => exact h3
      | next => exact up h3
      | cont => exact up h3
  have := key vs.length 0 m₀ (by omega) h0
  rw [List.drop_zero, ovr_self] at this
  exact this
theorem find_at {α : Type} {f : α → Bool} : ∀ {ps : List α} {i : Nat} {q : α}, (∀ p ∈ ps.take i, f p = false) → ps[i]? = some q → f q = true → ps.find? f = some q
  | [], _, _, _, h, _ => by simp at h
  | p :: ps, 0, q, _, h, hf => by
    simp at h; subst h; simp [List.find?, hf]
  | p :: ps, i + 1, q, hj, h, hf => by
    have h1 : f p = false := hj p (by simp)
    rw [List.find?, h1]
    exact find_at (i := i) (fun r hr => hj r (by rw [List.take_succ_cons]; exact .tail _ hr)) (by simpa using h) hf
theorem ovr_two {a b : Str} {va vb : Option Value} {u m₀ : Str → Option Value} : (fun y => if y = b then vb else if y = a then va else ovr [a, b] u m₀ y) = ovr [a, b] (fun y => if y = b then vb else if y = a then va else u y) m₀ := by
  funext y
  by_cases h1 : y = b
  · simp [ovr, h1]
  · by_cases h2 : y = a
    · simp [ovr, h2]
    · simp [ovr, h1, h2]
local macro_rules | `(tactic| walk_at "exec For Tuple Attribute cons nil") => `(tactic| (k_here; (rename Fr _ _ _ _ => lF'); (with_unfolding_all refine' For_turns lF' ?_; k_whole)))
theorem get_K {x : Str} {t tk0 : Tok} {self d l : Addr} {vs : List Value} {n : Nat} {ps : List (Str × Str)}
    (T : Top hd.view_39 loose mean mg mb h₀) (KX : (hd.heap_39 w.params).In h₀) (B : Below A₀ base outer h₀) (F : Fr h₀ L s.heap m)
    (N : News h₀ L s.heap ((l, listOf vs.toArray n) :: (self, instObj 175 d) :: (d, headD w tk0 l) :: news)) (hf : env.frame = some L) (hke : env.scope.kind = .function)
    (hps : PairsIn news vs ps) (hok : ∀ p ∈ ps, p.1 ∈ okNames) (hx : x ∈ okNames) (hlen : ps.length ≤ 1000)
    (h : ∀ h' tk v, Fr h₀ L h' m → News h₀ L h' ((l, listOf vs.toArray n) :: (self, instObj 175 d) :: (d, headD w tk0 l) :: news) → (match (ps.find? fun p => low p.1 == low x) with | some p => ∃ t', v = .str p.2 t' | none => v = .none) → Q v { s with heap := h', toks := tk }) :
    wpAny (model PySem.Challenge.rw_mr0247_01.row.toRowW.prog w) (AK 600 1700 (env :: outer)) (PySem.call (.ref 122) [.ref self, .str x t] []) Q E s := by
  revert KX; k_fill; intro KX
  w_on
  w_strict (repeat (first | (k_unfold; (try dsimp only)) | walk1 | (dsimp only; walk1)))
  refine iter_listTurns (by rfl) (by k_asm) (by k_asm) (lo := listOf vs.toArray n) (n := n) (by k_mem) rfl rfl ?_
  intro I9 hI9
  refine items_ind ["k", "v"] (fun i => ∀ p ∈ ps.take i, (low p.1 == low x) = false) vs (And.intro (by k_mem) trivial) (by simp) ?fin ?step
  case fin =>
    intro hj u9 h9 tk9 F9 N9
    w_strict (repeat (first | (k_unfold; (try dsimp only)) | walk1 | (dsimp only; walk1)))
    rename News h₀ L _ _ => kN9
    refine h _ _ _ (by assumption) kN9 ?_
    have hn : ps.find? (fun p => low p.1 == low x) = none := by
      rw [List.find?_eq_none]
      intro p hp
      have := hj p (by rw [hps.length, List.take_length]; exact hp)
      simp [this]
    rw [hn]
  case step =>
    intro i v hv hj u9 h9 tk9 F9 o9 ho9 N9
    obtain ⟨a, t1, t2, x9, y9, rfl, hpi, hmem⟩ := hps.get (by simpa using hv)
    have hx9 : x9 ∈ okNames := hok (x9, y9) (List.mem_of_getElem? hpi)
    w_strict (repeat' (first | (k_unfold; (try dsimp only)) | walk1 | (dsimp only; walk1)))
    · rename (low x9 == low x) = true => hq
      rename News h₀ L _ _ => kN9
      refine h _ _ _ (by assumption) (fun p hp => kN9 p (.tail _ hp)) ?_
      rw [find_at hj hpi hq]
      exact ⟨_, rfl⟩
    · rename (low x9 == low x) = false => hq
      refine ⟨_, _, _, _, rfl, by assumption, by assumption, ?_, rfl, ?_, _, ovr_two⟩
      · intro p hp q hq'
        rw [List.mem_singleton.mp hq']
        exact Nat.ne_of_lt (hI9 p hp)
      · intro p hp
        rw [List.take_add_one, hpi] at hp
        rcases List.mem_append.mp hp with hp | hp
        · exact hj p hp
        · simp at hp; subst hp; exact hq
end
end
section
open PySem PySem.W PySem.W.X PyProof.Rows PySem.Spec PyProof.Rows.LCg PyProof.Rows.LCt
local macro_rules | `(tactic| walk_at "call ref") => `(tactic| (k_here; (with_reducible show wpAny _ _ (call (Value.ref 76) _ _) _ _ _); k_dflt (refine' AK_mono (convV_K ?T ?X ?B ?F ?N ?f ?k ?x ?_) ?h1 ?h2 ?h3 ?h4; (case h1 => exact rfl); (case h2 => exact rfl); (case h3 => exact Nat.le_of_ble_eq_true rfl); (case h4 => exact Nat.le_of_ble_eq_true rfl); (case T => k_asm); (case X => k_asm); (case B => k_asm); (case F => k_asm); (case N => k_asm); (case f => exact rfl); (case k => exact rfl); (case x => assumption); k_whole); intro h' tk' F' N'))
local macro_rules | `(tactic| walk_at "call ref") => `(tactic| (k_here; (with_reducible show wpAny _ _ (call (Value.ref 95) _ _) _ _ _); k_dflt (refine' AK_mono (delitem_K ?T ?X ?B ?F ?N ?f ?k ?p ?o ?x ?l1 ?l2 ?l3 ?l4 ?_) ?h1 ?h2 ?h3 ?h4; (case h1 => exact rfl); (case h2 => exact rfl); (case h3 => exact Nat.le_of_ble_eq_true rfl); (case h4 => exact Nat.le_of_ble_eq_true rfl); (case T => k_asm); (case X => k_asm); (case B => k_asm); (case F => k_asm); (case N => k_asm); (case f => exact rfl); (case k => exact rfl); (case p => assumption); (case o => assumption); (case x => assumption); (case l1 => assumption); (case l2 => assumption); (case l3 => assumption); (case l4 => assumption); k_whole); intro h' tk' vs' n' F' N' hps'))
section
open PySem PySem.W PySem.W.X PyProof.Rows PySem.Spec PyProof.Rows.LCg PyProof.Rows.LCt
local macro_rules | `(tactic| k_mem) => `(tactic| first | assumption | (refine List.Mem.tail _ ?_; k_mem))
section
variable {w : World} {s : Shared} {A₀ : Around} {base h₀ : Heap} {outer : List Env} {env : Env}
  {L : Addr} {m : Str → Option Value} {news : List (Addr × Obj)} {mean : ExcName → Option Value} {mg mb : Str → Option Value} {Q : Value → Shared → Prop} {E : Value → Shared → Prop}
theorem own_delItem {M : Model} {A : Around} {K : Frag} {x C f : Addr} {ox : Obj} {od : Option Obj} {i : Value} {Q : Unit → Shared → Prop} (F : Fr h₀ L s.heap m) (X₀ : K.In h₀) (I : InstAt s.heap x ox C od) (hq : noSeq K C = true)
    (hs : findIn K (.ref C) "__delitem__" = some (some (.ref f))) (hf : isFn K (.ref f) = true) (h : wpAny M A (call (.ref f) [.ref x, i]) (fun _ s' => Q () s') E s) : wpAny M A (delItem (.ref x) i) Q E s := by
  have X := X₀.keeps F.keep
  unfold delItem
  refine wpAny_holding (wpAny_bind ?_)
  unfold sequenceKey
  refine wpAny_bind (I.type.here ?_)
  refine wpAny_bind ((anyM_none X hq).here ?_)
  rw [if_pos (show (!false) = true from rfl)]
  exact wpAny_pure (wpAny_bind (special_fn X I hs (beq_iff_eq.mp hf) (wpAny_mono h (fun _ _ z => wpAny_pure z) fun _ _ z => z)))
local macro_rules | `(tactic| walk_at "delItem ref str") => `(tactic| (k_here; (with_reducible show wpAny _ _ (delItem (Value.ref _) _) _ _ _); k_dflt (refine' own_delItem ?F ?X ?I ?hQ ?hS ?hF ?_; (case F => k_asm); (case X => k_asm); (case I => k_inst); (case hS => k_is); (case hF => k_is); (case hQ => k_is); k_whole)))
theorem setitem_K {x y : Str} {t t' tk0 : Tok} {self d l : Addr} {vs : List Value} {n : Nat} {ps : List (Str × Str)}
    (T : Top hd.view_39 loose mean mg mb h₀) (KX : (hd.heap_39 w.params).In h₀) (B : Below A₀ base outer h₀) (F : Fr h₀ L s.heap m)
    (N : News h₀ L s.heap ((l, listOf vs.toArray n) :: (self, instObj 175 d) :: (d, headD w tk0 l) :: news)) (hf : env.frame = some L) (hke : env.scope.kind = .function)
    (hps : PairsIn news vs ps) (hok : ∀ p ∈ ps, p.1 ∈ okNames) (hx : x ∈ okNames) (hy : y ∈ okVals) (hlen : ps.length ≤ 1000)
    (hls : l ≠ self) (hld : l ≠ d) (hln : ∀ p ∈ news, p.1 ≠ l)
    (h : ∀ h' tk vs' n' a, Fr h₀ L h' m → News h₀ L h' ((l, listOf vs'.toArray n') :: (self, instObj 175 d) :: (d, headD w tk0 l) :: (a, tup2 (.str x t) (.str y t')) :: news) →
      PairsIn ((a, tup2 (.str x t) (.str y t')) :: news) vs' ((ps.filter fun p => low p.1 != low x) ++ [(x, y)]) → a ≠ l → (∀ p ∈ news, p.1 ≠ a) → Q .none { s with heap := h', toks := tk }) :
    wpAny (model PySem.Challenge.rw_mr0247_01.row.toRowW.prog w) (AK 500 1400 (env :: outer)) (PySem.call (.ref 90) [.ref self, .str x t, .str y t'] []) Q E s := by
  have fin : ∀ (D9 : Addr) (vs9 : List Value) (n9 : Nat) (h8 : Heap) (tk : Nat), Fr h₀ L h8 m → News h₀ L h8 ((D9, tup2 (.str x t) (.str y t')) :: (l, listOf (vs9.toArray.push (.ref D9)) (n9 + 1)) :: (self, instObj 175 d) :: (d, headD w tk0 l) :: news) →
      PairsIn news vs9 (ps.filter fun p => low p.1 != low x) → (@LT.lt Nat _ l D9 ∧ @LT.lt Nat _ self D9 ∧ @LT.lt Nat _ d D9 ∧ AllLt D9 news) → Q .none { s with heap := h8, toks := tk } := by
    intro D9 vs9 n9 h8 tk kF kN hps9 l9
    refine h _ _ (vs9 ++ [.ref D9]) (n9 + 1) D9 kF (fun p hp => kN p ?_) (PairsIn.snoc (hps9.mono fun p hp => .tail _ hp) (.head _)) (Nat.ne_of_gt l9.1) (fun p hp => Nat.ne_of_lt (allLt_mem l9.2.2.2 hp))
    rcases List.mem_cons.mp hp with rfl | hp
    · rw [← List.push_toArray]; exact .tail _ (.head _)
    · rcases List.mem_cons.mp hp with rfl | hp
      · exact .tail _ (.tail _ (.head _))
      · rcases List.mem_cons.mp hp with rfl | hp
        · exact .tail _ (.tail _ (.tail _ (.head _)))
        · rcases List.mem_cons.mp hp with rfl | hp
          · exact .head _
          · exact .tail _ (.tail _ (.tail _ (.tail _ hp)))
  revert KX; k_fill; intro KX
  w_on
  w_strict (repeat (first | (k_unfold; (try dsimp only)) | walk1 | (dsimp only; walk1)))
  rename (_ ∧ _ ∧ _ ∧ AllLt _ news) => l9
  rename PairsIn news _ (ps.filter _) => hps9
  have hne : ∀ p ∈ (self, instObj 175 d) :: (d, headD w tk0 l) :: news, p.1 ≠ l := fun p hp => by
    rcases List.mem_cons.mp hp with rfl | hp
    · exact Ne.symm hls
    · rcases List.mem_cons.mp hp with rfl | hp
      · exact Ne.symm hld
      · exact hln p hp
  refine append_K (by k_asm) (by k_asm) (Upd.tail (Nat.ne_of_gt l9.1) (Upd.head hne)) ?_ ?sz
  case sz =>
    rw [List.size_toArray, hps9.length]
    exact Nat.le_trans (List.length_filter_le _ _) (Nat.le_trans hlen (by decide))
  intro h8 F8 N8
  w_strict (repeat (first | (k_unfold; (try dsimp only)) | walk1 | (dsimp only; walk1)))
  rename News h₀ L _ _ => kN9
  exact fin _ _ _ _ _ (by assumption) kN9 hps9 l9
end
end
section
open PySem PySem.W PySem.W.X PyProof.Rows PySem.Spec PyProof.Rows.LCg PyProof.Rows.LCt
local macro_rules | `(tactic| k_mem) => `(tactic| first | assumption | (refine List.Mem.tail _ ?_; k_mem))
section
variable {w : World} {s : Shared} {A₀ : Around} {base h₀ : Heap} {outer : List Env} {env : Env}
  {L : Addr} {m : Str → Option Value} {news : List (Addr × Obj)} {mean : ExcName → Option Value} {mg mb : Str → Option Value} {Q : Value → Shared → Prop} {E : Value → Shared → Prop}
theorem get_none_K {x : Str} {t tk0 : Tok} {self d l : Addr} {vs : List Value} {n : Nat} {ps : List (Str × Str)}
    (T : Top hd.view_39 loose mean mg mb h₀) (KX : (hd.heap_39 w.params).In h₀) (B : Below A₀ base outer h₀) (F : Fr h₀ L s.heap m)
    (N : News h₀ L s.heap ((l, listOf vs.toArray n) :: (self, instObj 175 d) :: (d, headD w tk0 l) :: news)) (hf : env.frame = some L) (hke : env.scope.kind = .function)
    (hps : PairsIn news vs ps) (hok : ∀ p ∈ ps, p.1 ∈ okNames) (hx : x ∈ okNames) (hlen : ps.length ≤ 1000) (hfd : (ps.find? fun p => low p.1 == low x) = none)
    (h : ∀ h' tk, Fr h₀ L h' m → News h₀ L h' ((l, listOf vs.toArray n) :: (self, instObj 175 d) :: (d, headD w tk0 l) :: news) → Q .none { s with heap := h', toks := tk }) :
    wpAny (model PySem.Challenge.rw_mr0247_01.row.toRowW.prog w) (AK 600 1700 (env :: outer)) (PySem.call (.ref 122) [.ref self, .str x t] []) Q E s :=
  get_K T KX B F N hf hke hps hok hx hlen fun h' tk v F N hv => by rw [hfd] at hv; subst hv; exact h h' tk F N
theorem get_some_K {x : Str} {t tk0 : Tok} {self d l : Addr} {vs : List Value} {n : Nat} {ps : List (Str × Str)} {q : Str × Str}
    (T : Top hd.view_39 loose mean mg mb h₀) (KX : (hd.heap_39 w.params).In h₀) (B : Below A₀ base outer h₀) (F : Fr h₀ L s.heap m)
    (N : News h₀ L s.heap ((l, listOf vs.toArray n) :: (self, instObj 175 d) :: (d, headD w tk0 l) :: news)) (hf : env.frame = some L) (hke : env.scope.kind = .function)
    (hps : PairsIn news vs ps) (hok : ∀ p ∈ ps, p.1 ∈ okNames) (hx : x ∈ okNames) (hlen : ps.length ≤ 1000) (hfd : (ps.find? fun p => low p.1 == low x) = some q)
    (h : ∀ h' tk t', Fr h₀ L h' m → News h₀ L h' ((l, listOf vs.toArray n) :: (self, instObj 175 d) :: (d, headD w tk0 l) :: news) → Q (.str q.2 t') { s with heap := h', toks := tk }) :
    wpAny (model PySem.Challenge.rw_mr0247_01.row.toRowW.prog w) (AK 600 1700 (env :: outer)) (PySem.call (.ref 122) [.ref self, .str x t] []) Q E s :=
  get_K T KX B F N hf hke hps hok hx hlen fun h' tk v F N hv => by rw [hfd] at hv; obtain ⟨t', rfl⟩ := hv; exact h h' tk t' F N
local macro_rules | `(tactic| walk_at "call ref") => `(tactic| (k_here; (with_reducible show wpAny _ _ (call (Value.ref 122) _ _) _ _ _); k_dflt (first
  | (refine' AK_mono (get_none_K ?T ?X ?B ?F ?N ?f ?k ?p ?o ?x ?l1 ?fd ?_) ?h1 ?h2 ?h3 ?h4; (case fd => assumption); (case h1 => exact rfl); (case h2 => exact rfl); (case h3 => exact Nat.le_of_ble_eq_true rfl); (case h4 => exact Nat.le_of_ble_eq_true rfl); (case T => k_asm); (case X => k_asm); (case B => k_asm); (case F => k_asm); (case N => k_asm); (case f => exact rfl); (case k => exact rfl); (case p => assumption); (case o => assumption); (case x => assumption); (case l1 => assumption); k_whole; intro h' tk' F' N')
  | (refine' AK_mono (get_some_K ?T ?X ?B ?F ?N ?f ?k ?p ?o ?x ?l1 ?fd ?_) ?h1 ?h2 ?h3 ?h4; (case fd => assumption); (case h1 => exact rfl); (case h2 => exact rfl); (case h3 => exact Nat.le_of_ble_eq_true rfl); (case h4 => exact Nat.le_of_ble_eq_true rfl); (case T => k_asm); (case X => k_asm); (case B => k_asm); (case F => k_asm); (case N => k_asm); (case f => exact rfl); (case k => exact rfl); (case p => assumption); (case o => assumption); (case x => assumption); (case l1 => assumption); k_whole; intro h' tk' t' F' N'))))
local macro_rules | `(tactic| walk_at "pad 1") => `(tactic| skip)
theorem contains_K {x : Str} {t tk0 : Tok} {self d l : Addr} {vs : List Value} {n : Nat} {ps : List (Str × Str)}
    (T : Top hd.view_39 loose mean mg mb h₀) (KX : (hd.heap_39 w.params).In h₀) (B : Below A₀ base outer h₀) (F : Fr h₀ L s.heap m)
    (N : News h₀ L s.heap ((l, listOf vs.toArray n) :: (self, instObj 175 d) :: (d, headD w tk0 l) :: news)) (hf : env.frame = some L) (hke : env.scope.kind = .function)
    (hps : PairsIn news vs ps) (hok : ∀ p ∈ ps, p.1 ∈ okNames) (hx : x ∈ okNames) (hlen : ps.length ≤ 1000)
    (h : ∀ h' tk, Fr h₀ L h' m → News h₀ L h' ((l, listOf vs.toArray n) :: (self, instObj 175 d) :: (d, headD w tk0 l) :: news) → Q (.bool (ps.find? fun p => low p.1 == low x).isSome) { s with heap := h', toks := tk }) :
    wpAny (model PySem.Challenge.rw_mr0247_01.row.toRowW.prog w) (AK 500 1400 (env :: outer)) (PySem.call (.ref 109) [.ref self, .str x t] []) Q E s := by
  revert KX; k_fill; intro KX
  cases hfd : (ps.find? fun p => low p.1 == low x) with
  | none =>
    rw [hfd] at h
    w_on
    w_strict (repeat (first | (k_unfold; (try dsimp only)) | walk1 | (dsimp only; walk1)))
    exact h _ _ (by assumption) (by assumption)
  | some q =>
    rw [hfd] at h
    w_on
    w_strict (repeat (first | (k_unfold; (try dsimp only)) | walk1 | (dsimp only; walk1)))
    exact h _ _ (by assumption) (by assumption)
theorem items_K {tk0 : Tok} {self d l : Addr} {vs : List Value} {n : Nat} 
    (T : Top hd.view_39 loose mean mg mb h₀) (KX : (hd.heap_39 w.params).In h₀) (B : Below A₀ base outer h₀) (F : Fr h₀ L s.heap m)
    (N : News h₀ L s.heap ((l, listOf vs.toArray n) :: (self, instObj 175 d) :: (d, headD w tk0 l) :: news)) (hf : env.frame = some L) (hke : env.scope.kind = .function) (hlen : vs.length ≤ 1000)
    (h : ∀ h' tk D, Fr h₀ L h' m → News h₀ L h' ((D, listOf vs.toArray 0) :: ((l, listOf vs.toArray n) :: (self, instObj 175 d) :: (d, headD w tk0 l) :: news)) → Q (.ref D) { s with heap := h', toks := tk }) :
    wpAny (model PySem.Challenge.rw_mr0247_01.row.toRowW.prog w) (AK 600 1700 (env :: outer)) (PySem.call (.ref 139) [.ref self] []) Q E s := by
  revert KX; k_fill; intro KX
  w_on
  w_strict (repeat (first | (k_unfold; (try dsimp only)) | walk1 | (dsimp only; walk1)))
  rename News h₀ L _ _ => kN9
  rw [slicePick_all] at kN9
  exact h _ _ _ (by assumption) kN9
end
end
section
open PySem PySem.W PySem.W.X PyProof.Rows PySem.Spec PyProof.Rows.LCg PyProof.Rows.LCt
local macro_rules | `(tactic| walk_at "call ref") => `(tactic| (k_here; (with_reducible show wpAny _ _ (call (Value.ref 122) _ _) _ _ _); k_dflt (first
  | (refine' AK_mono (get_none_K ?T ?X ?B ?F ?N ?f ?k ?p ?o ?x ?l1 ?fd ?_) ?h1 ?h2 ?h3 ?h4; (case fd => assumption); (case h1 => exact rfl); (case h2 => exact rfl); (case h3 => exact Nat.le_of_ble_eq_true rfl); (case h4 => exact Nat.le_of_ble_eq_true rfl); (case T => k_asm); (case X => k_asm); (case B => k_asm); (case F => k_asm); (case N => k_asm); (case f => exact rfl); (case k => exact rfl); (case p => assumption); (case o => assumption); (case x => assumption); (case l1 => assumption); k_whole; intro h' tk' F' N')
  | (refine' AK_mono (get_some_K ?T ?X ?B ?F ?N ?f ?k ?p ?o ?x ?l1 ?fd ?_) ?h1 ?h2 ?h3 ?h4; (case fd => assumption); (case h1 => exact rfl); (case h2 => exact rfl); (case h3 => exact Nat.le_of_ble_eq_true rfl); (case h4 => exact Nat.le_of_ble_eq_true rfl); (case T => k_asm); (case X => k_asm); (case B => k_asm); (case F => k_asm); (case N => k_asm); (case f => exact rfl); (case k => exact rfl); (case p => assumption); (case o => assumption); (case x => assumption); (case l1 => assumption); k_whole; intro h' tk' t' F' N'))))
section
open PySem PySem.W PySem.W.X PyProof.Rows PySem.Spec PyProof.Rows.LCg PyProof.Rows.LCt
local macro_rules | `(tactic| k_mem) => `(tactic| first | assumption | (refine List.Mem.tail _ ?_; k_mem))
section
variable {w : World} {s : Shared} {A₀ : Around} {base h₀ : Heap} {outer : List Env} {env : Env}
  {L : Addr} {m : Str → Option Value} {news : List (Addr × Obj)} {mean : ExcName → Option Value} {mg mb : Str → Option Value} {Q : Value → Shared → Prop} {E : Value → Shared → Prop}
theorem setdefault_none_K {x y : Str} {t t' tk0 : Tok} {self d l : Addr} {vs : List Value} {n : Nat} {ps : List (Str × Str)}
    (T : Top hd.view_39 loose mean mg mb h₀) (KX : (hd.heap_39 w.params).In h₀) (B : Below A₀ base outer h₀) (F : Fr h₀ L s.heap m)
    (N : News h₀ L s.heap ((l, listOf vs.toArray n) :: (self, instObj 175 d) :: (d, headD w tk0 l) :: news)) (hf : env.frame = some L) (hke : env.scope.kind = .function)
    (hps : PairsIn news vs ps) (hok : ∀ p ∈ ps, p.1 ∈ okNames) (hx : x ∈ okNames) (hy : y ∈ okVals) (hlen : ps.length ≤ 1000)
    (hls : l ≠ self) (hld : l ≠ d) (hln : ∀ p ∈ news, p.1 ≠ l) (hfd : (ps.find? fun p => low p.1 == low x) = none)
    (h : ∀ h' tk vs' n' a, Fr h₀ L h' m → News h₀ L h' ((l, listOf vs'.toArray n') :: (self, instObj 175 d) :: (d, headD w tk0 l) :: (a, tup2 (.str x t) (.str y t')) :: news) →
      PairsIn ((a, tup2 (.str x t) (.str y t')) :: news) vs' (ps ++ [(x, y)]) → a ≠ l → (∀ p ∈ news, p.1 ≠ a) → Q (.str y t') { s with heap := h', toks := tk }) :
    wpAny (model PySem.Challenge.rw_mr0247_01.row.toRowW.prog w) (AK 500 1400 (env :: outer)) (PySem.call (.ref 165) [.ref self, .str x t, .str y t'] []) Q E s := by
  have fin : ∀ (D9 : Addr) (vs9 : List Value) (n9 : Nat) (h8 : Heap) (tk : Nat), Fr h₀ L h8 m → News h₀ L h8 ((D9, tup2 (.str x t) (.str y t')) :: (l, listOf (vs9.toArray.push (.ref D9)) (n9 + 1)) :: (self, instObj 175 d) :: (d, headD w tk0 l) :: news) →
      PairsIn news vs9 ps → (@LT.lt Nat _ l D9 ∧ @LT.lt Nat _ self D9 ∧ @LT.lt Nat _ d D9 ∧ AllLt D9 news) → Q (.str y t') { s with heap := h8, toks := tk } := by
    intro D9 vs9 n9 h8 tk kF kN hps9 l9
    refine h _ _ (vs9 ++ [.ref D9]) (n9 + 1) D9 kF (fun p hp => kN p ?_) (PairsIn.snoc (hps9.mono fun p hp => .tail _ hp) (.head _)) (Nat.ne_of_gt l9.1) (fun p hp => Nat.ne_of_lt (allLt_mem l9.2.2.2 hp))
    rcases List.mem_cons.mp hp with rfl | hp
    · rw [← List.push_toArray]; exact .tail _ (.head _)
    · rcases List.mem_cons.mp hp with rfl | hp
      · exact .tail _ (.tail _ (.head _))
      · rcases List.mem_cons.mp hp with rfl | hp
        · exact .tail _ (.tail _ (.tail _ (.head _)))
        · rcases List.mem_cons.mp hp with rfl | hp
          · exact .head _
          · exact .tail _ (.tail _ (.tail _ (.tail _ hp)))
  have hne : ∀ p ∈ (self, instObj 175 d) :: (d, headD w tk0 l) :: news, p.1 ≠ l := fun p hp => by
    rcases List.mem_cons.mp hp with rfl | hp
    · exact Ne.symm hls
    · rcases List.mem_cons.mp hp with rfl | hp
      · exact Ne.symm hld
      · exact hln p hp
  revert KX; k_fill; intro KX
  w_on
  w_strict (repeat (first | (k_unfold; (try dsimp only)) | walk1 | (dsimp only; walk1)))
  rename (_ ∧ _ ∧ _ ∧ AllLt _ news) => l9
  refine append_K (by k_asm) (by k_asm) (Upd.tail (Nat.ne_of_gt l9.1) (Upd.head hne)) ?_ ?sz
  case sz =>
    rw [List.size_toArray, hps.length]
    exact Nat.le_trans hlen (by decide)
  intro h8 F8 N8
  w_strict (repeat (first | (k_unfold; (try dsimp only)) | walk1 | (dsimp only; walk1)))
  rename News h₀ L _ _ => kN9
  exact fin _ _ _ _ _ (by assumption) kN9 hps l9
theorem setdefault_some_K {x y : Str} {t t' tk0 : Tok} {self d l : Addr} {vs : List Value} {n : Nat} {ps : List (Str × Str)} {q : Str × Str}
    (T : Top hd.view_39 loose mean mg mb h₀) (KX : (hd.heap_39 w.params).In h₀) (B : Below A₀ base outer h₀) (F : Fr h₀ L s.heap m)
    (N : News h₀ L s.heap ((l, listOf vs.toArray n) :: (self, instObj 175 d) :: (d, headD w tk0 l) :: news)) (hf : env.frame = some L) (hke : env.scope.kind = .function)
    (hps : PairsIn news vs ps) (hok : ∀ p ∈ ps, p.1 ∈ okNames) (hx : x ∈ okNames) (hy : y ∈ okVals) (hlen : ps.length ≤ 1000)
    (hls : l ≠ self) (hld : l ≠ d) (hln : ∀ p ∈ news, p.1 ≠ l) (hfd : (ps.find? fun p => low p.1 == low x) = some q)
    (h : ∀ h' tk t2, Fr h₀ L h' m → News h₀ L h' ((l, listOf vs.toArray n) :: (self, instObj 175 d) :: (d, headD w tk0 l) :: news) → Q (.str q.2 t2) { s with heap := h', toks := tk }) :
    wpAny (model PySem.Challenge.rw_mr0247_01.row.toRowW.prog w) (AK 500 1400 (env :: outer)) (PySem.call (.ref 165) [.ref self, .str x t, .str y t'] []) Q E s := by
  revert KX; k_fill; intro KX
  w_on
  w_strict (repeat (first | (k_unfold; (try dsimp only)) | walk1 | (dsimp only; walk1)))
  exact h _ _ _ (by assumption) (by assumption)
end
end
section
open PySem PySem.W PySem.W.X PyProof.Rows PySem.Spec
local macro_rules | `(tactic| x_close) => `(tactic| (first | exact ⟨rfl, _, rfl⟩ | exact ⟨rfl, _, _, rfl, keeps_of (by assumption)⟩))
theorem join0 {w : World} {s : Shared} {t t' : Tok} {n : Nat} {l : Addr} {E : Value → Shared → Prop} {y : Str} (KX : (hd.heap_39 w.params).In s.heap) (hl : s.heap.get? l = some { cls := .type "list", data := .seq #[.str y t'] n }) :
   wpAny (model P w) A0 (PySem.call (.builtin "str.join") [.str (Str.ofString "; ") t, .ref l]) (fun v s' => v = .str y t' ∧ ∃ tk, s' = { s with toks := tk }) E s := by
  x_run
end
section
open PySem PySem.W PySem.W.X PyProof.Rows PySem.Spec PyProof.Rows.LCg PyProof.Rows.LCt
local macro_rules | `(tactic| k_mem) => `(tactic| first | assumption | (refine List.Mem.tail _ ?_; k_mem))
section
variable {w : World} {s : Shared} {A₀ : Around} {base h₀ : Heap} {outer : List Env} {env : Env}
  {L : Addr} {m : Str → Option Value} {news : List (Addr × Obj)} {mean : ExcName → Option Value} {mg mb : Str → Option Value} {Q : Value → Shared → Prop} {E : Value → Shared → Prop}
theorem join_K {A : Around} {t t' : Tok} {n : Nat} {l : Addr} {y : Str} (X : (hd.heap_39 w.params).In s.heap) (hl : s.heap.get? l = some (listOf ((#[] : Array Value).push (.str y t')) n)) (hh : A.handled = none) (hdp : A.depth ≤ 800) (hu : A.units ≤ 3000)
    (h : ∀ tk, Q (.str y t') { s with toks := tk }) : wpAny (model P w) A (call (.builtin "str.join") [.str (Str.ofString "; ") t, .ref l]) Q E s :=
  wpAny_A0 (wpAny_mono (join0 X hl) (fun v s' ⟨e, tk, e'⟩ => by subst e e'; exact h tk) fun _ _ e => e) hh hdp hu
theorem add_K {cn : Str} {nms : List (Str × NameKind)} {more : List (Str × Const)} {a9 : Addr} {ccd : Value} {x y : Str} {t t' tk0 : Tok} {self d l : Addr} {vs : List Value} {n : Nat} {ps : List (Str × Str)}
    (T : Top hd.view_39 loose mean mg mb h₀) (KX : (hd.heap_39 w.params).In h₀) (B : Below A₀ base outer h₀) (F : Fr h₀ L s.heap m)
    (N : News h₀ L s.heap ((l, listOf vs.toArray n) :: (self, instObj 175 d) :: (d, headD w tk0 l) :: news)) 
    (hps : PairsIn news vs ps) (hok : ∀ p ∈ ps, p.1 ∈ okNames) (hx : x ∈ okNames) (hy : y ∈ okVals) (hlen : ps.length ≤ 1000)
    (hls : l ≠ self) (hld : l ≠ d) (hln : ∀ p ∈ news, p.1 ≠ l)
    (h : ∀ h' tk vs' n' a, Fr h₀ L h' m → News h₀ L h' ((l, listOf vs'.toArray n') :: (self, instObj 175 d) :: (d, headD w tk0 l) :: (a, tup2 (.str x t) (.str y t')) :: news) →
      PairsIn ((a, tup2 (.str x t) (.str y t')) :: news) vs' (ps ++ [(x, y)]) → a ≠ l → (∀ p ∈ news, p.1 ≠ a) → Q .none { s with heap := h', toks := tk }) :
    wpAny (model PySem.Challenge.rw_mr0247_01.row.toRowW.prog w) (AK 500 1400 (envOf cn (fsc nms more) L a9 ccd :: outer)) (PySem.call (.ref 172) [.ref self, .str x t, .str y t'] []) Q E s := by
  have fin : ∀ (D9 : Addr) (vs9 : List Value) (n9 : Nat) (h8 : Heap) (tk : Nat), Fr h₀ L h8 m → News h₀ L h8 ((D9, tup2 (.str x t) (.str y t')) :: (l, listOf (vs9.toArray.push (.ref D9)) (n9 + 1)) :: (self, instObj 175 d) :: (d, headD w tk0 l) :: news) →
      PairsIn news vs9 ps → (@LT.lt Nat _ l D9 ∧ @LT.lt Nat _ self D9 ∧ @LT.lt Nat _ d D9 ∧ AllLt D9 news) → Q .none { s with heap := h8, toks := tk } := by
    intro D9 vs9 n9 h8 tk kF kN hps9 l9
    refine h _ _ (vs9 ++ [.ref D9]) (n9 + 1) D9 kF (fun p hp => kN p ?_) (PairsIn.snoc (hps9.mono fun p hp => .tail _ hp) (.head _)) (Nat.ne_of_gt l9.1) (fun p hp => Nat.ne_of_lt (allLt_mem l9.2.2.2 hp))
    rcases List.mem_cons.mp hp with rfl | hp
    · rw [← List.push_toArray]; exact .tail _ (.head _)
    · rcases List.mem_cons.mp hp with rfl | hp
      · exact .tail _ (.tail _ (.head _))
      · rcases List.mem_cons.mp hp with rfl | hp
        · exact .tail _ (.tail _ (.tail _ (.head _)))
        · rcases List.mem_cons.mp hp with rfl | hp
          · exact .head _
          · exact .tail _ (.tail _ (.tail _ (.tail _ hp)))
  have hne : ∀ p ∈ (self, instObj 175 d) :: (d, headD w tk0 l) :: news, p.1 ≠ l := fun p hp => by
    rcases List.mem_cons.mp hp with rfl | hp
    · exact Ne.symm hls
    · rcases List.mem_cons.mp hp with rfl | hp
      · exact Ne.symm hld
      · exact hln p hp
  revert KX; k_fill; intro KX
  w_on
  w_strict (repeat (first | (k_unfold; (try dsimp only)) | walk1 | (dsimp only; walk1)))
  rename (_ ∧ _ ∧ _ ∧ _ ∧ AllLt _ news) => l9
  refine append_K (by k_asm) (by k_asm) (Upd.head ?hh) ?_ (by decide)
  case hh =>
    refine List.forall_mem_cons.mpr ⟨Nat.ne_of_lt l9.1, List.forall_mem_cons.mpr ⟨Nat.ne_of_lt l9.2.1, List.forall_mem_cons.mpr ⟨Nat.ne_of_lt l9.2.2.1, List.forall_mem_cons.mpr ⟨Nat.ne_of_lt l9.2.2.2.1, fun p hp => Nat.ne_of_lt (allLt_mem l9.2.2.2.2 hp)⟩⟩⟩⟩
  intro h8 F8 N8
  w_strict (repeat (first | (k_unfold; (try dsimp only)) | walk1 | (dsimp only; walk1)))
  refine join_K (Frag.In.keeps (by k_asm) (Fr.keep (by k_asm))) (News.get (by k_asm) (by k_mem)) rfl (Nat.le_of_ble_eq_true rfl) (Nat.le_of_ble_eq_true rfl) ?_
  intro tk8
  w_strict (repeat (first | (k_unfold; (try dsimp only)) | walk1 | (dsimp only; walk1)))
  rename News _ _ _ _ => N9
  rename (_ ∧ _ ∧ _ ∧ _ ∧ _ ∧ _ ∧ AllLt _ news) => l8
  have N10 := fun p (hp : p ∈ _ :: _) => N9 p (List.mem_cons.mpr ((List.mem_cons.mp hp).imp id (fun hp => .tail _ (.tail _ (.tail _ hp)))))
  refine append_K (by k_asm) N10 (Upd.tail (Nat.ne_of_gt l8.2.2.2.1) (Upd.head hne)) ?_ ?sz
  case sz =>
    rw [List.size_toArray, hps.length]
    exact Nat.le_trans hlen (by decide)
  intro h7 F7 N7
  w_strict (repeat (first | (k_unfold; (try dsimp only)) | walk1 | (dsimp only; walk1)))
  rename News h₀ L _ _ => kN9
  exact fin _ _ _ _ _ (by assumption) kN9 hps ⟨l8.2.2.2.1, l8.2.2.2.2.1, l8.2.2.2.2.2.1, l8.2.2.2.2.2.2⟩
end
end
section
open PySem PySem.W PySem.W.X PyProof.Rows PySem.Spec PyProof.Rows.LCg PyProof.Rows.LCt
local macro_rules | `(tactic| k_mem) => `(tactic| first | assumption | (refine List.Mem.tail _ ?_; k_mem))
local macro_rules | `(tactic| walk_at "call ref") => `(tactic| (k_here; (with_reducible show wpAny _ _ (call (Value.ref 90) _ _) _ _ _); k_dflt (refine' AK_mono (setitem_K ?T ?X ?B ?F ?N ?f ?k ?p ?o ?x ?y ?ln ?ls ?ld ?lw ?_) ?h1 ?h2 ?h3 ?h4; (case h1 => exact rfl); (case h2 => exact rfl); (case h3 => exact Nat.le_of_ble_eq_true rfl); (case h4 => exact Nat.le_of_ble_eq_true rfl); (case T => k_asm); (case X => k_asm); (case B => k_asm); (case F => k_asm); (case N => k_asm); (case f => exact rfl); (case k => exact rfl); (case p => assumption); (case o => assumption); (case x => assumption); (case y => assumption); (case ln => assumption); (case ls => assumption); (case ld => assumption); (case lw => assumption); k_whole; intro h' tk' vs' n' a' F' N' hps' ha' hn')))
local macro_rules | `(tactic| walk_at "call ref") => `(tactic| (k_here; (with_reducible show wpAny _ _ (call (Value.ref 172) _ _) _ _ _); k_dflt (refine' AK_mono (add_K ?T ?X ?B ?F ?N ?p ?o ?x ?y ?ln ?ls ?ld ?lw ?_) ?h1 ?h2 ?h3 ?h4; (case h1 => exact rfl); (case h2 => exact rfl); (case h3 => exact Nat.le_of_ble_eq_true rfl); (case h4 => exact Nat.le_of_ble_eq_true rfl); (case T => k_asm); (case X => k_asm); (case B => k_asm); (case F => k_asm); (case N => k_asm); (case p => assumption); (case o => assumption); (case x => assumption); (case y => assumption); (case ln => assumption); (case ls => assumption); (case ld => assumption); (case lw => assumption); k_whole; intro h' tk' vs' n' a' F' N' hps' ha' hn')))
local macro_rules | `(tactic| walk_at "call ref") => `(tactic| (k_here; (with_reducible show wpAny _ _ (call (Value.ref 165) _ _) _ _ _); k_dflt (first | (refine' AK_mono (setdefault_none_K ?T ?X ?B ?F ?N ?f ?k ?p ?o ?x ?y ?ln ?ls ?ld ?lw ?fd ?_) ?h1 ?h2 ?h3 ?h4; (case h1 => exact rfl); (case h2 => exact rfl); (case h3 => exact Nat.le_of_ble_eq_true rfl); (case h4 => exact Nat.le_of_ble_eq_true rfl); (case T => k_asm); (case X => k_asm); (case B => k_asm); (case F => k_asm); (case N => k_asm); (case f => exact rfl); (case k => exact rfl); (case p => assumption); (case o => assumption); (case x => assumption); (case y => assumption); (case ln => assumption); (case ls => assumption); (case ld => assumption); (case lw => assumption); (case fd => assumption); k_whole; intro h' tk' vs' n' a' F' N' hps' ha' hn') | (refine' AK_mono (setdefault_some_K ?T ?X ?B ?F ?N ?f ?k ?p ?o ?x ?y ?ln ?ls ?ld ?lw ?fd ?_) ?h1 ?h2 ?h3 ?h4; (case h1 => exact rfl); (case h2 => exact rfl); (case h3 => exact Nat.le_of_ble_eq_true rfl); (case h4 => exact Nat.le_of_ble_eq_true rfl); (case T => k_asm); (case X => k_asm); (case B => k_asm); (case F => k_asm); (case N => k_asm); (case f => exact rfl); (case k => exact rfl); (case p => assumption); (case o => assumption); (case x => assumption); (case y => assumption); (case ln => assumption); (case ls => assumption); (case ld => assumption); (case lw => assumption); (case fd => assumption); k_whole; intro h' tk' t2' F' N'))))
local macro_rules | `(tactic| walk_at "delItem ref str") => `(tactic| (k_here; (with_reducible show wpAny _ _ (delItem (Value.ref _) _) _ _ _); k_dflt (refine' own_delItem ?F ?X ?I ?hQ ?hS ?hF ?_; (case F => k_asm); (case X => k_asm); (case I => k_inst); (case hS => k_is); (case hF => k_is); (case hQ => k_is); k_whole)))
section
variable {w : World} {s : Shared} {A₀ : Around} {base h₀ : Heap} {outer : List Env} {env : Env}
  {L : Addr} {m : Str → Option Value} {news : List (Addr × Obj)} {mean : ExcName → Option Value} {mg mb : Str → Option Value} {Q : Value → Shared → Prop} {E : Value → Shared → Prop}
def deedP (k : Int) (ps : List (Str × Str)) (z y : Str) : List (Str × Str) :=
  if k = 0 then ps ++ [(z, y)] else if k = 1 then (ps.filter fun p => low p.1 != low z) ++ [(z, y)] else if k = 2 then ps.filter fun p => low p.1 != low z
  else if (ps.find? fun p => low p.1 == low z).isSome then ps else ps ++ [(z, y)]
theorem deed_K {x : Int} {z y : Str} {tx t t' tk0 : Tok} {self d l : Addr} {vs : List Value} {n : Nat} {ps : List (Str × Str)}
    (T : Top hd.view_39 loose mean mg mb h₀) (KX : (hd.heap_39 w.params).In h₀) (B : Below A₀ base outer h₀) (F : Fr h₀ L s.heap m)
    (N : News h₀ L s.heap ((l, listOf vs.toArray n) :: (self, instObj 175 d) :: (d, headD w tk0 l) :: news)) (hf : env.frame = some L) (hke : env.scope.kind = .function)
    (hps : PairsIn news vs ps) (hok : ∀ p ∈ ps, p.1 ∈ okNames) (hx : z ∈ okNames) (hy : y ∈ okVals) (hlen : ps.length ≤ 1000)
    (hls : l ≠ self) (hld : l ≠ d) (hln : ∀ p ∈ news, p.1 ≠ l)
    (h : ∀ h' tk vs' n' new, Fr h₀ L h' m → News h₀ L h' ((l, listOf vs'.toArray n') :: (self, instObj 175 d) :: (d, headD w tk0 l) :: (new ++ news)) →
      PairsIn (new ++ news) vs' (deedP (Int.fmod x 4) ps z y) → (∀ p ∈ new, p.1 ≠ l ∧ ∀ q ∈ news, q.1 ≠ p.1) → Q .none { s with heap := h', toks := tk }) :
    wpAny (model PySem.Challenge.rw_mr0247_01.row.toRowW.prog w) (AK 450 1200 (env :: outer)) (PySem.call (.ref 206) [.ref self, .int x tx, .str z t, .str y t'] []) Q E s := by
  have hA : ∀ (a : Addr) (vs9 : List Value) (n9 : Nat) (h8 : Heap) (tk : Nat) (qs : List (Str × Str)), Fr h₀ L h8 m →
      News h₀ L h8 ((l, listOf vs9.toArray n9) :: (self, instObj 175 d) :: (d, headD w tk0 l) :: (a, tup2 (.str z t) (.str y t')) :: news) → PairsIn ((a, tup2 (.str z t) (.str y t')) :: news) vs9 qs → a ≠ l → (∀ p ∈ news, p.1 ≠ a) → deedP (Int.fmod x 4) ps z y = qs → Q .none { s with heap := h8, toks := tk } := by
    intro a vs9 n9 h8 tk qs F N P h1 h2 e
    subst e
    refine h h8 tk vs9 n9 [(a, tup2 (.str z t) (.str y t'))] F N P ?_
    intro p hp
    rw [List.mem_singleton.mp hp]
    exact ⟨h1, h2⟩
  have hB : ∀ (vs9 : List Value) (n9 : Nat) (h8 : Heap) (tk : Nat) (qs : List (Str × Str)), Fr h₀ L h8 m →
      News h₀ L h8 ((l, listOf vs9.toArray n9) :: (self, instObj 175 d) :: (d, headD w tk0 l) :: news) → PairsIn news vs9 qs → deedP (Int.fmod x 4) ps z y = qs → Q .none { s with heap := h8, toks := tk } := by
    intro vs9 n9 h8 tk qs F N P e
    subst e
    exact h h8 tk vs9 n9 [] F N P (fun p hp => nomatch hp)
  revert KX; k_fill; intro KX
  cases hfd : (ps.find? fun p => low p.1 == low z) <;>
  w_on <;>
  w_strict (repeat' (first | (k_unfold; (try dsimp only)) | walk1 | (dsimp only; walk1)))
  all_goals first
    | exact hA _ _ _ _ _ _ (by assumption) (by assumption) (by assumption) (by assumption) (by assumption) (by unfold deedP; first | (rw [if_pos (by assumption)]) | (rw [if_neg (by assumption), if_pos (by assumption)]) | (rw [if_neg (by assumption), if_neg (by assumption), if_pos (by assumption)]) | (rw [if_neg (by assumption), if_neg (by assumption), if_neg (by assumption), hfd]; rfl))
    | exact hB _ _ _ _ _ (by assumption) (by assumption) (by assumption) (by unfold deedP; first | (rw [if_pos (by assumption)]) | (rw [if_neg (by assumption), if_pos (by assumption)]) | (rw [if_neg (by assumption), if_neg (by assumption), if_pos (by assumption)]) | (rw [if_neg (by assumption), if_neg (by assumption), if_neg (by assumption), hfd]; rfl))
    | exact hB _ _ _ _ _ (by assumption) (by assumption) hps (by unfold deedP; first | (rw [if_pos (by assumption)]) | (rw [if_neg (by assumption), if_pos (by assumption)]) | (rw [if_neg (by assumption), if_neg (by assumption), if_pos (by assumption)]) | (rw [if_neg (by assumption), if_neg (by assumption), if_neg (by assumption), hfd]; rfl))
end
end
end
end
end
section
open PySem PySem.W PySem.W.X PyProof.Rows PySem.Spec PyProof.Rows.LCg PyProof.Rows.LCt
local macro_rules | `(tactic| k_mem) => `(tactic| first | with_reducible exact List.mem_cons_self | with_reducible assumption | (refine List.mem_cons_of_mem _ ?_; k_mem))
section
variable {w : World} {s : Shared} {A₀ : Around} {base h₀ : Heap} {outer : List Env} {env : Env}
  {L : Addr} {m : Str → Option Value} {news : List (Addr × Obj)} {mean : ExcName → Option Value} {mg mb : Str → Option Value} {Q : Value → Shared → Prop} {E : Value → Shared → Prop}
theorem mod_at {A : Around} {a b k : Int} {t u : Tok} (hb : b ≠ 0) (hk : Int.fmod a b = k) (h : Q (.int k s.toks) { s with toks := s.toks + 1 }) : wpAny (model P w) A (binaryOp .Mod (.int a t) (.int b u)) Q E s :=
  mod_int' hb (by rw [hk]; exact h)
local macro_rules | `(tactic| walk_at "binaryOp Mod int int") => `(tactic| (k_here; k_dflt (refine' mod_at ?b ?k ?_; (case b => decide); (case k => assumption); k_whole)))
def nmS (i : Nat) : Str := (["content-type", "etag", "x-a-b", "host", "x--y"] : List Str).getD i "host"
def upS (i : Nat) : Str := (["CONTENT-TYPE", "ETAG", "X-A-B", "HOST", "X--Y"] : List Str).getD i "HOST"
def cpS (i : Nat) : Str := (["Content-type", "Etag", "X-a-b", "Host", "X--y"] : List Str).getD i "Host"
def grS (i : Nat) : Str := (["Content-Type", "Etag", "X-A-B", "Host", "X--Y"] : List Str).getD i "Host"
def wrS (i j : Nat) : Str := if j = 0 then nmS i else if j = 1 then upS i else cpS i
theorem okn_len {x : Str} (h : x ∈ okNames) : x.length ≤ 100 ∧ 1 ≤ x.length := by
  have : ∀ x ∈ okNames, x.length ≤ 100 ∧ 1 ≤ x.length := by decide +kernel
  exact this x h
theorem nm_in {i : Nat} (hi : i < 5) : nmS i ∈ okNames := by
  have : ∀ i ∈ List.range 5, nmS i ∈ okNames := by decide +kernel
  exact this i (List.mem_range.mpr hi)
theorem up_txt {A : Around} {x : Str} {t : Tok} (hx : x.length ≤ 100) (h : ∀ t' k, Q (.str (Txt.upper x) t') { s with toks := k }) : wpAny (model P w) A (call (.builtin "str.upper") [.str x t]) Q E s :=
  SCL.upper (by omega) fun _ => h _ _
theorem item_any {A : Around} {value slice : PySem.Expr} {L9 : List (Addr × Obj)} {a : Addr} {items : List Value} {n k : Nat} {u : Tok} {x : Value} (N : News h₀ L s.heap L9) (hm : (a, listOf items.toArray n) ∈ L9) (hk : k < 100) (hx : items[k]? = some x) (h : Q x s)
    (hs : subscripted slice false (.ref a) (.int k u) = operate [.ref a, .int k u] (getItem (.ref a) (.int k u)) := by with_unfolding_all rfl) :
    wpAny (model P w) A (subscriptTail value slice (.ref a) (.int k u)) Q E s :=
  tail_any (News.isList N hm).typeIs slot_list_getitem.lookup (wpAny_getItem_list (News.isList N hm) (by omega) (by omega) (by simpa using hx) h) hs
theorem item_at {A : Around} {value slice : PySem.Expr} {x y : PySem.Str} {t u : Tok} {i : Int} (hy : Txt.item x i = y) (hb : (decide (-(x.length : Int) ≤ i) && decide (i < (x.length : Int)) && decide (x.length ≤ 16777216)) = true) (h : Q (.str y s.toks) { s with toks := s.toks + 1 })
    (hs : subscripted slice false (.str x t) (.int i u) = operate [.str x t, .int i u] (getItem (.str x t) (.int i u)) := by with_unfolding_all rfl)
    (ht : ∀ r, letTemporaryGo value (.str x t) r = pure () := by intro _; with_unfolding_all rfl) :
    wpAny (model P w) A (subscriptTail value slice (.str x t) (.int i u)) Q E s := by
  simp only [Bool.and_eq_true, decide_eq_true_eq] at hb
  subst hy
  exact KXi.item rfl hb.1.1 hb.1.2 hb.2 (fun _ => h) hs ht
theorem item5 {A : Around} {value slice : PySem.Expr} {L9 : List (Addr × Obj)} {a : Addr} {n k : Nat} {u t0 t1 t2 t3 t4 : Tok} (N : News h₀ L s.heap L9) (hm : (a, listOf ([.str (Str.ofString "content-type") t0, .str (Str.ofString "etag") t1, .str (Str.ofString "x-a-b") t2, .str (Str.ofString "host") t3, .str (Str.ofString "x--y") t4] : List Value).toArray n) ∈ L9) (hk : k < 5) (h : ∀ t, Q (.str (nmS k) t) s)
    (hs : subscripted slice false (.ref a) (.int k u) = operate [.ref a, .int k u] (getItem (.ref a) (.int k u)) := by with_unfolding_all rfl) :
    wpAny (model P w) A (subscriptTail value slice (.ref a) (.int k u)) Q E s := by
  have e : ∃ t, ([.str (Str.ofString "content-type") t0, .str (Str.ofString "etag") t1, .str (Str.ofString "x-a-b") t2, .str (Str.ofString "host") t3, .str (Str.ofString "x--y") t4] : List Value)[k]? = some (.str (nmS k) t) := by
    obtain rfl | rfl | rfl | rfl | rfl : k = 0 ∨ k = 1 ∨ k = 2 ∨ k = 3 ∨ k = 4 := by omega
    all_goals exact ⟨_, rfl⟩
  obtain ⟨t, e⟩ := e
  exact item_any N hm (by omega) e (h t) hs
theorem item3 {A : Around} {value slice : PySem.Expr} {L9 : List (Addr × Obj)} {a : Addr} {n k : Nat} {u t0 t1 t2 : Tok} {x0 x1 x2 : Str} (N : News h₀ L s.heap L9) (hm : (a, listOf ([.str x0 t0, .str x1 t1, .str x2 t2] : List Value).toArray n) ∈ L9) (hk : k < 3) (h : ∀ t, Q (.str (if k = 0 then x0 else if k = 1 then x1 else x2) t) s)
    (hs : subscripted slice false (.ref a) (.int k u) = operate [.ref a, .int k u] (getItem (.ref a) (.int k u)) := by with_unfolding_all rfl) :
    wpAny (model P w) A (subscriptTail value slice (.ref a) (.int k u)) Q E s := by
  have e : ∃ t, ([.str x0 t0, .str x1 t1, .str x2 t2] : List Value)[k]? = some (.str (if k = 0 then x0 else if k = 1 then x1 else x2) t) := by
    obtain rfl | rfl | rfl : k = 0 ∨ k = 1 ∨ k = 2 := by omega
    all_goals exact ⟨_, rfl⟩
  obtain ⟨t, e⟩ := e
  exact item_any N hm (by omega) e (h t) hs
local macro_rules | `(tactic| walk_at "subscriptTail List") => `(tactic| (k_here; (with_reducible show wpAny _ _ (subscriptTail _ _ (Value.ref _) (Value.int _ _)) _ _ _); k_dflt (first | (refine' item5 ?N ?m ?i ?_ ?s; (case N => k_asm); (case m => k_mem); (case i => assumption); (case s => with_unfolding_all rfl); k_whole) | (refine' item3 ?N ?m ?i ?_ ?s; (case N => k_asm); (case m => k_mem); (case i => assumption); (case s => with_unfolding_all rfl); k_whole)); intro t'))
local macro_rules | `(tactic| walk_at "call builtin:str.upper") => `(tactic| (k_here; k_dflt (refine' up_txt ?k1 ?_; (case k1 => first | exact (okn_len (nm_in (by assumption))).1 | (rw [PyProof.Rows.len_item]; decide)); k_whole); intro t' tk'))
theorem add_txt {A : Around} {x y : Str} {t u : Tok} (hl : x.length + y.length ≤ 16777216) (h : ∀ t' k, Q (.str (x ++ y) t') { s with toks := k }) : wpAny (model P w) A (binaryOp .Add (.str x t) (.str y u)) Q E s :=
  KXadd.add (Nat.le_refl _) (Nat.le_refl _) hl fun t' k _ => h t' k
local macro_rules | `(tactic| walk_at "subscriptTail Name Constant str int") => `(tactic| (k_here; (with_reducible show wpAny _ _ (subscriptTail _ _ (Value.str _ _) (Value.int _ _)) _ _ _); k_dflt (refine' item_at ?y ?b ?_ ?s ?t; (case y => exact rfl); (case b => (have q9 := okn_len (nm_in ‹_›); simp only [Bool.and_eq_true, decide_eq_true_eq]; omega)); (case s => with_unfolding_all rfl); (case t => (intro _; with_unfolding_all rfl)); k_whole)))
local macro_rules | `(tactic| walk_at "subscriptTail Name Slice str ref") => `(tactic| (k_here; (with_reducible show wpAny _ _ (subscriptTail _ (Expr.Slice (some _) none none _) _ _) _ _ _); k_dflt (refine' slice_strN_sn (hsz := ?hsz) (s := ⟨_, _, _, _, _⟩) ?F ?N ?_; (case hsz => (have q9 := okn_len (nm_in ‹_›); have q8 := sizeLine_eq; omega)); (case F => k_asm); (case N => k_asm)); intro h' tk' t' F' N'))
local macro_rules | `(tactic| walk_at "binaryOp Add str str") => `(tactic| (k_here; k_dflt (refine' add_txt ?l ?_; (case l => assumption); k_whole); intro t' tk'))
theorem name_ij {x : Int} {tx : Tok} {i j : Nat} (hi5 : i < 5) (hj3 : j < 3)
    (T : Top hd.view_39 loose mean mg mb h₀) (KX : (hd.heap_39 w.params).In h₀) (B : Below A₀ base outer h₀) (F : Fr h₀ L s.heap m)
    (N : News h₀ L s.heap news) (hf : env.frame = some L) (hke : env.scope.kind = .function) (hi : Int.fmod (Int.fdiv x 4) 5 = i) (hj : Int.fmod (Int.fdiv x 20) 3 = j)
    (h : ∀ h' tk a t1 t2, Fr h₀ L h' m → News h₀ L h' ((a, tup2 (.str (nmS i) t1) (.str (wrS i j) t2)) :: news) → (∀ p ∈ news, p.1 < a) → Q (.ref a) { s with heap := h', toks := tk }) :
    wpAny (model PySem.Challenge.rw_mr0247_01.row.toRowW.prog w) (AK 450 1200 (env :: outer)) (PySem.call (.ref 194) [.int x tx] []) Q E s := by
  have fin : ∀ (h' : Heap) (tk : Nat) (a l1 l2 : Addr) (o1 o2 : Obj) (t1 t2 : Tok) (u v : Str), Fr h₀ L h' m → News h₀ L h' ((a, tup2 (.str u t1) (.str v t2)) :: (l1, o1) :: (l2, o2) :: news) → (@LT.lt Nat _ l1 a ∧ @LT.lt Nat _ l2 a ∧ AllLt a news) →
      u = nmS i → v = wrS i j → Q (.ref a) { s with heap := h', toks := tk } := by
    intro h' tk a l1 l2 o1 o2 t1 t2 u v F N l9 e1 e2
    subst e1 e2
    refine h h' tk a t1 t2 F (fun p hp => N p ?_) (fun p hp => allLt_mem l9.2.2 hp)
    rcases List.mem_cons.mp hp with rfl | hp
    · exact .head _
    · exact .tail _ (.tail _ (.tail _ hp))
  have hw9 : (if j = 0 then nmS i else if j = 1 then Txt.upper (nmS i) else Txt.upper (Txt.item (nmS i) 0) ++ Txt.slice (nmS i) (some 1) none) = wrS i j := by
    have e : ∀ i ∈ List.range 5, Txt.upper (nmS i) = upS i ∧ Txt.upper (Txt.item (nmS i) 0) ++ Txt.slice (nmS i) (some 1) none = cpS i := by decide +kernel
    obtain ⟨e1, e2⟩ := e i (List.mem_range.mpr hi5)
    unfold wrS
    rw [e1, e2]
  have hl9 : (Txt.upper (Txt.item (nmS i) 0)).length + (Txt.slice (nmS i) (some 1) none).length ≤ 16777216 := by
    have e : ∀ i ∈ List.range 5, (Txt.upper (Txt.item (nmS i) 0)).length + (Txt.slice (nmS i) (some 1) none).length ≤ 16777216 := by decide +kernel
    exact e i (List.mem_range.mpr hi5)
  revert KX; k_fill; intro KX
  w_on
  w_strict (repeat (first | (k_unfold; (try dsimp only)) | walk1 | (dsimp only; walk1)))
  exact fin _ _ _ _ _ _ _ _ _ _ _ (by assumption) (by assumption) (by assumption) rfl hw9
end
end
section
open PySem PySem.W PyProof.Rows
theorem ite_yes {x y : PySem.Str} {P Q : Prop} {i : Decidable ((x == y) = true)} (h : (x == y) = true) (hp : P) : @ite Prop ((x == y) = true) i P Q := by rw [if_pos h]; exact hp
theorem ite_not {x y : PySem.Str} {P Q : Prop} {i : Decidable ((x == y) = true)} (h : (x == y) = false) (hq : Q) : @ite Prop ((x == y) = true) i P Q := by rw [if_neg (by rw [h]; decide)]; exact hq
theorem ite_two {x y : PySem.Str} {P Q : Prop} {i : Decidable ((x == y) = true)} (h1 : (x == y) = true → P) (h2 : (x == y) = false → Q) : @ite Prop ((x == y) = true) i P Q := by
  by_cases h : (x == y) = true
  · rw [if_pos h]; exact h1 h
  · rw [if_neg h]; exact h2 (Bool.eq_false_iff.mpr h)
end
section
open PySem PySem.W PySem.W.X PyProof.Rows PySem.Spec PyProof.Rows.LCg PyProof.Rows.LCt
local macro_rules | `(tactic| k_mem) => `(tactic| first | with_reducible exact List.mem_cons_self | with_reducible assumption | (refine List.mem_cons_of_mem _ ?_; k_mem))
local macro_rules | `(tactic| walk_at "eval ListComp") => `(tactic| (k_here; k_dflt (refine LCg.ListComp_U (F₀ := by k_asm) (by with_unfolding_all rfl) (by decide) (by rfl) (by decide) (by rfl) ?_)))
local macro_rules | `(tactic| walk_at "CompSrc") => `(tactic| (k_here; k_dflt (refine' LCg.CompSrc.range ?ra ?rb ?rc ?rd ?re ?rf ?rg ?_)))
section
variable {w : World} {s : Shared} {A₀ : Around} {base h₀ : Heap} {outer : List Env} {env : Env}
  {L : Addr} {m : Str → Option Value} {news : List (Addr × Obj)} {mean : ExcName → Option Value} {mg mb : Str → Option Value} {Q : Value → Shared → Prop} {E : Value → Shared → Prop}
theorem restU_ind {prog : Program} {A : Around} {elt : Expr} {x : Str} {scope : Scope} {cl : List (Str × Addr)} {S : List (Addr × Obj) → Prop} {P : Nat → Value → Prop} {Fin : List Value → List (Addr × Obj) → Prop} {n : Nat} (J : Nat → List Value → Prop)
    (h0 : J 0 []) (fin : ∀ ys, J n ys → Fin ys news)
    (step : ∀ i ys, i < n → J i ys → ∀ (R : Value → List (Addr × Obj) → Prop), (∀ y, J (i + 1) (ys ++ [y]) → R y news) →
      ∀ v I oI C oC D m₂ h tk (E' : Value → Shared → Prop), P i v → NsObj oC m₂ → m₂ x = some v → Fr h₀ L h m → News h₀ L h ((I, oI) :: (C, oC) :: (D, lst ys) :: news) → Off3 I C D news → ((@Ne Nat I C) ∧ (@Ne Nat I D) ∧ (@Ne Nat C D)) →
      wpAny (model prog w) A (eval elt (compEnvC scope cl C env)) (CompEnd h₀ L m { s with heap := h, toks := tk } I oI C oC D (lst ys) S R) E' { s with heap := h, toks := tk }) :
    CompRest prog w A h₀ L m env elt x scope cl s S P Fin n 0 [] news := by
  have gen : ∀ k i ys, i + k = n → J i ys → CompRest prog w A h₀ L m env elt x scope cl s S P Fin k i ys news := by
    intro k
    induction k with
    | zero => intro i ys hi hj; obtain rfl : i = n := by omega
              exact CompRest.zero (fin ys hj)
    | succ k ih =>
      intro i ys hi hj
      refine CompRest.succ ?_
      intro v I oI C oC D m₂ h tk E' hP hC hm F N off ne
      exact step i ys (by omega) hj _ (fun y hy => ih (i + 1) _ (by omega) hy) v I oI C oC D m₂ h tk E' hP hC hm F N off ne
  exact gen n 0 [] (by omega) h0
theorem kitStrs {vs : List Value} {xs : List Str} (h : Mine.StrsAre vs xs) : PyProof.Rows.StrsAre vs.toArray.toList xs := by
  rw [List.toList_toArray]
  induction h with
  | nil => exact .nil
  | cons _ ih => exact .cons _ _ ih
local macro_rules | `(tactic| walk_at "call builtin:str.join") => `(tactic| (k_here; k_dflt (refine' join_listW ?l ?i ?s ?w ?_; (case l => exact News.isList (by k_asm) (by k_mem)); (case i => exact kitStrs (by assumption)); (case s => decide); (case w => assumption); k_whole); intro t' tk'))
local macro_rules | `(tactic| walk_at "subscriptTail") => `(tactic| (k_here; (with_reducible show wpAny _ _ (subscriptTail _ _ (Value.str _ _) (Value.int _ _)) _ _ _); k_dflt (refine' item_at ?y ?b ?_ ?s ?t; (case y => exact rfl); (case b => (simp only [Bool.and_eq_true, decide_eq_true_eq]; omega)); (case s => with_unfolding_all rfl); (case t => (intro _; with_unfolding_all rfl)); k_whole)))
local macro_rules | `(tactic| walk_at "subscriptTail Name Name str int") => `(tactic| (k_here; (with_reducible show wpAny _ _ (subscriptTail _ _ (Value.str _ _) (Value.int _ _)) _ _ _); k_dflt (refine' item_at ?y ?b ?_ ?s ?t; (case y => exact rfl); (case b => (simp only [Bool.and_eq_true, decide_eq_true_eq]; omega)); (case s => with_unfolding_all rfl); (case t => (intro _; with_unfolding_all rfl)); k_whole)))
theorem rng100 {n : Nat} (h : n ≤ 100) : Builtin.Range.small 0 (n : Int) 1 = true ∧ Builtin.Range.rangeSize 0 (n : Int) 1 = (n : Int) := by
  have : ∀ n ∈ List.range 101, Builtin.Range.small 0 (n : Int) 1 = true ∧ Builtin.Range.rangeSize 0 (n : Int) 1 = (n : Int) := by decide +kernel
  exact this n (List.mem_range.mpr (by omega))
local macro_rules | `(tactic| walk_at "call builtin:str.upper") => `(tactic| (k_here; k_dflt (refine' up_txt ?k1 ?_; (case k1 => (rw [PyProof.Rows.len_item]; decide)); k_whole); intro t' tk'))
def gch (x : Str) (k : Nat) : Str := if k = 0 then Txt.upper (Txt.item x k) else if Txt.item x ((k : Int) - 1) == Str.ofString "-" then Txt.upper (Txt.item x k) else Txt.item x k
theorem snoc_0 {x : Str} {i : Nat} {ys : List Value} {t : Tok} (hj : StrsAre ys ((List.range i).map (gch x))) (h0 : (i : Int) = 0) : StrsAre (ys ++ [.str (Txt.upper (Txt.item x i)) t]) ((List.range (i + 1)).map (gch x)) := by
  have hi0 : i = 0 := by omega
  subst hi0
  exact StrsAre.snoc (x := gch x 0) hj
theorem snoc_up {x : Str} {i : Nat} {ys : List Value} {t : Tok} (hj : StrsAre ys ((List.range i).map (gch x))) (h0 : (i : Int) ≠ 0) (hq : (Txt.item x ((i : Int) - 1) == Str.ofString "-") = true) : StrsAre (ys ++ [.str (Txt.upper (Txt.item x i)) t]) ((List.range (i + 1)).map (gch x)) := by
  have e9 : gch x i = Txt.upper (Txt.item x i) := by unfold gch; rw [if_neg (by omega), if_pos hq]
  rw [List.range_succ, List.map_append]
  show StrsAre _ (_ ++ [gch x i])
  rw [e9]
  exact StrsAre.snoc hj
theorem snoc_no {x : Str} {i : Nat} {ys : List Value} {t : Tok} (hj : StrsAre ys ((List.range i).map (gch x))) (h0 : (i : Int) ≠ 0) (hq : (Txt.item x ((i : Int) - 1) == Str.ofString "-") = false) : StrsAre (ys ++ [.str (Txt.item x i) t]) ((List.range (i + 1)).map (gch x)) := by
  have e9 : gch x i = Txt.item x i := by unfold gch; rw [if_neg (by omega), if_neg (by rw [hq]; decide)]
  rw [List.range_succ, List.map_append]
  show StrsAre _ (_ ++ [gch x i])
  rw [e9]
  exact StrsAre.snoc hj
local macro_rules | `(tactic| walk_at "ite") => `(tactic| first | (with_reducible refine ite_yes (by assumption) ?_) | (with_reducible refine ite_not (by assumption) ?_) | ((with_reducible refine ite_two ?_ ?_) <;> intro a'))
theorem great_any {x y : Str} {tx : Tok} (hx : x.length ≤ 100) (hy : Txt.join (Str.ofString "") ((List.range x.length).map (gch x)) = y) (hw : (((List.range x.length).map (gch x)).map (·.length)).sum + ((List.range x.length).map (gch x)).length ≤ 1048576)
    (T : Top hd.view_39 loose mean mg mb h₀) (KX : (hd.heap_39 w.params).In h₀) (B : Below A₀ base outer h₀) (F : Fr h₀ L s.heap m)
    (N : News h₀ L s.heap news) (hf : env.frame = some L) (hke : env.scope.kind = .function)
    (h : ∀ h' tk t', Fr h₀ L h' m → News h₀ L h' news → Q (.str y t') { s with heap := h', toks := tk }) :
    wpAny (model PySem.Challenge.rw_mr0247_01.row.toRowW.prog w) (AK 450 1200 (env :: outer)) (PySem.call (.ref 199) [.str x tx] []) Q E s := by
  revert KX; k_fill; intro KX
  w_on
  w_strict (repeat (first | (k_unfold; (try dsimp only)) | walk1 | (dsimp only; walk1)))
  case ra => rfl
  case rb => k_asm
  case rc => k_asm
  case rd => assumption
  case re => exact (rng100 hx).1
  case rf => exact (rng100 hx).2
  case rg => exact Nat.le_trans hx (by decide)
  intro g9
  refine restU_ind (fun i ys => StrsAre ys ((List.range i).map (gch x))) .nil ?fin ?step
  case fin =>
    intro ys hyl D9 h9 tk9 F9 N9 off9
    w_strict (repeat (first | (k_unfold; (try dsimp only)) | walk1 | (dsimp only; walk1)))
    rw [hy]
    rename News h₀ L _ _ => kN9
    exact h _ _ _ (by assumption) (fun p hp => kN9 p (.tail _ (.tail _ hp)))
  case step =>
    intro i ys hi hj R hR v I oI C oC D m₂ h9 tk9 E' hv hC hm9 F9 N9 off9 ne9
    obtain ⟨t9, hv⟩ := hv
    rw [Int.zero_add] at hv
    subst hv
    w_strict (repeat' (first | ((with_reducible refine CompEnd.intro F9 N9 _ (fun p hp => hp) off9 trivial (hR _ ?_)); first | exact snoc_0 hj (by omega) | exact snoc_up hj (by omega) (by assumption) | exact snoc_no hj (by omega) (by assumption)) | (k_unfold; (try dsimp only)) | walk1 | (dsimp only; walk1)))
theorem great_K {i : Nat} {tx : Tok} (hi5 : i < 5)
    (T : Top hd.view_39 loose mean mg mb h₀) (KX : (hd.heap_39 w.params).In h₀) (B : Below A₀ base outer h₀) (F : Fr h₀ L s.heap m)
    (N : News h₀ L s.heap news) (hf : env.frame = some L) (hke : env.scope.kind = .function)
    (h : ∀ h' tk t', Fr h₀ L h' m → News h₀ L h' news → Q (.str (grS i) t') { s with heap := h', toks := tk }) :
    wpAny (model PySem.Challenge.rw_mr0247_01.row.toRowW.prog w) (AK 450 1200 (env :: outer)) (PySem.call (.ref 199) [.str (nmS i) tx] []) Q E s := by
  have e : ∀ i ∈ List.range 5, (nmS i).length ≤ 100 ∧ Txt.join (Str.ofString "") ((List.range (nmS i).length).map (gch (nmS i))) = grS i ∧ (((List.range (nmS i).length).map (gch (nmS i))).map (·.length)).sum + ((List.range (nmS i).length).map (gch (nmS i))).length ≤ 1048576 := by decide +kernel
  obtain ⟨q1, q2, q3⟩ := e i (List.mem_range.mpr hi5)
  exact great_any q1 q2 q3 T KX B F N hf hke h
end
end
section
open PySem PySem.W PySem.W.X PyProof.Rows PySem.Spec PySem.Calls PyProof.Rows.LCg PyProof.Rows.LCt
open Builtin Builtin.Str
theorem slot_map_next : Slot "map" "__next__" "map.__next__" :=
  .of (owner := "map") (n := "__next__") (by rw [typeLookup_type, builtinLookup_eq_fast]; kernel_rfl) (by decide +kernel) (by decide +kernel) (by decide +kernel)
    (by first | exact .inl (by decide +kernel) | exact .inr (by decide +kernel)) (by rw [isSubtype_type]; kernel_rfl)
theorem entry_map_next : entryFor table "map.__next__" = some Builtin.«map.__next__» := entryFor_of_tree (by kernel_rfl)
theorem slot_map_iter : Slot "map" "__iter__" "map.__iter__" :=
  .of (owner := "map") (n := "__iter__") (by rw [typeLookup_type, builtinLookup_eq_fast]; kernel_rfl) (by decide +kernel) (by decide +kernel) (by decide +kernel)
    (by first | exact .inl (by decide +kernel) | exact .inr (by decide +kernel)) (by rw [isSubtype_type]; kernel_rfl)
theorem map_no_len : typeLookup (.type "map") "__len__" = pure none := by rw [typeLookup_type, builtinLookup_eq_fast]; kernel_rfl
theorem map_no_hint : typeLookup (.type "map") "__length_hint__" = pure none := by rw [typeLookup_type, builtinLookup_eq_fast]; kernel_rfl
theorem args_map_next (a : Value) : argsOk "map.__next__" ⟨[a], []⟩ := by
  unfold argsOk; rw [signature?_of (id := "map.__next__") (n := ['_', '_', 't', 'x', 'e', 'n', '_', '_']) (o := ['p', 'a', 'm']) (by kernel_rfl) (show Manifest.owners.lookup _ = some Manifest.sig_map by kernel_rfl)]; kernel_rfl
theorem args_map_iter (a : Value) : argsOk "map.__iter__" ⟨[a], []⟩ := by
  unfold argsOk; rw [signature?_of (id := "map.__iter__") (n := ['_', '_', 'r', 'e', 't', 'i', '_', '_']) (o := ['p', 'a', 'm']) (by kernel_rfl) (show Manifest.owners.lookup _ = some Manifest.sig_map by kernel_rfl)]; kernel_rfl
abbrev IsMap (h : Heap) (M T : Addr) : Prop := h.get? M = some { cls := .type "map", dict := none, data := .fields #[.ref T, .builtin "str.capitalize"], slots := #[] }
section
variable {prog : Program} {w : World} {A : Around} {E : Value → Shared → Prop} {s : Shared} {M T I l : Addr}
theorem cap_call {x : PySem.Str} {t : Tok} {Q : Value → Shared → Prop} (hfit : x.length ≤ 5592405) (h : ∀ t' k, s.toks ≤ k → Q (.str (Txt.capitalize x) t') { s with toks := k }) : wpAny (model prog w) A (call (.builtin "str.capitalize") [.str x t]) Q E s := by
  refine call_gives F.slot_str_capitalize (typeIs_str _ _ _) F.entry_str_capitalize (F.args_str_capitalize_1 _) (gives_str_capitalize x t (fit_capitalized hfit)) ?_
  unfold Txt.capitalize at h
  by_cases hc : (x.length == 0) = true
  · rw [if_pos hc] at h ⊢; exact h t s.toks (Nat.le_refl _)
  · rw [if_neg hc] at h ⊢; exact ⟨fit_le (fit_capitalized hfit), h s.toks (s.toks + 1) (Nat.le_succ _)⟩
theorem map_next_item {i : Nat} {items : Array Value} {x : PySem.Str} {t : Tok} {n : Nat} {Q : Value → Shared → Prop} (hM : IsMap s.heap M T) (hT : s.heap.get? T = some { cls := .type "tuple", data := .seq #[.ref I] n }) (hit : s.heap.IsListIter I l i)
    (hl : s.heap.IsList l items) (hx : items[i]? = some (.str x t)) (hlen : x.length ≤ 100) (hIM : M ≠ I)
    (hQ : ∀ h' tk t', s.toks ≤ tk → h'.IsListIter I l (i + 1) → Heap.SameBut I s.heap h' → Q (.str (Txt.capitalize x) t') { s with heap := h', toks := tk }) :
    wpAny (model prog w) A (Builtin.«map.__next__» ⟨[.ref M], []⟩) (fun fin s' => ∃ v, fin = .done (.ret v) ∧ Q v s') E s := by
  show wpAny _ _ (field (.ref M) 0 >>= _) _ _ _
  refine wpAny_bind (wpAny_field hM rfl (x := .ref T) rfl ?_)
  show wpAny _ _ (seqItems? (.ref T) >>= _) _ _ _
  refine wpAny_bind (wpAny_seqItems hT rfl ?_)
  dsimp only
  simp only [List.forIn_toArray, List.forIn_cons, List.forIn_nil]
  refine wpAny_bind (wpAny_bind (wpAny_bind (wpAny_holding (wpAny_nextOf_list_item hit hl hx fun h₁ hit₁ hs₁ => ?_))))
  refine wpAny_pure (wpAny_pure ?_)
  refine wpAny_bind (wpAny_field (hs₁.extBut _ _ hIM hM) rfl (x := .builtin "str.capitalize") rfl ?_)
  refine wpAny_bind (wpAny_holding (cap_call (by omega) fun t' k hk => ?_))
  refine wpAny_bind (wpAny_letGo (wpAny_pure ⟨_, rfl, hQ _ _ _ hk hit₁ hs₁⟩))
theorem pyNext_map_item {i : Nat} {items : Array Value} {x : PySem.Str} {t : Tok} {n : Nat} {Q : Option Value → Shared → Prop} (hM : IsMap s.heap M T) (hT : s.heap.get? T = some { cls := .type "tuple", data := .seq #[.ref I] n }) (hit : s.heap.IsListIter I l i)
    (hl : s.heap.IsList l items) (hx : items[i]? = some (.str x t)) (hlen : x.length ≤ 100) (hIM : M ≠ I)
    (hQ : ∀ h' tk t', s.toks ≤ tk → h'.IsListIter I l (i + 1) → Heap.SameBut I s.heap h' → Q (some (.str (Txt.capitalize x) t')) { s with heap := h', toks := tk }) :
    wpAny (model prog w) A (pyNext (.ref M)) Q E s := by
  have hTy : s.TypeIs (.ref M) "map" := ⟨_, hM, rfl⟩
  unfold pyNext
  exact wpAny_bind (wpAny_attempt (wpAny_callSpecial?_slot (name := Str.ofString "__next__") hTy slot_map_next
    (wpAny_call_entry slot_map_next hTy entry_map_next (map_next_item hM hT hit hl hx hlen hIM fun h' tk t' a b c => wpAny_pure (hQ h' tk t' a b c)) (args_map_next _))))
theorem pyNext_map_end {i : Nat} {items : Array Value} {n : Nat} {Q : Option Value → Shared → Prop} (hh : A.handled = none) (hM : IsMap s.heap M T) (hT : s.heap.get? T = some { cls := .type "tuple", data := .seq #[.ref I] n }) (hit : s.heap.IsListIter I l i)
    (hl : s.heap.IsList l items) (hx : items[i]? = none)
    (hQ : ∀ h', Heap.ExtBut I s.heap h' → Q none { s with heap := h' }) :
    wpAny (model prog w) A (pyNext (.ref M)) Q E s := by
  have hTy : s.TypeIs (.ref M) "map" := ⟨_, hM, rfl⟩
  unfold pyNext
  refine wpAny_bind (wpAny_attempt (wpAny_callSpecial?_slot (name := Str.ofString "__next__") hTy slot_map_next
    (wpAny_call_entry slot_map_next hTy entry_map_next ?_ (args_map_next _))))
  show wpAny _ _ (field (.ref M) 0 >>= _) _ _ _
  refine wpAny_bind (wpAny_field hM rfl (x := .ref T) rfl ?_)
  show wpAny _ _ (seqItems? (.ref T) >>= _) _ _ _
  refine wpAny_bind (wpAny_seqItems hT rfl ?_)
  dsimp only
  simp only [List.forIn_toArray, List.forIn_cons, List.forIn_nil]
  refine wpAny_bind (wpAny_bind (wpAny_bind (wpAny_holding (wpAny_nextOf_list_end hh hit hl hx fun h' x he' hx' => ?_))))
  obtain ⟨o, ho, hc⟩ := hx'
  refine wpAny_bind (wpAny_isInstance (T := "StopIteration") (b := true) ⟨o, ho, hc⟩ isSubtype_stop ?_)
  exact wpAny_pure (hQ _ he')
theorem entry_map_iter : entryFor table "map.__iter__" = some Builtin.«dict_keyiterator.__iter__» :=
  entryFor_alias (id' := "dict_keyiterator.__iter__") (by kernel_rfl) (by first | rfl | decide +kernel | (unfold String.splitOn; simp +decide [String.splitOnAux])) (by decide +kernel) (by kernel_rfl)
theorem pyIter_map {Q : Value → Shared → Prop} (hM : IsMap s.heap M T) (h : Q (.ref M) s) : wpAny (model prog w) A (pyIter (.ref M)) Q E s := by
  have hTy : s.TypeIs (.ref M) "map" := ⟨_, hM, rfl⟩
  refine wpAny_pyIter_slot hTy slot_map_iter (wpAny_call_entry slot_map_iter hTy entry_map_iter ?_ (args_map_iter _))
  show wpAny _ _ (ret (.ref M)) _ _ s
  exact wpAny_pure ⟨_, rfl, "map", _, hTy, slot_map_next.lookup, h⟩
theorem walks_map (hh : A.handled = none) (M T I l : Addr) (n : Nat) (items : Array Value) (xs : List PySem.Str) (hIM : M ≠ I) (hIT : T ≠ I) (hIl : l ≠ I)
    (hxs : ∀ i, i < items.size → ∃ x t, items[i]? = some (.str x t) ∧ xs[i]? = some x ∧ x.length ≤ 100) :
    WalksS prog w A M [M, T, I, l] [I] (fun a b => a = b) items.size (fun i v => ∃ x t, xs[i]? = some x ∧ v = .str (Txt.capitalize x) t)
      (fun i s => IsMap s.heap M T ∧ s.heap.get? T = some { cls := .type "tuple", data := .seq #[.ref I] n } ∧ s.heap.IsListIter I l i ∧ s.heap.IsList l items) where
  sub := fun b hb => by rw [List.mem_singleton.mp hb]; simp
  grefl := fun _ => rfl
  gtrans := fun _ _ _ h k => h.trans k
  frame := fun i s h' tk st _ hk => ⟨hk M (by simp) _ st.1, hk T (by simp) _ st.2.1, st.2.2.1.at fun o e => hk I (by simp) o e, st.2.2.2.at fun o e => hk l (by simp) o e⟩
  item := fun i s Q E hi st hQ => by
    obtain ⟨x, t, hx, hy, hlen⟩ := hxs i hi
    refine pyNext_map_item st.1 st.2.1 st.2.2.1 st.2.2.2 hx hlen hIM fun h' tk t' ht hit' hs' => hQ _ _ ⟨x, t', hy, rfl⟩ ⟨hs'.extBut _ _ hIM st.1, hs'.extBut _ _ hIT st.2.1, hit', st.2.2.2.extBut hs'.extBut hIl⟩ ⟨fun b o hb e => hs'.extBut b o (fun q => hb (by simp [q])) e, rfl, rfl, rfl, ht⟩
  done := fun s Q E st hQ => pyNext_map_end hh st.1 st.2.1 st.2.2.1 st.2.2.2 (by simp) fun h' he => hQ _ ⟨fun b o hb e => he b o (fun q => hb (by simp [q])) e, rfl, rfl, rfl, Nat.le_refl _⟩
  self := fun i s Q E st hQ => pyIter_map st.1 hQ
abbrev nilO : Obj := { cls := .type "list", data := .seq ([] : List Value).toArray }
/- making room: the fresh list takes an item and gives it back -/
theorem room_made {S : Addr} {Q : Unit → Shared → Prop} (hS : s.heap.get? S = some nilO) (h : ∀ h' c, h'.get? S = some { cls := .type "list", dict := none, data := .seq #[] c, slots := #[] } → (∀ b o, b ≠ S → s.heap.get? b = some o → h'.get? b = some o) → Q () { s with heap := h' }) :
    wpAny (model prog w) A (Builtin.List.listTouch (.ref S)) Q E s := by
  show wpAny _ _ (updateSeq S (·.push .none) >>= fun _ => updateSeq S (·.pop)) _ _ _
  have e1 := Heap.get?_update_self (Obj.mapSeq (·.push Value.none)) hS rfl
  refine wpAny_bind (wpAny_updateSeq hS rfl (wpAny_updateSeq e1 rfl (h _ _ (Heap.get?_update_self (Obj.mapSeq (·.pop)) e1 rfl) ?_)))
  intro b o hb e
  rw [Heap.get?_update_other _ _ (Ne.symm hb), Heap.get?_update_other _ _ (Ne.symm hb)]
  exact e
/- list(it) of a walked object whose class knows no length -/
theorem collect_nolen {K : String} (k1 : (Value.type K == Value.type "list") = false) (k2 : (Value.type K == Value.type "tuple") = false) (k3 : typeLookup (.type K) "__len__" = pure none) (k4 : typeLookup (.type K) "__length_hint__" = pure none)
    {fp wr : List Addr} {G : Array GenState → Array GenState → Prop} {n : Nat} {P : Nat → Value → Prop} {St : Nat → Shared → Prop} {Q : List Value → Shared → Prop} (W : WalksS prog w A.in1 I fp wr G n P St) (hK : ∀ i s, St i s → s.TypeIs (.ref I) K) (st : St 0 s) (hfp : ∀ b ∈ fp, b < s.heap.objs.size) (hI : I ∈ fp) (hn : n ≤ sizeLine)
    (hQ : ∀ s' acc, Moved wr G s s' → ItemsOf P acc n → Q acc.toList s') : wpAny (model prog w) A (collect (.ref I)) Q E s := by
  obtain ⟨S, hSdef⟩ : ∃ S, s.heap.objs.size = S := ⟨_, rfl⟩
  have far : ∀ b ∈ fp, b ≠ S := fun b hb => Nat.ne_of_lt (hSdef ▸ hfp b hb)
  have isNew : (s.heap.push nilO).get? S = some nilO := hSdef ▸ Heap.get?_push_size _ rfl
  have st1 : St 0 { s with heap := s.heap.push nilO } := W.frame 0 s _ s.toks st (Nat.le_refl _) fun _ _ _ e => Heap.get?_push_of_some _ e
  have other : Builtin.List.listSameRef (.ref S) (.ref I) = false := by simp [Builtin.List.listSameRef, Ne.symm (far I hI)]
  unfold collect
  refine wpAny_bind (wpAny_runValue (codeAny_builtin F.entry_proto_collect ?_))
  rw [Around.under_plainId F.plain_proto_collect]
  show wpAny _ A.in1 (newList [] >>= fun l => again (.builtin "list.__iadd__" ⟨[l, .ref I], []⟩)) _ _ s
  refine wpAny_bind (wpAny_newObj_type (wpAny_pure ⟨plainId_quiet F.plain_list_iadd _, codeAny_builtin F.entry_list_iadd ?_⟩))
  rw [Around.under_plainId F.plain_list_iadd, hSdef]
  show wpAny _ A.in1 (Builtin.List.listExtendWith (.ref S) (.ref I) (.ref S)) _ _ _
  unfold Builtin.List.listExtendWith
  refine wpAny_bind (wpAny_typeOf (hK 0 _ st1) ?_)
  simp only [other, k1, k2, Bool.or_false, Bool.false_eq_true, if_false]
  refine wpAny_bind (W.self 0 _ _ _ st1 (wpAny_bind (wpAny_holding ?_)))
  unfold Builtin.List.listLengthHint
  refine wpAny_bind (wpAny_specialOf (hK 0 _ st1) k3 (wpAny_bind (wpAny_specialOf (hK 0 _ st1) k4 (wpAny_pure ?_))))
  show wpAny _ A.in1 (rule "list.extend.makes-room" >>= fun _ => Builtin.List.listTouch (.ref S) >>= fun _ => again (.builtin "list.extend.loop" ⟨[.ref S, .ref I, .ref S], []⟩)) _ _ _
  refine wpAny_bind (wpAny_rule (wpAny_bind (room_made isNew fun h2 c hS2 keep2 => wpAny_pure ⟨plainId_quiet F.plain_extend_loop _, ?_⟩)))
  have st2 := W.frame 0 _ h2 s.toks st1 (Nat.le_refl _) fun b hb o e => keep2 b o (far b hb) e
  refine codeAny_extend_loopS W hn S (fun hm => far S hm rfl) _ n 0 _ _ c rfl (Nat.zero_le _) st2 hS2 (ItemsOf.nil P) fun s' acc c' mv hS' items => ?_
  refine wpAny_bind (wpAny_load hS' (wpAny_pure (hQ s' acc ⟨fun b o hb e => ?_, mv.gens, mv.drawn, mv.os, mv.toks⟩ items)))
  have hbS : b ≠ S := Nat.ne_of_lt (hSdef ▸ Heap.lt_size e)
  exact mv.heap b o (fun hm => (List.mem_cons.mp hm).elim hbS hb) (keep2 b o hbS (Heap.get?_push_of_some _ e))
/- sep.join(map(..)) -/
theorem join_map {x : PySem.Str} {t : Tok} {Q : Value → Shared → Prop} {fp wr : List Addr} {G : Array GenState → Array GenState → Prop} {n : Nat} {P : Nat → Value → Prop} {St : Nat → Shared → Prop} (W : WalksS prog w A.in1.in1 I fp wr G n P St) (hK : ∀ i s, St i s → s.TypeIs (.ref I) "map") (st : St 0 s) (hfp : ∀ b ∈ fp, b < s.heap.objs.size) (hI : I ∈ fp)
    (hstr : ∀ i v, P i v → ∃ y u, v = Value.str y u)
    (hq : ∀ s' (l : List (PySem.Str × Tok)), Moved wr G s s' → ItemsOf P (strValues l).toArray n → JoinOk x (l.map (·.1)) = true ∧ ∀ t' k, Q (.str (Txt.join x (l.map (·.1))) t') { s' with toks := k })
    (hn : n ≤ sizeLine) : wpAny (model prog w) A (call (.builtin "str.join") [.str x t, .ref I]) Q E s := by
  refine wpAny_call (codeAny_call_builtin F.slot_str_join.plain F.entry_str_join (F.slot_str_join.check _ _ _ _ _ _ _ _ (typeIs_str _ _ _) (F.args_str_join_2 _ _) ?_))
  rw [join_tree_other]
  refine wpAny_bind (wpAny_typeOf (hK 0 s st) ?_)
  rw [if_neg (by decide)]
  refine wpAny_bind (wpAny_tryCatch (W.of_in1.self 0 s _ _ st ?_))
  refine wpAny_bind (collect_nolen (by decide) (by decide) map_no_len map_no_hint W hK st hfp hI hn fun s' acc mv items => ?_)
  have texts : ∀ v ∈ acc.toList, ∃ y u, v = Value.str y u := by
    intro v hv
    obtain ⟨j, e⟩ := List.mem_iff_getElem?.mp hv
    exact hstr j v (items.2 j v (by simpa using e))
  obtain ⟨l, e⟩ := exists_strValues acc.toList texts
  have items' : ItemsOf P (strValues l).toArray n := by rw [e]; simpa using items
  obtain ⟨ok, post⟩ := hq s' l mv items'
  have ok' := ok
  unfold JoinOk at ok'
  rw [Bool.not_eq_true'] at ok'
  rw [← e]
  have made : Gives (joinTail x (strValues l)) (joinMade x l) := by
    have := gives_joinTail x l ok'
    rcases l with _ | ⟨p, _ | ⟨q, r⟩⟩ <;> exact this
  exact made prog w A (wants Q E) s' (post_join l ⟨joinFit_length ok', post⟩)
end
end
section
open PySem PySem.W PySem.W.X PyProof.Rows PySem.Spec PyProof.Rows.LCg PyProof.Rows.LCt
abbrev mapO (T : Addr) : Obj := { cls := .type "map", dict := none, data := .fields #[.ref T, .builtin "str.capitalize"], slots := #[] }
abbrev oneT (I : Addr) : Obj := { cls := .type "tuple", data := .seq #[.ref I] 0 }
abbrev iterO (l : Addr) : Obj := { cls := .type "list_iterator", data := .fields #[.ref l, .int 0 0] }
local macro_rules | `(tactic| x_close) => `(tactic| exact ⟨_, _, _, _, _, rfl, rfl, by assumption⟩)
theorem map_new {w : World} {s : Shared} {l : Addr} {its : Array Value} {n : Nat} {E : Value → Shared → Prop} (KX : (hd.heap_39 w.params).In s.heap) (hl : s.heap.get? l = some { cls := .type "list", data := .seq its n }) :
   wpAny (model P w) A0 (PySem.call (.type "map") [.builtin "str.capitalize", .ref l]) (fun v s' => ∃ (h' : Heap) (tk : Nat) (I T M : Addr), v = .ref M ∧ s' = { s with heap := h', toks := tk } ∧ Mem s.heap h' [] [(M, mapO T), (T, oneT I), (I, iterO l)]) E s := by
  x_run
theorem strsAre_get {vs : List Value} {xs : List Str} (h : StrsAre vs xs) : ∀ {i : Nat}, i < vs.length → ∃ x t, vs[i]? = some (.str x t) ∧ xs[i]? = some x := by
  induction h with
  | nil => intro i hi; exact absurd hi (Nat.not_lt_zero _)
  | cons _ ih =>
    intro i hi
    cases i with
    | zero => exact ⟨_, _, rfl, rfl⟩
    | succ i => exact ih (Nat.lt_of_succ_lt_succ hi)
theorem strsAre_len {vs : List Value} {xs : List Str} (h : StrsAre vs xs) : vs.length = xs.length := by
  induction h with
  | nil => rfl
  | cons _ ih => rw [List.length_cons, List.length_cons, ih]
theorem caps_eq {xs : List Str} {ls : List (Str × Tok)} {n : Nat} (hn : n = xs.length) (h : ItemsOf (fun i v => ∃ x t, xs[i]? = some x ∧ v = .str (Txt.capitalize x) t) (strValues ls).toArray n) : ls.map (·.1) = xs.map Txt.capitalize := by
  obtain ⟨h1, h2⟩ := h
  have hl : ls.length = xs.length := by
    have : (strValues ls).length = n := by simpa using h1
    unfold strValues at this
    rw [List.length_map] at this
    omega
  apply List.ext_getElem (by rw [List.length_map, List.length_map, hl])
  intro i hi hi'
  rw [List.length_map] at hi
  obtain ⟨x, t, e1, e2⟩ := h2 i (.str ls[i].1 ls[i].2) (by simp [strValues, hi])
  rw [List.getElem_map, List.getElem_map]
  have e3 : xs[i]'(by omega) = x := by rw [List.getElem?_eq_getElem (by omega)] at e1; exact Option.some.inj e1
  rw [e3]
  exact (Value.str.inj e2).1
section
variable {w : World} {s : Shared} {A₀ : Around} {base h₀ : Heap} {outer : List Env} {env : Env}
  {L : Addr} {m : Str → Option Value} {news : List (Addr × Obj)} {mean : ExcName → Option Value} {mg mb : Str → Option Value} {Q : Value → Shared → Prop} {E : Value → Shared → Prop}
theorem attr_cap {A : Around} {expr : Bool} {K : Frag} (F : Fr h₀ L s.heap m) (X₀ : K.In h₀)
    (e : findCls K (.type "str") (.type "type") "capitalize" = some (.val (.builtin "str.capitalize"))) (h : ∀ u, Q (.builtin "str.capitalize") { s with toks := u }) : wpAny (model P w) A (getAttr (.type "str") "capitalize" expr) Q E s := by
  have X := X₀.keeps F.keep
  have hstub : opaqueClassAbove (.type "str") = pure none := by unfold opaqueClassAbove; dsimp only; rw [show Manifest.isStub "str" = false by decide +kernel]; rfl
  have L0 : Looks (model P w) s.heap (typeOf (.type "str")) (.type "type") := Looks.of_pure (kitMeta_of (by decide +kernel))
  have LO : Looks (model P w) s.heap (opaqueClassAbove (.type "str")) none := Looks.of_pure hstub
  have hg : findIn K (.type "type") "__getattribute__" = some (some (.builtin "type.__getattribute__")) := type_tga
  refine cls_open X LO L0 hg (looks_hook X (r := none) (by rfl)) (by show subIn K _ _ = _; rfl) e ?_
  show wpAny _ _ (ret (.builtin "str.capitalize")) _ _ _
  exact wpAny_pure (handed_on rfl (h _))
theorem map_K {A : Around} {l : Addr} {vs : List Value} {n : Nat} (X : (hd.heap_39 w.params).In s.heap) (hh : A.handled = none) (hdp : A.depth ≤ 800) (hu : A.units ≤ 3000) (F : Fr h₀ L s.heap m) (N : News h₀ L s.heap news) (hl : (l, listOf vs.toArray n) ∈ news)
    (h : ∀ (h' : Heap) (tk : Nat) (I T M : Addr), Fr h₀ L h' m → News h₀ L h' ((M, mapO T) :: (T, oneT I) :: (I, iterO l) :: news) → (@Ne Nat M I ∧ @Ne Nat T I) → (∀ p ∈ news, @Ne Nat p.1 I) → Q (.ref M) { s with heap := h', toks := tk }) :
    wpAny (model P w) A (PySem.call (.type "map") [.builtin "str.capitalize", .ref l]) Q E s := by
  refine wpAny_A0 (wpAny_mono (map_new X (N _ hl).1) (fun v s' hv => ?_) fun _ _ e => e) hh hdp hu
  obtain ⟨h', tk, I, T, M, rfl, rfl, D⟩ := hv
  have keep : ∀ b o, s.heap.get? b = some o → h'.get? b = some o := fun b o e => D.keep b o e (by simp [away])
  have new : ∀ p ∈ [(M, mapO T), (T, oneT I), (I, iterO l)], h'.get? p.1 = some p.2 ∧ p.1 ≠ L ∧ h₀.get? p.1 = none := by
    intro p hp
    obtain ⟨e1, e2⟩ := D.nw p hp
    refine ⟨e1, fun e => ?_, ?_⟩
    · have := F.ns.lt
      obtain ⟨o, _, _, ho, _⟩ := F.ns
      rw [e, ho] at e2
      cases e2
    · cases hz : h₀.get? p.1 with
      | none => rfl
      | some o => rw [F.keep _ _ hz] at e2; cases e2
  have hord := D.ord
  simp only [List.map_cons, List.map_nil, List.pairwise_cons, List.mem_cons, List.not_mem_nil, or_false, forall_eq_or_imp, forall_eq] at hord
  refine h h' tk I T M (F.keeps keep) ?_ ⟨Nat.ne_of_gt hord.1.2, Nat.ne_of_gt hord.2.1⟩ ?_
  · intro p hp
    rcases List.mem_cons.mp hp with rfl | hp
    · exact new _ (.head _)
    · rcases List.mem_cons.mp hp with rfl | hp
      · exact new _ (.tail _ (.head _))
      · rcases List.mem_cons.mp hp with rfl | hp
        · exact new _ (.tail _ (.tail _ (.head _)))
        · exact ⟨keep _ _ (N p hp).1, (N p hp).2⟩
  · intro p hp e
    have e2 := (D.nw _ (.tail _ (.tail _ (.head _)))).2
    have e1 := (N p hp).1
    rw [show p.1 = I from e, e2] at e1
    cases e1
theorem join_caps {A : Around} {M T I l : Addr} {vs : List Value} {n : Nat} {xs : List Str} {sep y : Str} {t : Tok} (hh : A.handled = none) (F : Fr h₀ L s.heap m) (N : News h₀ L s.heap ((M, mapO T) :: (T, oneT I) :: (I, iterO l) :: news)) (hl : (l, listOf vs.toArray n) ∈ news)
    (hxs : StrsAre vs xs) (hMI : @Ne Nat M I ∧ @Ne Nat T I) (hnI : ∀ p ∈ news, @Ne Nat p.1 I) (hle : ∀ x ∈ xs, x.length ≤ 100) (hn : xs.length ≤ 100) (hy : Txt.join sep (xs.map Txt.capitalize) = y) (hok : JoinOk sep (xs.map Txt.capitalize) = true)
    (h : ∀ h' tk t', Fr h₀ L h' m → News h₀ L h' news → Q (.str y t') { s with heap := h', toks := tk }) :
    wpAny (model P w) A (PySem.call (.builtin "str.join") [.str sep t, .ref M]) Q E s := by
  have hlen : vs.toArray.size = xs.length := by rw [List.size_toArray, strsAre_len hxs]
  have hit : ∀ i, i < vs.toArray.size → ∃ x t, vs.toArray[i]? = some (.str x t) ∧ xs[i]? = some x ∧ x.length ≤ 100 := by
    intro i hi
    obtain ⟨x, t, e1, e2⟩ := strsAre_get hxs (by simpa using hi)
    exact ⟨x, t, by simpa using e1, e2, hle x (List.mem_of_getElem? e2)⟩
  have NM := N _ (.head _)
  have NT := N _ (.tail _ (.head _))
  have NI := N _ (.tail _ (.tail _ (.head _)))
  have Nl := N _ (.tail _ (.tail _ (.tail _ hl)))
  refine join_map (walks_map (A := A.in1.in1) (prog := P) (w := w) hh M T I l 0 vs.toArray xs hMI.1 hMI.2 (hnI _ hl) hit) (fun i s st => ⟨_, st.1, rfl⟩) ⟨NM.1, NT.1, ⟨_, NI.1, rfl, rfl⟩, ⟨_, Nl.1, rfl, n, rfl⟩⟩ ?_ (by simp) (fun i v hv => by obtain ⟨x, t, _, rfl⟩ := hv; exact ⟨_, _, rfl⟩) ?_ (by rw [hlen]; exact Nat.le_trans hn (by decide))
  · intro b hb
    simp only [List.mem_cons, List.not_mem_nil, or_false] at hb
    rcases hb with rfl | rfl | rfl | rfl
    · exact Heap.lt_size NM.1
    · exact Heap.lt_size NT.1
    · exact Heap.lt_size NI.1
    · exact Heap.lt_size Nl.1
  · intro s' ls hm hacc
    have e : ls.map (·.1) = xs.map Txt.capitalize := caps_eq hlen hacc
    rw [e]
    refine ⟨hok, fun t' k => ?_⟩
    obtain ⟨h', g', d', tk', os'⟩ := s'
    have e1 : s.gens = g' := hm.gens
    have e2 : d' = s.drawn := hm.drawn
    have e3 : os' = s.os := hm.os
    subst e1 e2 e3
    rw [hy]
    refine h h' k t' (fr_but F hm.heap (Ne.symm NI.2.1) NI.2.2) (news_but (fun p hp => N p (.tail _ (.tail _ (.tail _ hp)))) hm.heap hnI)
end
end
section
open PySem PySem.W PySem.W.X PyProof.Rows PySem.Spec PyProof.Rows.LCg PyProof.Rows.LCt
local macro_rules | `(tactic| k_mem) => `(tactic| first | with_reducible exact List.mem_cons_self | with_reducible assumption | (refine List.mem_cons_of_mem _ ?_; k_mem))
local macro_rules | `(tactic| walk_at "getAttr") => `(tactic| (k_here; (with_reducible show wpAny _ _ (getAttr (Value.type _) (PySem.Str.ofString "capitalize") _) _ _ _); k_dflt (refine' attr_cap ?F ?X ?e ?_; (case F => k_asm); (case X => k_asm); (case e => k_is); k_whole); intro tk'))
local macro_rules | `(tactic| walk_at "call type:map") => `(tactic| (k_here; k_dflt (refine' map_K ?k1 ?k2 ?k3 ?k4 ?F ?N ?l ?_; (case k1 => exact (Frag.In.keeps (by k_asm) (Fr.keep (by k_asm)))); (case k2 => exact rfl); (case k3 => exact Nat.le_of_ble_eq_true rfl); (case k4 => exact Nat.le_of_ble_eq_true rfl); (case F => k_asm); (case N => k_asm); (case l => k_mem); k_whole); intro h' tk' I' T' M' F' N' ne' off'))
local macro_rules | `(tactic| walk_at "call builtin:str.split") => `(tactic| (k_here; k_dflt (refine' KSpl.split1 ?F ?N ?y ?_ ?z; (case F => k_asm); (case N => k_asm); (case y => decide +kernel); (case z => (have q9 := sizeLine_eq; omega)); k_whole); intro D' l' h' k' e' a' F' N' l1))
local macro_rules | `(tactic| walk_at "call builtin:str.join") => `(tactic| (k_here; k_dflt (refine' join_caps ?hh ?F ?N ?l ?xs ?ne ?off ?le ?n ?y ?ok ?_; (case hh => exact rfl); (case F => k_asm); (case N => k_asm))))
theorem ofKit {vs : List Value} {xs : List Str} (h : PyProof.Rows.StrsAre vs xs) : StrsAre vs xs := by
  induction h with
  | nil => exact .nil
  | cons _ _ _ ih => exact .cons ih
section
variable {w : World} {s : Shared} {A₀ : Around} {base h₀ : Heap} {outer : List Env} {env : Env}
  {L : Addr} {m : Str → Option Value} {news : List (Addr × Obj)} {mean : ExcName → Option Value} {mg mb : Str → Option Value} {Q : Value → Shared → Prop} {E : Value → Shared → Prop}
theorem cap_any {x y : Str} {t t2 : Tok} (hx : x.length ≤ 100) (hp : ∀ p ∈ Txt.split x (Str.ofString "-"), p.length ≤ 100) (hn : (Txt.split x (Str.ofString "-")).length ≤ 100) (hy : Txt.join (Str.ofString "-") ((Txt.split x (Str.ofString "-")).map Txt.capitalize) = y)
    (hok : JoinOk (Str.ofString "-") ((Txt.split x (Str.ofString "-")).map Txt.capitalize) = true)
    (T : Top hd.view_39 loose mean mg mb h₀) (KX : (hd.heap_39 w.params).In h₀) (B : Below A₀ base outer h₀) (F : Fr h₀ L s.heap m) (N : News h₀ L s.heap news) (hf : env.frame = some L) (hke : env.scope.kind = .function)
    (h : ∀ h' tk t', Fr h₀ L h' m → News h₀ L h' news → Q (.str y t') { s with heap := h', toks := tk }) :
    wpAny (model PySem.Challenge.rw_mr0247_01.row.toRowW.prog w) (AK 450 1200 (env :: outer)) (PySem.call (.ref 187) [.str x t, .str (Str.ofString "-") t2] []) Q E s := by
  revert KX; k_fill; intro KX
  w_on
  w_strict (repeat (first | (k_unfold; (try dsimp only)) | walk1 | (dsimp only; walk1)))
  case l => k_mem
  case xs =>
    rename PyProof.Rows.StrsAre _ _ => a9
    rename List.map _ _ = Txt.split _ _ => e9
    rw [e9] at a9
    exact ofKit a9
  case ne => assumption
  case off => assumption
  case le => exact hp
  case n => exact hn
  case y => exact hy
  case ok => exact hok
  intro h9 tk9 t9 F9 N9
  w_strict (repeat (first | (k_unfold; (try dsimp only)) | walk1 | (dsimp only; walk1)))
  rename News h₀ L _ _ => kN9
  exact h _ _ _ (by assumption) (fun p hp => kN9 p (.tail _ hp))
def capOk (x y : Str) : Bool := decide (x.length ≤ 100) && (Txt.split x (Str.ofString "-")).all (fun p => decide (p.length ≤ 100)) && decide ((Txt.split x (Str.ofString "-")).length ≤ 100) && (Txt.join (Str.ofString "-") ((Txt.split x (Str.ofString "-")).map Txt.capitalize) == y) && JoinOk (Str.ofString "-") ((Txt.split x (Str.ofString "-")).map Txt.capitalize)
theorem cap_K {i j : Nat} {t t2 : Tok} (hi5 : i < 5) (hj3 : j < 3)
    (T : Top hd.view_39 loose mean mg mb h₀) (KX : (hd.heap_39 w.params).In h₀) (B : Below A₀ base outer h₀) (F : Fr h₀ L s.heap m) (N : News h₀ L s.heap news) (hf : env.frame = some L) (hke : env.scope.kind = .function)
    (h : ∀ h' tk t', Fr h₀ L h' m → News h₀ L h' news → Q (.str (grS i) t') { s with heap := h', toks := tk }) :
    wpAny (model PySem.Challenge.rw_mr0247_01.row.toRowW.prog w) (AK 450 1200 (env :: outer)) (PySem.call (.ref 187) [.str (wrS i j) t, .str (Str.ofString "-") t2] []) Q E s := by
  have e : ∀ i ∈ List.range 5, ∀ j ∈ List.range 3, capOk (wrS i j) (grS i) = true := by decide +kernel
  have e1 := e i (List.mem_range.mpr hi5) j (List.mem_range.mpr hj3)
  unfold capOk at e1
  simp only [Bool.and_eq_true, decide_eq_true_eq, List.all_eq_true, beq_iff_eq] at e1
  obtain ⟨⟨⟨⟨q1, q2⟩, q3⟩, q4⟩, q5⟩ := e1
  exact cap_any q1 q2 q3 q4 q5 T KX B F N hf hke h
end
end
section
open PySem PySem.W PySem.W.X PyProof.Rows PySem.Spec PyProof.Rows.LCg PyProof.Rows.LCt
local macro_rules | `(tactic| k_mem) => `(tactic| first | assumption | (refine List.Mem.tail _ ?_; k_mem))
section
variable {w : World} {s : Shared} {A₀ : Around} {base h₀ : Heap} {outer : List Env} {env : Env}
  {L : Addr} {m : Str → Option Value} {news : List (Addr × Obj)} {mean : ExcName → Option Value} {mg mb : Str → Option Value} {Q : Value → Shared → Prop} {E : Value → Shared → Prop}
abbrev row3 (a b c : Value) (n : Nat) : Obj := listOf #[a, b, c] n
def rowD (p : Str × Str × Str) : Dat := .list [.str p.1, .str p.2.1, .str p.2.2]
abbrev RowsIn (news : List (Addr × Obj)) (vs : List Value) (rs : List (Str × Str × Str)) : Prop := DatAll news vs (rs.map rowD)
theorem rowD_in {v : Value} {x y z : Str} (h : DatIn news v (.list [.str x, .str y, .str z])) : ∃ a n t1 t2 t3, v = .ref a ∧ (a, listOf #[.str x t1, .str y t2, .str z t3] n) ∈ news := by
  cases h with
  | list hm ha =>
    cases ha with
    | cons h1 ha =>
      cases h1
      cases ha with
      | cons h2 ha =>
        cases h2
        cases ha with
        | cons h3 ha =>
          cases h3
          cases ha
          exact ⟨_, _, _, _, _, rfl, hm⟩
theorem RowsIn.get {vs : List Value} {rs : List (Str × Str × Str)} (h : RowsIn news vs rs) {i : Nat} {v : Value} (hv : vs[i]? = some v) :
    ∃ a n t1 t2 t3 x y z, v = .ref a ∧ rs[i]? = some (x, y, z) ∧ (a, listOf #[.str x t1, .str y t2, .str z t3] n) ∈ news := by
  have hlt : i < rs.length := by
    have := DatAll.length h
    rw [List.length_map] at this
    rw [← this]
    exact (List.getElem?_eq_some_iff.mp hv).1
  obtain ⟨v', hv', hd'⟩ := DatAll.get h (k := i) (by rw [List.length_map]; exact hlt)
  rw [hv] at hv'
  cases hv'
  rw [List.getElem_map] at hd'
  obtain ⟨a, n, t1, t2, t3, e, hm⟩ := rowD_in hd'
  exact ⟨a, n, t1, t2, t3, _, _, _, e, List.getElem?_eq_getElem hlt, hm⟩
theorem RowsIn.length {vs : List Value} {rs : List (Str × Str × Str)} (h : RowsIn news vs rs) : vs.length = rs.length := by
  have := DatAll.length h
  rwa [List.length_map] at this
theorem RowsIn.snoc {vs : List Value} {rs : List (Str × Str × Str)} {a : Addr} {n : Nat} {t1 t2 t3 : Tok} {x y z : Str} (h : RowsIn news vs rs) (hm : (a, listOf #[.str x t1, .str y t2, .str z t3] n) ∈ news) : RowsIn news (vs ++ [.ref a]) (rs ++ [(x, y, z)]) := by
  unfold RowsIn
  rw [List.map_append]
  exact DatAll.append h (.one (.list (vs := [.str x t1, .str y t2, .str z t3]) hm (.cons (.str _ _) (.cons (.str _ _) (.cons (.str _ _) .nil)))))
def rowOk (p : Str × Str × Str) : Prop := PyData.strOk p.1 = true ∧ PyData.strOk p.2.1 = true ∧ PyData.strOk p.2.2 = true
theorem rowOk_dat {rs : List (Str × Str × Str)} (h : ∀ p ∈ rs, rowOk p) : ∀ d ∈ rs.map rowD, kqdOk 8 d = true := by
  intro d hd
  obtain ⟨p, hp, rfl⟩ := List.mem_map.mp hd
  obtain ⟨h1, h2, h3⟩ := h p hp
  simp [rowD, kqdOk, h1, h2, h3]
theorem ne_nil {A : Around} {a b : Addr} {L9 n₁ : List (Addr × Obj)} {oa ob : Obj} {ys : List Value} {ka kb : Nat} {rs : List (Str × Str × Str)} {bv : Bool} (N : News h₀ L s.heap L9) (ma : (a, oa) ∈ L9) (ca : oa.cls = .type "list") (da : oa.data = .seq ys.toArray ka)
    (mb : (b, ob) ∈ L9) (cb : ob.cls = .type "list") (db : ob.data = .seq ([] : List Value).toArray kb) (Da : RowsIn n₁ ys rs) (sa : ∀ p ∈ n₁, p ∈ L9) (hok : ∀ p ∈ rs, rowOk p) (hu : A.units + 64 < cLine) (hb : (!rs.isEmpty) = bv) (h : Q (.bool bv) s) :
    wpAny (model P w) A (compareOp .NotEq (.ref a) (.ref b)) Q E s := by
  classical
  refine kqd_ne N ma ca da Da sa mb cb db (DatAll.nil (news := [])) (fun _ hp => nomatch hp) (rowOk_dat hok) (fun _ hp => nomatch hp) hu ?_
  have e : (!decide (rs.map rowD = [])) = bv := by
    rw [← hb]
    cases rs with
    | nil => simp
    | cons p r => simp
  exact e ▸ h
theorem item_row {A : Around} {value slice : PySem.Expr} {L9 : List (Addr × Obj)} {a : Addr} {items : Array Value} {n : Nat} {k : Int} {u : Tok} {x : Value} (N : News h₀ L s.heap L9) (hm : (a, listOf items n) ∈ L9) (h0 : 0 ≤ k) (hfit : k < 2 ^ 63) (hx : items[k.toNat]? = some x) (h : Q x s)
    (hs : subscripted slice false (.ref a) (.int k u) = operate [.ref a, .int k u] (getItem (.ref a) (.int k u)) := by with_unfolding_all rfl) :
    wpAny (model P w) A (subscriptTail value slice (.ref a) (.int k u)) Q E s := by
  have hl : s.heap.IsList a items := ⟨_, (N _ hm).1, rfl, n, rfl⟩
  exact tail_any hl.typeIs slot_list_getitem.lookup (wpAny_getItem_list hl h0 hfit hx h) hs
theorem item_row0 {A : Around} {value slice : PySem.Expr} {L9 : List (Addr × Obj)} {a : Addr} {x y z : Value} {n : Nat} {u : Tok} (N : News h₀ L s.heap L9) (hm : (a, listOf #[x, y, z] n) ∈ L9) (h : Q x s)
    (hs : subscripted slice false (.ref a) (.int 0 u) = operate [.ref a, .int 0 u] (getItem (.ref a) (.int 0 u)) := by with_unfolding_all rfl) :
    wpAny (model P w) A (subscriptTail value slice (.ref a) (.int 0 u)) Q E s := item_row N hm (by decide) (by decide) rfl h hs
theorem item_row1 {A : Around} {value slice : PySem.Expr} {L9 : List (Addr × Obj)} {a : Addr} {x y z : Value} {n : Nat} {u : Tok} (N : News h₀ L s.heap L9) (hm : (a, listOf #[x, y, z] n) ∈ L9) (h : Q y s)
    (hs : subscripted slice false (.ref a) (.int 1 u) = operate [.ref a, .int 1 u] (getItem (.ref a) (.int 1 u)) := by with_unfolding_all rfl) :
    wpAny (model P w) A (subscriptTail value slice (.ref a) (.int 1 u)) Q E s := item_row N hm (by decide) (by decide) rfl h hs
theorem item_row2 {A : Around} {value slice : PySem.Expr} {L9 : List (Addr × Obj)} {a : Addr} {x y z : Value} {n : Nat} {u : Tok} (N : News h₀ L s.heap L9) (hm : (a, listOf #[x, y, z] n) ∈ L9) (h : Q z s)
    (hs : subscripted slice false (.ref a) (.int 2 u) = operate [.ref a, .int 2 u] (getItem (.ref a) (.int 2 u)) := by with_unfolding_all rfl) :
    wpAny (model P w) A (subscriptTail value slice (.ref a) (.int 2 u)) Q E s := item_row N hm (by decide) (by decide) rfl h hs
theorem Off1.off {D : Addr} : ∀ {l : List (Addr × Obj)}, Off1 D l → ∀ p ∈ l, p.1 ≠ D
  | [], _, _, h => nomatch h
  | _ :: _, x, p, h => by
    rcases List.mem_cons.mp h with rfl | h
    · exact x.1
    · exact Off1.off x.2 p h
theorem lt_of_news {h : Heap} {L9 : List (Addr × Obj)} {p : Addr × Obj} (N : News h₀ L h L9) (hm : p ∈ L9) : @LT.lt Nat _ p.1 h.objs.size := Heap.lt_size (N p hm).1
def rowsP (k : Int) (rs : List (Str × Str × Str)) (x y z : Str) : List (Str × Str × Str) :=
  if k = 0 then rs ++ [(x, y, z)] else if k = 1 then (rs.filter fun p => p.1 != x) ++ [(x, y, z)] else if k = 2 then rs.filter fun p => p.1 != x
  else if (rs.filter fun p => p.1 == x).isEmpty then rs ++ [(x, y, z)] else rs
theorem cat_K {A : Around} {L9 : List (Addr × Obj)} {a b : Addr} {vs ws : List Value} {n1 n2 : Nat} (F : Fr h₀ L s.heap m) (N : News h₀ L s.heap L9) (ha : (a, listOf vs.toArray n1) ∈ L9) (hb : (b, listOf ws.toArray n2) ∈ L9) (hsz : vs.length + ws.length ≤ sizeLine)
    (h : ∀ D h', Fr h₀ L h' m → News h₀ L h' ((D, listOf (vs ++ ws).toArray 0) :: L9) → (∀ p ∈ L9, @LT.lt Nat _ p.1 D) → Q (.ref D) { s with heap := h' }) :
    wpAny (model P w) A (binaryOp .Add (.ref a) (.ref b)) Q E s :=
  add_lists F N ⟨_, (N _ ha).1, rfl, _, rfl⟩ ⟨_, (N _ hb).1, rfl, _, rfl⟩ (fun h' F' N' => h _ h' F' N' fun p hp => Heap.lt_size (N p hp).1) hsz
end
end
section
open PySem PySem.W PySem.W.X PyProof.Rows PySem.Spec PyProof.Rows.LCg PyProof.Rows.LCt
local macro_rules | `(tactic| walk_at "eval ListComp") => `(tactic| (k_here; k_dflt (refine LCt.ListComp_T (F₀ := by k_asm) (by with_unfolding_all rfl) (by decide) (by rfl) (by decide) (by rfl) ?_)))
local macro_rules | `(tactic| k_mem) => `(tactic| first | with_reducible exact List.Mem.head _ | assumption | (refine List.Mem.tail _ ?_; k_mem))
local macro_rules | `(tactic| walk_at "binaryOp Mod int int") => `(tactic| (k_here; k_dflt (refine' mod_at ?b ?k ?_; (case b => decide); (case k => assumption); k_whole)))
local macro_rules | `(tactic| walk_at "compareOp NotEq ref ref") => `(tactic| (k_here; k_dflt (refine' ne_nil ?N ?ma ?ca ?da ?mb ?cb ?db ?Da ?sa ?ok ?hu ?hb ?_; (case N => k_asm); (case Da => assumption); (case ma => k_mem); (case ca => rfl); (case da => rfl); (case mb => exact .head _); (case cb => rfl); (case db => rfl); (case sa => (intro p9 hp9; (have hp8 := (show ∀ p ∈ _, p ∈ _ by assumption) p9 hp9); repeat (first | exact hp8 | refine List.Mem.tail _ ?_))); (case ok => assumption); (case hu => exact Nat.le_of_ble_eq_true rfl); (case hb => assumption); k_whole)))
local macro_rules | `(tactic| walk_at "subscriptTail") => `(tactic| (k_here; (with_reducible show wpAny _ _ (subscriptTail _ _ (Value.ref _) (Value.int _ _)) _ _ _); k_dflt (first | (refine' item_row0 ?N ?m ?_ ?hs; (case N => k_asm); (case m => k_mem); (case hs => with_unfolding_all rfl); k_whole) | (refine' item_row1 ?N ?m ?_ ?hs; (case N => k_asm); (case m => k_mem); (case hs => with_unfolding_all rfl); k_whole) | (refine' item_row2 ?N ?m ?_ ?hs; (case N => k_asm); (case m => k_mem); (case hs => with_unfolding_all rfl); k_whole))))
local macro_rules | `(tactic| walk_at "exec Assign cons ListComp") => `(tactic| (k_here; k_dflt (refine LCt.Assign_ListComp_T (F₀ := by k_asm) (by rfl) (by with_unfolding_all rfl) (by with_unfolding_all rfl) (by decide) (by rfl) (by decide) (by rfl) (by rfl) (by rfl) ?_)))
local macro_rules | `(tactic| walk_at "binaryOp Add ref ref") => `(tactic| (k_here; k_dflt (refine' cat_K ?F ?N ?a ?b ?z ?_; (case F => k_asm); (case N => k_asm); (case a => k_mem); (case b => k_mem); (case z => (simp only [List.length_cons, List.length_nil]; have q9 := sizeLine_eq; omega)); k_whole); intro D' h' F' N' l1; (try k_lt l1); (try k_sweep)))
section
variable {w : World} {s : Shared} {A₀ : Around} {base h₀ : Heap} {outer : List Env} {env : Env}
  {L : Addr} {m : Str → Option Value} {news : List (Addr × Obj)} {mean : ExcName → Option Value} {mg mb : Str → Option Value} {Q : Value → Shared → Prop} {E : Value → Shared → Prop}
theorem rows_K {x : Int} {nm wr vl : Str} {tx t1 t2 t3 : Tok} {r : Addr} {vs : List Value} {n : Nat} {rs : List (Str × Str × Str)} {n₀ : List (Addr × Obj)}
    (T : Top hd.view_39 loose mean mg mb h₀) (KX : (hd.heap_39 w.params).In h₀) (B : Below A₀ base outer h₀) (F : Fr h₀ L s.heap m)
    (N : News h₀ L s.heap ((r, listOf vs.toArray n) :: news)) (hf : env.frame = some L) (hke : env.scope.kind = .function)
    (hrs : RowsIn n₀ vs rs) (hsub : ∀ p ∈ n₀, p ∈ news) (hok : ∀ p ∈ rs, rowOk p) (hlen : rs.length ≤ 1000) (hr : ∀ q ∈ news, q.1 ≠ r)
    (h : ∀ h' tk r' vs' n' new, Fr h₀ L h' m → News h₀ L h' ((r', listOf vs'.toArray n') :: (new ++ news)) → RowsIn (new ++ n₀) vs' (rowsP (Int.fmod x 4) rs nm wr vl) →
      (∀ p ∈ new, ∀ q ∈ news, q.1 ≠ p.1) → (∀ q ∈ new ++ news, q.1 ≠ r') → Q (.ref r') { s with heap := h', toks := tk }) :
    wpAny (model PySem.Challenge.rw_mr0247_01.row.toRowW.prog w) (AK 450 1200 (env :: outer)) (PySem.call (.ref 211) [.ref r, .int x tx, .str nm t1, .str wr t2, .str vl t3] []) Q E s := by
  have finA : ∀ (h' : Heap) (tk : Nat) (r' la : Addr) (n1 n2 : Nat) (vs' : List Value) (rs' : List (Str × Str × Str)) (L9 : List (Addr × Obj)), Fr h₀ L h' m → News h₀ L h' ((r', listOf (vs' ++ [Value.ref la]).toArray n1) :: L9) → (la, listOf #[.str nm t1, .str wr t2, .str vl t3] n2) ∈ L9 →
      (∀ p ∈ news, p ∈ L9) → (∀ p ∈ news, p.1 ≠ la) → la ≠ r' → (∀ p ∈ news, p.1 ≠ r') → RowsIn n₀ vs' rs' → rowsP (Int.fmod x 4) rs nm wr vl = rs' ++ [(nm, wr, vl)] → Q (.ref r') { s with heap := h', toks := tk } := by
    intro h' tk r' la n1 n2 vs' rs' L9 F N hm hs ha hl hn hR e
    refine h h' tk r' (vs' ++ [.ref la]) n1 [(la, listOf #[.str nm t1, .str wr t2, .str vl t3] n2)] F (fun p hp => N p ?_) ?_ ?_ ?_
    · rcases List.mem_cons.mp hp with rfl | hp
      · exact .head _
      · rcases List.mem_cons.mp hp with rfl | hp
        · exact .tail _ hm
        · exact .tail _ (hs p hp)
    · rw [e]
      exact RowsIn.snoc (DatAll.mono (fun p hp => .tail _ hp) hR) (.head _)
    · intro p hp
      rw [List.mem_singleton.mp hp]
      exact ha
    · intro q hq
      rcases List.mem_cons.mp hq with rfl | hq
      · exact hl
      · exact hn q hq
  have finB : ∀ (h' : Heap) (tk : Nat) (r' : Addr) (n1 : Nat) (vs' : List Value) (L9 : List (Addr × Obj)), Fr h₀ L h' m → News h₀ L h' L9 → (r', listOf vs'.toArray n1) ∈ L9 →
      (∀ p ∈ news, p ∈ L9) → (∀ p ∈ news, p.1 ≠ r') → RowsIn n₀ vs' (rowsP (Int.fmod x 4) rs nm wr vl) → Q (.ref r') { s with heap := h', toks := tk } := by
    intro h' tk r' n1 vs' L9 F N hm hs hn hR
    refine h h' tk r' vs' n1 [] F (fun p hp => N p ?_) hR (fun p hp => nomatch hp) hn
    rcases List.mem_cons.mp hp with rfl | hp
    · exact hm
    · exact hs p hp
  have hlen9 : vs.toArray.size = rs.length := by rw [List.size_toArray, hrs.length]
  have hvl : vs.length ≤ 1000 := by rw [hrs.length]; exact hlen
  have hokF : ∀ p ∈ rs.filter (fun p => p.1 == nm), rowOk p := fun p hp => hok p (List.mem_filter.mp hp).1
  have hk4 : Int.fmod x 4 = 0 ∨ Int.fmod x 4 = 1 ∨ Int.fmod x 4 = 2 ∨ Int.fmod x 4 = 3 := by
    have h1 := Int.fmod_nonneg_of_pos x (show (0:Int) < 4 by decide)
    have h2 := Int.fmod_lt_of_pos x (show (0:Int) < 4 by decide)
    omega
  revert KX; k_fill; intro KX
  w_on
  w_strict (repeat (first | (k_unfold; (try dsimp only)) | walk1 | (dsimp only; walk1)))
  refine LCt.CompSrcT.ledger (by rfl) (by k_asm) (by k_asm) (by k_mem) ?sz ?_
  case sz => rw [List.size_toArray, hrs.length]; exact Nat.le_trans hlen (by decide)
  intro g9
  refine rest_ind (fun i ys => RowsIn n₀ ys ((rs.take i).filter fun p => p.1 == nm)) .nil ?fin ?step
  case fin =>
    intro ys hy D9 h9 tk9 F9 N9 off9
    rw [hlen9, List.take_length] at hy
    rcases hk4 with hk | hk | hk | hk
    · obtain ⟨bv, hth⟩ : ∃ bv, (!(rs.filter fun p => p.1 == nm).isEmpty) = bv := ⟨_, rfl⟩
      w_strict (repeat (first | (k_unfold; (try dsimp only)) | walk1 | (dsimp only; walk1)))
      exact finA _ _ _ _ _ _ _ _ _ (by assumption) (by assumption) (by k_mem) (by (intro p9 hp9; repeat (first | exact hp9 | refine List.Mem.tail _ ?_))) (by k_all) (by refine neN ?_; omega) (by k_all) hrs (by unfold rowsP; simp [hk])
    · obtain ⟨bv, hth⟩ : ∃ bv, (!(rs.filter fun p => p.1 == nm).isEmpty) = bv := ⟨_, rfl⟩
      w_strict (repeat (first | (k_unfold; (try dsimp only)) | walk1 | (dsimp only; walk1)))
      refine LCt.CompSrcT.ledger (by rfl) (by k_asm) (by k_asm) (by k_mem) ?sz2 ?_
      case sz2 => rw [List.size_toArray, hrs.length]; exact Nat.le_trans hlen (by decide)
      intro g8
      refine rest_ind (fun i ys => RowsIn n₀ ys ((rs.take i).filter fun p => p.1 != nm)) .nil ?fin2 ?step2
      case fin2 =>
        intro ys2 hy2 D8 h8 tk8 F8 N8 off8
        replace N8 : News _ _ _ ((D8, listOf ys2.toArray ys2.length) :: _) := N8
        rw [hlen9, List.take_length] at hy2
        have hyl : ys2.length ≤ 1000 := by rw [hy2.length]; exact Nat.le_trans (List.length_filter_le _ _) hlen
        w_strict (repeat (first | (k_unfold; (try dsimp only)) | walk1 | (dsimp only; walk1)))
        exact finA _ _ _ _ _ _ _ _ _ (by assumption) (by assumption) (by k_mem) (by (intro p9 hp9; repeat (first | exact hp9 | refine List.Mem.tail _ ?_))) (by k_all) (by refine neN ?_; omega) (by k_all) hy2 (by unfold rowsP; simp [hk])
      case step2 =>
        intro i ys hi hj R₁ R₀ hR1 hR0 v I oI C oC D m₂ h9 tk9 E' hv hC hm9 F9 N9 off9 ne9
        obtain ⟨a, n9, u1, u2, u3, x9, y9, z9, rfl, hpi, hmem⟩ := hrs.get (by simpa using hv)
        have hmem2 := hsub _ hmem
        w_strict (repeat (first | (k_unfold; (try dsimp only)) | walk1 | (dsimp only; walk1)))
        · rename (x9 != nm) = true => hq
          refine CompEnd.intro F9 N9 _ (fun p hp => hp) off9 (.inr ⟨_, by k_mem, rfl, _, rfl⟩) (hR1 _ ?_)
          rw [take_filter_pos hpi hq]
          exact RowsIn.snoc hj hmem
        · rename (x9 != nm) = false => hq
          refine CompEnd.intro F9 N9 _ (fun p hp => hp) off9 (.inr ⟨_, by k_mem, rfl, _, rfl⟩) (hR0 _ ?_)
          rw [take_filter_neg hpi hq]
          exact hj
    · obtain ⟨bv, hth⟩ : ∃ bv, (!(rs.filter fun p => p.1 == nm).isEmpty) = bv := ⟨_, rfl⟩
      w_strict (repeat (first | (k_unfold; (try dsimp only)) | walk1 | (dsimp only; walk1)))
      refine LCt.CompSrcT.ledger (by rfl) (by k_asm) (by k_asm) (by k_mem) ?sz2 ?_
      case sz2 => rw [List.size_toArray, hrs.length]; exact Nat.le_trans hlen (by decide)
      intro g8
      refine rest_ind (fun i ys => RowsIn n₀ ys ((rs.take i).filter fun p => p.1 != nm)) .nil ?fin2 ?step2
      case fin2 =>
        intro ys2 hy2 D8 h8 tk8 F8 N8 off8
        replace N8 : News _ _ _ ((D8, listOf ys2.toArray ys2.length) :: _) := N8
        rw [hlen9, List.take_length] at hy2
        have hyl : ys2.length ≤ 1000 := by rw [hy2.length]; exact Nat.le_trans (List.length_filter_le _ _) hlen
        w_strict (repeat (first | (k_unfold; (try dsimp only)) | walk1 | (dsimp only; walk1)))
        exact finB _ _ _ _ _ _ (by assumption) (by assumption) (by k_mem) (by (intro p9 hp9; repeat (first | exact hp9 | refine List.Mem.tail _ ?_))) (fun p hp => Off1.off off8 p (by repeat (first | exact hp | refine List.Mem.tail _ ?_))) (by rw [show rowsP (Int.fmod x 4) rs nm wr vl = rs.filter (fun p => p.1 != nm) by unfold rowsP; simp [hk]]; exact hy2)
      case step2 =>
        intro i ys hi hj R₁ R₀ hR1 hR0 v I oI C oC D m₂ h9 tk9 E' hv hC hm9 F9 N9 off9 ne9
        obtain ⟨a, n9, u1, u2, u3, x9, y9, z9, rfl, hpi, hmem⟩ := hrs.get (by simpa using hv)
        have hmem2 := hsub _ hmem
        w_strict (repeat (first | (k_unfold; (try dsimp only)) | walk1 | (dsimp only; walk1)))
        · rename (x9 != nm) = true => hq
          refine CompEnd.intro F9 N9 _ (fun p hp => hp) off9 (.inr ⟨_, by k_mem, rfl, _, rfl⟩) (hR1 _ ?_)
          rw [take_filter_pos hpi hq]
          exact RowsIn.snoc hj hmem
        · rename (x9 != nm) = false => hq
          refine CompEnd.intro F9 N9 _ (fun p hp => hp) off9 (.inr ⟨_, by k_mem, rfl, _, rfl⟩) (hR0 _ ?_)
          rw [take_filter_neg hpi hq]
          exact hj
    · cases hth : (!(rs.filter fun p => p.1 == nm).isEmpty)
      · w_strict (repeat (first | (k_unfold; (try dsimp only)) | walk1 | (dsimp only; walk1)))
        exact finA _ _ _ _ _ _ _ _ _ (by assumption) (by assumption) (by k_mem) (by (intro p9 hp9; repeat (first | exact hp9 | refine List.Mem.tail _ ?_))) (by k_all) (by refine neN ?_; omega) (by k_all) hrs (by unfold rowsP; rw [hk, if_neg (by decide), if_neg (by decide), if_neg (by decide), if_pos (by revert hth; cases (rs.filter fun p => p.1 == nm).isEmpty <;> simp)])
      · w_strict (repeat (first | (k_unfold; (try dsimp only)) | walk1 | (dsimp only; walk1)))
        exact finB _ _ _ _ _ _ (by assumption) (by assumption) (by k_mem) (by (intro p9 hp9; repeat (first | exact hp9 | refine List.Mem.tail _ ?_))) hr (by rw [show rowsP (Int.fmod x 4) rs nm wr vl = rs by unfold rowsP; rw [hk, if_neg (by decide), if_neg (by decide), if_neg (by decide), if_neg (by revert hth; cases (rs.filter fun p => p.1 == nm).isEmpty <;> simp)]]; exact hrs)
  case step =>
    intro i ys hi hj R₁ R₀ hR1 hR0 v I oI C oC D m₂ h9 tk9 E' hv hC hm9 F9 N9 off9 ne9
    obtain ⟨a, n9, u1, u2, u3, x9, y9, z9, rfl, hpi, hmem⟩ := hrs.get (by simpa using hv)
    have hmem2 := hsub _ hmem
    w_strict (repeat (first | (k_unfold; (try dsimp only)) | walk1 | (dsimp only; walk1)))
    · rename (x9 == nm) = true => hq
      refine CompEnd.intro F9 N9 _ (fun p hp => hp) off9 (.inr ⟨_, by k_mem, rfl, _, rfl⟩) (hR1 _ ?_)
      rw [take_filter_pos hpi hq]
      exact RowsIn.snoc hj hmem
    · rename (x9 == nm) = false => hq
      refine CompEnd.intro F9 N9 _ (fun p hp => hp) off9 (.inr ⟨_, by k_mem, rfl, _, rfl⟩) (hR0 _ ?_)
      rw [take_filter_neg hpi hq]
      exact hj
end
end
section
open PySem PySem.W PySem.W.X PyProof.Rows PySem.Spec PyProof.Rows.LCg PyProof.Rows.LCt
theorem pct {w : World} {s : Shared} {A : Around} {h₀ : Heap} {L b : Addr} {news : List (Addr × Obj)} {Q : Value → Shared → Prop} {E : Value → Shared → Prop} {x y : Str} {t t1 t2 : Tok} (hx : x.length ≤ 100) (hy : y.length ≤ 100)
    (N : News h₀ L s.heap news) (hb : (b, tup2 (.str x t1) (.str y t2)) ∈ news) (h : ∀ t' k, Q (.str (x ++ Str.ofString ": " ++ y) t') { s with toks := k }) :
    wpAny (model P w) A (binaryOp .Mod (.str (Str.ofString "%s: %s") t) (.ref b)) Q E s := by
  refine' KPt.mod_tuple N hb ?F ?m ?_
  case F => kpt_eq
  case m => kpt_run
  intro t' k
  have := h t' k
  exact this
end
section
open PySem PySem.W PySem.W.X PyProof.Rows PySem.Spec PyProof.Rows.LCg PyProof.Rows.LCt
local macro_rules | `(tactic| k_mem) => `(tactic| first | assumption | (refine List.Mem.tail _ ?_; k_mem))
local macro_rules | `(tactic| walk_at "eval ListComp") => `(tactic| (k_here; k_dflt (refine LCg.ListComp_U (F₀ := by k_asm) (by with_unfolding_all rfl) (by decide) (by rfl) (by decide) (by rfl) ?_)))
local macro_rules | `(tactic| walk_at "CompSrc") => `(tactic| (k_here; k_dflt (refine' LCg.CompSrc.ledger ?ra ?rb ?rc ?rm ?rg ?_)))
local macro_rules | `(tactic| walk_at "call builtin:str.join") => `(tactic| (k_here; k_dflt (refine' join_listW ?l ?i ?s ?w ?_; (case l => exact News.isList (by k_asm) (by k_mem)); (case i => exact kitStrs (by assumption)); (case s => decide); (case w => first | assumption | decide +kernel); k_whole); intro t' tk'))
local macro_rules | `(tactic| walk_at "binaryOp Mod str ref") => `(tactic| (k_here; k_dflt (refine' pct ?x ?y ?N ?b ?_; (case N => k_asm); (case b => k_mem); (case x => assumption); (case y => assumption); k_whole); intro t' tk'))
local macro_rules | `(tactic| walk_at "binaryOp Add ref ref") => `(tactic| (k_here; k_dflt (refine' cat_K ?F ?N ?a ?b ?z ?_; (case F => k_asm); (case N => k_asm); (case a => k_mem); (case b => k_mem); (case z => (simp only [List.length_cons, List.length_nil]; have q9 := sizeLine_eq; omega)); k_whole); intro D' h' F' N' l1; (try k_lt l1); (try k_sweep)))
section
variable {w : World} {s : Shared} {A₀ : Around} {base h₀ : Heap} {outer : List Env} {env : Env}
  {L : Addr} {m : Str → Option Value} {news : List (Addr × Obj)} {mean : ExcName → Option Value} {mg mb : Str → Option Value} {Q : Value → Shared → Prop} {E : Value → Shared → Prop}
theorem okName_len {x : Str} (h : x ∈ okNames) : x.length ≤ 100 := by
  have : ∀ y ∈ okNames, y.length ≤ 100 := by decide +kernel
  exact this x h
theorem okVal_len {x : Str} (h : x ∈ okVals) : x.length ≤ 100 := by
  have : ∀ y ∈ okVals, y.length ≤ 100 := by decide +kernel
  exact this x h
theorem StrsAre.append {vs ws : List Value} {xs ys : List Str} (h : StrsAre vs xs) (k : StrsAre ws ys) : StrsAre (vs ++ ws) (xs ++ ys) := by
  induction h with
  | nil => exact k
  | cons _ ih => exact .cons ih
theorem sum_len {c : Nat} : ∀ (xs : List Str), (∀ x ∈ xs, x.length ≤ c) → (xs.map (·.length)).sum ≤ c * xs.length
  | [], _ => by simp
  | x :: xs, h => by
    have h1 := sum_len xs (fun y hy => h y (.tail _ hy))
    have h2 := h x (.head _)
    rw [List.map_cons, List.sum_cons, List.length_cons, Nat.mul_add, Nat.mul_one]
    omega
def lineT (p : Str × Str) : Str := p.1 ++ Str.ofString ": " ++ p.2
theorem lineT_len {p : Str × Str} (h1 : p.1.length ≤ 100) (h2 : p.2.length ≤ 100) : (lineT p).length ≤ 202 := by
  unfold lineT
  rw [PySem.Str.length_append, PySem.Str.length_append]
  have : (Str.ofString ": ").length = 2 := by decide +kernel
  omega
theorem StrsAre.length {vs : List Value} {xs : List Str} (h : StrsAre vs xs) : vs.length = xs.length := by
  induction h with
  | nil => rfl
  | cons _ ih => rw [List.length_cons, List.length_cons, ih]
theorem str_K {tk0 : Tok} {self d l : Addr} {vs : List Value} {n : Nat} {ps : List (Str × Str)}
    (T : Top hd.view_39 loose mean mg mb h₀) (KX : (hd.heap_39 w.params).In h₀) (B : Below A₀ base outer h₀) (F : Fr h₀ L s.heap m)
    (N : News h₀ L s.heap ((l, listOf vs.toArray n) :: (self, instObj 175 d) :: (d, headD w tk0 l) :: news)) (hf : env.frame = some L) (hke : env.scope.kind = .function)
    (hps : PairsIn news vs ps) (hok : ∀ p ∈ ps, p.1 ∈ okNames ∧ p.2 ∈ okVals) (hlen : ps.length ≤ 1000)
    (h : ∀ h' tk t', Fr h₀ L h' m → News h₀ L h' ((l, listOf vs.toArray n) :: (self, instObj 175 d) :: (d, headD w tk0 l) :: news) → Q (.str (Txt.join (Str.ofString "\r\n") (ps.map lineT ++ [Str.ofString "", Str.ofString ""])) t') { s with heap := h', toks := tk }) :
    wpAny (model PySem.Challenge.rw_mr0247_01.row.toRowW.prog w) (AK 450 1200 (env :: outer)) (PySem.call (.ref 151) [.ref self] []) Q E s := by
  revert KX; k_fill; intro KX
  w_on
  w_strict (repeat (first | (k_unfold; (try dsimp only)) | walk1 | (dsimp only; walk1)))
  case ra => rfl
  case rb => k_asm
  case rc => k_asm
  case rm => k_mem
  case rg => rw [List.size_toArray, hps.length]; exact Nat.le_trans hlen (by decide)
  intro g9
  have hlen9 : vs.toArray.size = ps.length := by rw [List.size_toArray, hps.length]
  refine restU_ind (fun i ys => StrsAre ys ((ps.take i).map lineT)) .nil ?fin ?step
  case fin =>
    intro ys hy D9 h9 tk9 F9 N9 off9
    replace N9 : News _ _ _ ((D9, listOf ys.toArray ys.length) :: _) := N9
    rw [hlen9, List.take_length] at hy
    have hyl : ys.length ≤ 1000 := by rw [StrsAre.length hy, List.length_map]; exact hlen
    w_strict (repeat (first | (k_unfold; (try dsimp only)) | walk1 | (dsimp only; walk1)))
    refine' join_listW (ys := ps.map lineT ++ [Str.ofString "", Str.ofString ""]) ?l ?i ?s ?w ?_
    case l => exact News.isList (by k_asm) (by k_mem)
    case i => exact kitStrs (StrsAre.append hy (.cons (.cons .nil)))
    case s => decide
    case w =>
      have h1 := sum_len (c := 202) (ps.map lineT ++ [Str.ofString "", Str.ofString ""]) (by
        intro x hx
        rcases List.mem_append.mp hx with hx | hx
        · obtain ⟨p, hp, rfl⟩ := List.mem_map.mp hx
          exact lineT_len (okName_len (hok p hp).1) (okVal_len (hok p hp).2)
        · have : ∀ y ∈ [Str.ofString "", Str.ofString ""], y.length ≤ 202 := by decide +kernel
          exact this x hx)
      rw [List.length_append, List.length_map] at h1 ⊢
      simp only [List.length_cons, List.length_nil] at h1 ⊢
      omega
    intro t' tk'
    w_strict (repeat (first | (k_unfold; (try dsimp only)) | walk1 | (dsimp only; walk1)))
    rename News h₀ L _ _ => kN9
    exact h _ _ _ (by assumption) (fun p hp => kN9 p (by repeat (first | exact hp | refine List.Mem.tail _ ?_)))
  case step =>
    intro i ys hi hj R hR v I oI C oC D m₂ h9 tk9 E' hv hC hm9 F9 N9 off9 ne9
    obtain ⟨a, u1, u2, x9, y9, rfl, hpi, hmem⟩ := hps.get (by simpa using hv)
    have hx9 := hok (x9, y9) (List.mem_of_getElem? hpi)
    have hx8 : x9.length ≤ 100 := okName_len hx9.1
    have hy8 : y9.length ≤ 100 := okVal_len hx9.2
    w_strict (repeat (first | (k_unfold; (try dsimp only)) | walk1 | (dsimp only; walk1)))
    refine CompEnd.intro F9 N9 _ (fun p hp => hp) off9 (.inr ⟨_, by k_mem, rfl, _, rfl⟩) (hR _ ?_)
    rw [List.take_add_one, hpi, List.map_append]
    exact StrsAre.snoc (x := lineT (x9, y9)) hj
end
end
section
open PySem PySem.W PySem.W.X PyProof.Rows PySem.Spec PySem.Calls PyProof.Rows.LCg PyProof.Rows.LCt
section
variable {prog : Program} {w : World} {A : Around} {E : Value → Shared → Prop} {s : Shared} {h₀ : Heap} {L : Addr} {m : Str → Option Value} {env : Env}
def Step3 (prog : Program) (w : World) (A : Around) (h₀ : Heap) (L : Addr) (m : Str → Option Value) (env : Env) (elt : Expr) (x y z : Str) (scope : Scope) (cl : List (Str × Addr)) (s : Shared) (J : Nat → List Value → List (Addr × Obj) → Prop) (i : Nat) (ys : List Value) (nw : List (Addr × Obj)) (v1 v2 v3 : Value) : Prop :=
  ∀ I oI C oC D m₂ h tk (E' : Value → Shared → Prop), NsObj oC m₂ → m₂ x = some v1 → m₂ y = some v2 → m₂ z = some v3 → Fr h₀ L h m → News h₀ L h ((I, oI) :: (C, oC) :: (D, lst ys) :: nw) → Off3 I C D nw → ((@Ne Nat I C) ∧ (@Ne Nat I D) ∧ (@Ne Nat C D)) →
    wpAny (model prog w) A (eval elt (compEnvC scope cl C env)) (CompEnd h₀ L m { s with heap := h, toks := tk } I oI C oC D (lst ys) (fun _ => True) (fun q nw' => J (i + 1) (ys ++ [q]) nw')) E' { s with heap := h, toks := tk }
def Src3 (prog : Program) (w : World) (A : Around) (h₀ : Heap) (L : Addr) (m : Str → Option Value) (env : Env) (elt : Expr) (x y z : Str) (scope : Scope) (cl : List (Str × Addr)) (Q : Value → Shared → Prop) (xv : Value) (s₁ : Shared) : Prop :=
  ∃ (ax : Addr) (its : Array Value) (k : Nat) (news : List (Addr × Obj)) (J : Nat → List Value → List (Addr × Obj) → Prop), xv = .ref ax ∧ A.handled = none ∧ Fr h₀ L s₁.heap m ∧ News h₀ L s₁.heap news ∧ its.size ≤ sizeLine ∧ J 0 [] news ∧
    (∀ i ys nw, J i ys nw → (ax, listOf its k) ∈ nw) ∧
    (∀ i ys nw v, J i ys nw → its[i]? = some v → ∃ (t : Addr) (n : Nat) (v1 v2 v3 : Value), v = .ref t ∧ (t, listOf #[v1, v2, v3] n) ∈ nw ∧ Step3 prog w A h₀ L m env elt x y z scope cl s₁ J i ys nw v1 v2 v3) ∧
    (∀ ys nw, J its.size ys nw → ∀ D h tk, Fr h₀ L h m → News h₀ L h ((D, lst ys) :: nw) → Off1 D nw → Q (.ref D) { s₁ with heap := h, toks := tk })
theorem assign_list {elts : List Expr} {k : Nat} {pos : Pos} {l : Addr} {items : Array Value} {Q : Unit → Shared → Prop} (hh : A.handled = none) (hl : s.heap.IsList l items) (hn : (assignEach elts env).length = items.size) (hstar : (assignEach elts env).findIdx? (·.1) = none)
    (h : ∀ h', Heap.ExtBut s.heap.objs.size s.heap h' → wpAny (model prog w) A (assignInOrder ((assignEach elts env).map (·.2)) items.toList) Q E { s with heap := h' }) :
    wpAny (model prog w) A (assign (.Tuple elts k pos) env (.ref l)) Q E s := by
  rw [assign_Tuple]
  refine wpAny_bind (wpAny_standAt ?_)
  unfold unpack
  rw [hn, hstar]
  exact wpAny_bind (wpAny_holding (kun_itemsOf hh hl h))
theorem block3 {elt iter : Expr} {x y z : Str} {px py pz tp : Pos} {tk0} {scope : Scope} {cl : List (Str × Addr)} {pos : Pos} {s₁ : Shared} {I ax : Addr} {its : Array Value} {k : Nat} {news : List (Addr × Obj)} {J : Nat → List Value → List (Addr × Obj) → Prop} {RR : Value → Addr → Result → Shared → Prop}
    (hh : A.handled = none) (hcell : ∀ q ∈ scope.names, q.2 ≠ .cell) (hkind : scope.kind = .function)
    (hx : scope.names.lookup x = some .local) (hy : scope.names.lookup y = some .local) (hz : scope.names.lookup z = some .local)
    (hxy : x ≠ y) (hxz : x ≠ z) (hyz : y ≠ z) (itI : s₁.heap.IsListIter I ax 0) (hI1 : s₁.heap.objs.size = I + 1) (hLlt : L < I) (fresh₀ : ∀ a, I ≤ a → h₀.get? a = none) (hlt0 : ∀ p ∈ news, p.1 < I)
    (F : Fr h₀ L s₁.heap m) (N : News h₀ L s₁.heap news) (hsz : its.size ≤ sizeLine) (hJ0 : J 0 [] news) (hsrc : ∀ i ys nw, J i ys nw → (ax, listOf its k) ∈ nw)
    (hstep : ∀ i ys nw v, J i ys nw → its[i]? = some v → ∃ (t : Addr) (n : Nat) (v1 v2 v3 : Value), v = .ref t ∧ (t, listOf #[v1, v2, v3] n) ∈ nw ∧ Step3 prog w A h₀ L m env elt x y z scope cl s₁ J i ys nw v1 v2 v3)
    (hRR : ∀ D C h tk m' ys nw, J its.size ys nw → Fr h₀ L h m → News h₀ L h ((D, lst ys) :: nw) → Off1 D nw → h.Ns C m' → h₀.get? C = none → C ≠ L → C ≠ D → (∀ p ∈ nw, p.1 ≠ C) → RR (.ref D) C (.ok .next) { s₁ with heap := h, toks := tk }) :
    wpAny (model prog w) A (newList []) (fun acc s₃ => wpAny (model prog w) A (newFunctionEnv scope env.globals cl [] env.qual none .none (some env)) (fun cenv s₄ =>
      codeAny (model prog w) A (.compStart (.ListComp elt [⟨.Tuple [.Name x px, .Name y py, .Name z pz] tk0 tp, iter, [], 0⟩] scope pos) 0 (.ref I) acc { cenv with scope := relabel scope env }) (RR acc cenv.locals) s₄) E s₃) E s₁ := by
  refine wpAny_newObj_type (wpAny_newFunctionEnv hcell (by intro q hq; simp at hq) (fun h₁ hns₁ hsb₁ => ?_) hkind)
  dsimp only at hns₁ hsb₁ ⊢
  generalize hH2 : s₁.heap.push { cls := .type "list", dict := none, data := .seq ([] : List Value).toArray } = H2 at hns₁ hsb₁ ⊢
  generalize hD : s₁.heap.objs.size = D at *
  have hC2 : H2.objs.size = D + 1 := by rw [← hH2, Heap.size_push, hD]
  generalize hC : H2.objs.size = C at *
  subst hC2
  have up2 : ∀ b o, s₁.heap.get? b = some o → h₁.get? b = some o := fun b o e => hsb₁.extBut b o (by have := Heap.lt_size e; rw [hD] at this; exact Nat.ne_of_lt (Nat.lt_succ_of_lt this)) (Heap.get?_push_of_some _ (hH2 ▸ Heap.get?_push_of_some _ e))
  have hacc : h₁.get? D = some (lst []) := hsb₁.extBut _ _ (Nat.ne_of_lt (Nat.lt_succ_self _)) (Heap.get?_push_of_some _ (by rw [← hH2, ← hD]; exact Heap.get?_push_size _ rfl))
  have hID : I ≠ D := by rw [hI1]; exact Nat.ne_of_lt (Nat.lt_succ_self _)
  have hIC : I ≠ D + 1 := by rw [hI1]; exact Nat.ne_of_lt (Nat.lt_succ_of_lt (Nat.lt_succ_self _))
  have hDC : D ≠ D + 1 := Nat.ne_of_lt (Nat.lt_succ_self _)
  have hIleD : I ≤ D := by rw [hI1]; exact Nat.le_succ _
  have hLI : L ≠ I := Nat.ne_of_lt hLlt
  have hLD : L ≠ D := Nat.ne_of_lt (Nat.lt_of_lt_of_le hLlt hIleD)
  have hLC : L ≠ D + 1 := Nat.ne_of_lt (Nat.lt_succ_of_lt (Nat.lt_of_lt_of_le hLlt hIleD))
  have off0 : Off3 I (D + 1) D news := Off3.of fun p hp => by
    have q := hlt0 p hp
    exact ⟨Nat.ne_of_lt q, Nat.ne_of_lt (Nat.lt_succ_of_lt (Nat.lt_of_lt_of_le q hIleD)), Nat.ne_of_lt (Nat.lt_of_lt_of_le q hIleD)⟩
  let Inv : Nat → Shared → Prop := fun k' s' => ∃ h' tk i ys m' nw, s' = { s₁ with heap := h', toks := tk } ∧ i ≤ its.size ∧ k' = its.size + 1 - i ∧ ys.length = i ∧ h'.IsListIter I ax i ∧ Fr h₀ L h' m ∧ h'.Ns (D + 1) m' ∧ News h₀ L h' ((D, lst ys) :: nw) ∧ Off3 I (D + 1) D nw ∧ J i ys nw
  have loop : ∀ s₃ : Shared, s₃ = { s₁ with heap := h₁, toks := s₁.toks + ([] : List (Str × Value)).length } →
      codeAny (model prog w) A (.compLoop (.ListComp elt [⟨.Tuple [.Name x px, .Name y py, .Name z pz] tk0 tp, iter, [], 0⟩] scope pos) 0 (.ref I) (.ref D) (compEnvC scope cl (D + 1) env)) (RR (.ref D) (D + 1)) s₃ := by
    rintro s₃ rfl
    refine PyProof.Rows.LCp.codeAny_compLoop_pair Inv ?_ (its.size + 1) ⟨h₁, _, 0, [], _, news, rfl, Nat.zero_le _, rfl, rfl, ?_, F.keeps up2, hns₁, ?_, off0, hJ0⟩
    · rintro k' s' ⟨h', tk, i, ys, m', nw, rfl, hi, rfl, hyl, hit, F', hn', N', off', hJ'⟩
      have off3 := off'.mem
      have Nnw : News h₀ L h' nw := fun p hp => N' p (.tail _ hp)
      have hsl : h'.IsList ax its := ⟨_, (Nnw _ (hsrc _ _ _ hJ')).1, rfl, _, rfl⟩
      by_cases hlt' : i < its.size
      · obtain ⟨t, n, v1, v2, v3, hv, hmt, hst⟩ := hstep i ys nw its[i] hJ' (by simp [hlt'])
        refine wpAny_pyNext_list_item hit hsl (x := its[i]) (by simp [hlt']) fun h₂ hit₂ hs₂ => ?_
        rw [hv]
        have N₂ : News h₀ L h₂ ((D, lst ys) :: nw) := fun p hp => by
          refine ⟨hs₂.extBut _ _ ?_ (N' p hp).1, (N' p hp).2⟩
          rcases List.mem_cons.mp hp with rfl | hp
          · exact Ne.symm hID
          · exact (off3 p hp).1
        have ht : h₂.IsList t #[v1, v2, v3] := ⟨_, (N₂ _ (.tail _ hmt)).1, rfl, _, rfl⟩
        refine wpAny_letOwnedTupleGo_listiter hit₂ ?_
        refine assign_list hh ht rfl rfl fun h₅ he => ?_
        have he' : ∀ b o, h₂.get? b = some o → h₅.get? b = some o := fun b o e => he b o (Nat.ne_of_lt (Heap.lt_size e)) e
        have hn2 : h₂.Ns (D + 1) m' := hn'.at' fun o e => hs₂.extBut _ o (Ne.symm hIC) e
        refine assignInOrder_cons (wpAny_assign_Name (wpAny_storeName_local (lookup_relabel_local hx) (hn2.at' fun o e => he' _ o e) (fun h₆ hn₆ hs₆ => ?_) (by simp [compEnvC, relabel, hkind])))
        refine assignInOrder_cons (wpAny_assign_Name (wpAny_storeName_local (lookup_relabel_local hy) hn₆ (fun h₇ hn₇ hs₇ => ?_) (by simp [compEnvC, relabel, hkind])))
        refine assignInOrder_cons (wpAny_assign_Name (wpAny_storeName_local (lookup_relabel_local hz) hn₇ (fun h₃ hn₃ hs₃ => ?_) (by simp [compEnvC, relabel, hkind])))
        refine assignInOrder_nil ?_
        have old3 : ∀ b o, b ≠ D + 1 → h₂.get? b = some o → h₃.get? b = some o := fun b o hb e => hs₃.extBut b o hb (hs₇.extBut b o hb (hs₆.extBut b o hb (he' b o e)))
        obtain ⟨oI, heI, hoI⟩ := hit₂
        have heI3 : h₃.get? I = some oI := old3 _ _ hIC heI
        obtain ⟨oC, heC, hoC⟩ := ns_obj hn₃
        have F₂ : Fr h₀ L h₂ m := fr_but F' (I := I) (fun b o hb e => hs₂.extBut b o (by simpa using hb) e) hLI (fresh₀ I (Nat.le_refl _))
        have hC0 : h₀.get? (D + 1) = none := fresh₀ _ (Nat.le_succ_of_le hIleD)
        have F₃ : Fr h₀ L h₃ m := (((F₂.keeps he').change hs₆ (Ne.symm hLC) hC0).change hs₇ (Ne.symm hLC) hC0).change hs₃ (Ne.symm hLC) hC0
        have N₃ : News h₀ L h₃ ((I, oI) :: (D + 1, oC) :: (D, lst ys) :: nw) := fun p hp => by
          rcases List.mem_cons.mp hp with rfl | hp
          · exact ⟨heI3, Ne.symm hLI, fresh₀ _ (Nat.le_refl _)⟩
          · rcases List.mem_cons.mp hp with rfl | hp
            · exact ⟨heC, Ne.symm hLC, hC0⟩
            · refine ⟨old3 _ _ ?_ (N₂ p hp).1, (N₂ p hp).2⟩
              rcases List.mem_cons.mp hp with rfl | hp
              · exact hDC
              · exact (off3 p hp).2.1
        refine wpAny_mono (hst I oI (D + 1) oC D _ h₃ _ _ hoC (by simp [hxy, hxz]) (by simp [hyz]) (by simp) F₃ N₃ off' ⟨hIC, hID, Ne.symm hDC⟩) (fun q s₄ h₄ => ?_) fun _ _ e => e
        obtain ⟨h₄, tk₄, news₄, rfl, F₄, N₄, off₄, _, R₄⟩ := h₄
        have zI := (N₄ (I, oI) (.head _)).1
        have zC := (N₄ (D + 1, oC) (.tail _ (.head _))).1
        have zD := (N₄ (D, lst ys) (.tail _ (.tail _ (.head _)))).1
        have N₄' : News h₀ L h₄ news₄ := fun p hp => N₄ p (.tail _ (.tail _ (.tail _ hp)))
        refine append_at (hsz := by show ys.toArray.size ≤ sizeLine; rw [List.size_toArray, hyl]; exact Nat.le_trans hi hsz) zD fun h₈ hs₈ hD₈ => ?_
        have off4 := off₄.mem
        refine ⟨its.size + 1 - (i + 1), by omega, h₈, tk₄, i + 1, ys ++ [q], _, news₄, rfl, hlt', rfl, by rw [List.length_append, List.length_singleton, hyl], ⟨oI, hs₈.extBut _ _ hID zI, hoI⟩, F₄.change hs₈ (Ne.symm hLD) (fresh₀ _ hIleD),
          (hoC.ns zC).sameBut hs₈ (Ne.symm hDC), ?_, off₄, R₄⟩
        intro p hp
        rcases List.mem_cons.mp hp with rfl | hp
        · exact ⟨hD₈.trans (congrArg some (lst_snoc ys q)), Ne.symm hLD, fresh₀ _ hIleD⟩
        · exact ⟨hs₈.extBut _ _ (off4 p hp).2.2 (N₄' p hp).1, (N₄' p hp).2⟩
      · obtain rfl : i = its.size := Nat.le_antisymm hi (Nat.not_lt.mp hlt')
        refine wpAny_pyNext_list_end hh hit hsl (by simp) fun h₂ he₂ => ?_
        have hC0 : h₀.get? (D + 1) = none := fresh₀ _ (Nat.le_succ_of_le hIleD)
        refine hRR _ _ h₂ _ _ ys nw hJ' (fr_but F' (I := I) (fun b o hb e => he₂ b o (by simpa using hb) e) hLI (fresh₀ I (Nat.le_refl _))) (fun p hp => ?_) off'.one (hn'.at' fun o e => he₂ _ o (Ne.symm hIC) e) hC0 (Ne.symm hLC) (Ne.symm hDC) (fun p hp => (off3 p hp).2.1)
        refine ⟨he₂ _ _ ?_ (N' p hp).1, (N' p hp).2⟩
        rcases List.mem_cons.mp hp with rfl | hp
        · exact Ne.symm hID
        · exact (off3 p hp).1
    · obtain ⟨o, e, r⟩ := itI
      exact ⟨o, up2 _ _ e, r⟩
    · intro p hp
      rcases List.mem_cons.mp hp with rfl | hp
      · exact ⟨hacc, Ne.symm hLD, fresh₀ _ hIleD⟩
      · exact ⟨up2 _ _ (N p hp).1, (N p hp).2⟩
  refine codeAny_compStart_list (loop _ rfl) ?_
  have itI1 : h₁.IsListIter I ax 0 := by obtain ⟨o, e, r⟩ := itI; exact ⟨o, up2 _ _ e, r⟩
  exact wpAny_pyIter_listiter itI1 (loop _ rfl)
theorem comp3 {elt iter : Expr} {x y z : Str} {px py pz tp : Pos} {tk0} {scope : Scope} {cl : List (Str × Addr)} {pos : Pos} {Q : Value → Shared → Prop} (F₀ : Fr h₀ L s.heap m)
    (hclos : closureFor scope env = pure cl) (hcell : ∀ q ∈ scope.names, q.2 ≠ .cell) (hkind : scope.kind = .function)
    (hnames : ∀ q ∈ scope.names, q.2 = .local → scope.names.lookup q.1 = some .local) (hx : scope.names.lookup x = some .local) (hy : scope.names.lookup y = some .local) (hz : scope.names.lookup z = some .local)
    (hxy : x ≠ y) (hxz : x ≠ z) (hyz : y ≠ z)
    (h : wpAny (model prog w) A (eval iter env) (Src3 prog w A h₀ L m env elt x y z scope cl Q) E s)
    (hs : ∀ x, foldedSetIterable iter env x = pure x := by intro _; rfl) :
    wpAny (model prog w) A (eval (.ListComp elt [⟨.Tuple [.Name x px, .Name y py, .Name z pz] tk0 tp, iter, [], 0⟩] scope pos) env) Q E s := by
  rw [eval_ListComp]
  refine wpAny_comprehension_free (use := none) rfl hs hclos hkind hnames (wpAny_mono h (fun xv s₁ h₁ => ?_) fun _ _ e => e)
  obtain ⟨ax, its, k, news, J, rfl, hh, F, N, hsz, hJ0, hsrc, hstep, hfin⟩ := h₁
  have hl : s₁.heap.IsList ax its := ⟨_, (N _ (hsrc _ _ _ hJ0)).1, rfl, _, rfl⟩
  refine wpAny_pyIter_list hl ?_
  have up1 : ∀ b o, s₁.heap.get? b = some o → (s₁.heap.push { cls := .type "list_iterator", data := .fields #[.ref ax, .int 0 0] }).get? b = some o := fun b o e => Heap.get?_push_of_some _ e
  refine block3 (J := J) (k := k) hh hcell hkind hx hy hz hxy hxz hyz ⟨_, Heap.get?_push_size _ rfl, rfl, rfl⟩ (Heap.size_push _ _) F.ns.lt ?_ (fun p hp => Heap.lt_size (N p hp).1) (F.keeps up1) (N.grown up1) hsz hJ0 hsrc hstep ?_
  · intro a ha
    cases e : h₀.get? a with
    | none => rfl
    | some o' => exact absurd (Heap.lt_size (F.keep a o' e)) (Nat.not_lt.mpr ha)
  · intro D C h tk m' ys nw hJ F' N' o1 hn hC₀ hCL hCD offC
    refine ⟨m', hn, fun h'' hs'' => hfin ys nw hJ D h'' tk (F'.change hs'' hCL hC₀) (fun p hp => ?_) o1⟩
    refine ⟨hs''.extBut _ _ ?_ (N' p hp).1, (N' p hp).2⟩
    rcases List.mem_cons.mp hp with rfl | hp
    · exact Ne.symm hCD
    · exact offC p hp
end
end
section
open PySem PySem.W PySem.W.X PyProof.Rows PySem.Spec PySem.Calls PyProof.Rows.LCg PyProof.Rows.LCt
section
variable {prog : Program} {w : World} {A : Around} {E : Value → Shared → Prop} {s : Shared} {env : Env} {h₀ : Heap} {x : Str} {body : List Stmt} {Q : Flow → Shared → Prop}
def LoopPlan (prog : Program) (w : World) (A : Around) (h₀ : Heap) (env : Env) (x : Str) (body : List Stmt) (Q : Flow → Shared → Prop) (E : Value → Shared → Prop) (s : Shared) (n : Nat) (a st : Int) (m₀ : Str → Option Value) (news : List (Addr × Obj)) : Prop :=
  ∃ J : Nat → (Str → Option Value) → List (Addr × Obj) → Prop, J 0 m₀ news ∧
    (∀ i t m₁ nx h tk own, i < n → OwnOff own (nx.map (·.1)) → (∀ p ∈ own, p.2.cls ≠ .type "tuple" ∧ p.2.cls ≠ .type "list") → J i m₁ nx → Fr h₀ env.locals h (fun y => if y = x then some (.int (a + i * st) t) else m₁ y) → News h₀ env.locals h (nx ++ own) →
      wpAny (model prog w) A (execs body env) (InvPostG h₀ env.locals (J (i + 1)) own { s with heap := h, toks := tk } Q) E { s with heap := h, toks := tk }) ∧
    (∀ m₁ nx h tk, J n m₁ nx → Fr h₀ env.locals h m₁ → News h₀ env.locals h nx → Q .next { s with heap := h, toks := tk })
theorem loopR {r : Addr} {a b st : Int} {t₀ u₀ v₀ : Tok} {n : Nat} {m₀ : Str → Option Value} {news : List (Addr × Obj)} (hh : A.handled = none) (hr : IsRange s.heap r a b st t₀ u₀ v₀) (hsmall : Builtin.Range.small a b st = true) (hsz : Builtin.Range.rangeSize a b st = (n : Int))
    (F : Fr h₀ env.locals s.heap m₀) (N : News h₀ env.locals s.heap news) (h : LoopPlan prog w A h₀ env x body Q E s n a st m₀ news) :
    wpAny (model prog w) A (pyIter (.ref r)) (fun it s₂ => LoopAtV prog w A h₀ env x body Q E it s₂) E s := by
  obtain ⟨J, h0, hturn, hdone⟩ := h
  refine wpAny_pyIter_range hr hsmall ?_
  have W : Walks prog w A s.heap.objs.size [s.heap.objs.size] [s.heap.objs.size] n (fun i v => i < n ∧ ∃ t, v = .int (a + i * st) t)
      (fun i h => IsRangeIter h s.heap.objs.size (a + (i : Nat) * st) ((n : Int) - (i : Nat)) st) := (Walks.range hh _ a st n).bound
  refine ⟨s.heap.objs.size, [s.heap.objs.size], [s.heap.objs.size], n, _, _, m₀, news, J, rfl, W, ?_, ?_, ?_, (by show IsRangeIter _ _ _ _ _; rw [hsz]; simpa using Heap.get?_push_size _ rfl), F.push _, (fun p hp => ⟨Heap.get?_push_of_some _ (N p hp).1, (N p hp).2⟩), h0, ?_, ?_⟩
  · intro hm
    exact absurd F.ns.lt ((List.mem_singleton.mp hm) ▸ Nat.lt_irrefl _)
  · intro b hb
    rw [List.mem_singleton.mp hb]
    exact next_is_new F
  · intro p hp hI
    exact absurd (Heap.lt_size (N p hp).1) ((List.mem_singleton.mp hI) ▸ Nat.lt_irrefl _)
  · rintro i v m₁ news₁ s₁ own ⟨hh', tk', rfl⟩ hin ⟨_, t, rfl⟩ hJ hoff hown hget hmem hst' F₁ N₁
    have hsep : OwnOff own (news₁.map (·.1)) := by
      intro p hp b hb e
      obtain ⟨q, hq, rfl⟩ := List.mem_map.mp hb
      exact hoff q hq (e ▸ hown p hp)
    have hno : ∀ p ∈ own, p.2.cls ≠ .type "tuple" ∧ p.2.cls ≠ .type "list" := by
      intro p hp
      have e1 := List.mem_singleton.mp (hown p hp)
      have e2 := hget p hp
      rw [e1, show Heap.get? _ _ = some _ from hst'] at e2
      have e3 := congrArg Obj.cls (Option.some.inj e2)
      refine ⟨fun hc => ?_, fun hc => ?_⟩ <;> (rw [hc] at e3; exact absurd (Value.type.inj e3) (by decide))
    have N₂ : News h₀ env.locals hh' (news₁ ++ own) := fun p hp => N₁ p ((List.mem_append.mp hp).elim (fun h => List.mem_append.mpr (.inr h)) fun h => List.mem_append.mpr (.inl h))
    refine wpAny_mono (hturn i t m₁ news₁ hh' tk' own hin hsep hno hJ F₁ N₂) (fun f s₂ p => ?_) fun _ _ e => e
    have fin : InvEndG h₀ env.locals (J (i + 1)) own { s with heap := hh', toks := tk' } s₂ → LoopStepU h₀ env.locals [s.heap.objs.size] own (J (i + 1)) { s with heap := hh', toks := tk' } .next s₂ := by
      rintro ⟨h', tk, m', news', nx, e, F', N', hn, ho, ha, hm⟩
      refine ⟨rfl, h', tk, m', nx, e, F', fun p hp => N' p ((List.mem_append.mp hp).elim (ho p) (hn p)), fun p hp hq => ?_, hm⟩
      have hq' := List.mem_singleton.mp hq
      exact ha _ (hmem _ (.head _) (next_is_new F) _ hst') p.1 (List.mem_map.mpr ⟨p, hp, rfl⟩) hq'.symm
    cases f with
    | ret v => exact .ret p
    | brk => exact .brk p
    | next => exact .next (fin p)
    | cont => exact .cont (fin p)
  · rintro h' tk m' news' F' N' _ hJ
    exact hdone m' news' h' tk hJ F' N'
end
end
section
open PySem PySem.W PySem.W.X PyProof.Rows PySem.Spec PyProof.Rows.LCg PyProof.Rows.LCt
def grN (x : Str) : Str := ((["content-type", "etag", "x-a-b", "host", "x--y"] : List Str).zip (["Content-Type", "Etag", "X-A-B", "Host", "X--Y"] : List Str) |>.lookup x).getD x
abbrev R3 := Str × Str × Str
def f1 (p : R3) : Str × Str := (p.2.1, p.2.2)
def f2 (p : R3) : Str × Str := (grN p.1, p.2.2)
def RowG (p : R3) : Prop := ∃ i j, i < 5 ∧ j < 3 ∧ p.1 = nmS i ∧ p.2.1 = wrS i j ∧ p.2.2 ∈ okVals
theorem case5 {Pr : Nat → Prop} (h : ∀ i ∈ [0, 1, 2, 3, 4], Pr i) {i : Nat} (hi : i < 5) : Pr i := by
  obtain rfl | rfl | rfl | rfl | rfl : i = 0 ∨ i = 1 ∨ i = 2 ∨ i = 3 ∨ i = 4 := by omega
  all_goals exact h _ (by simp)
theorem case3 {Pr : Nat → Prop} (h : ∀ i ∈ [0, 1, 2], Pr i) {i : Nat} (hi : i < 3) : Pr i := by
  obtain rfl | rfl | rfl : i = 0 ∨ i = 1 ∨ i = 2 := by omega
  all_goals exact h _ (by simp)
theorem low_wr {i j : Nat} (hi : i < 5) (hj : j < 3) : low (wrS i j) = nmS i :=
  case5 (Pr := fun i => low (wrS i j) = nmS i) (fun i hi => case3 (Pr := fun j => low (wrS i j) = nmS i) (by revert i; decide +kernel) hj) hi
theorem low_gr {i : Nat} (hi : i < 5) : low (grS i) = nmS i := case5 (Pr := fun i => low (grS i) = nmS i) (by decide +kernel) hi
theorem grN_nm {i : Nat} (hi : i < 5) : grN (nmS i) = grS i := case5 (Pr := fun i => grN (nmS i) = grS i) (by decide +kernel) hi
theorem wr_ok {i j : Nat} (hi : i < 5) (hj : j < 3) : wrS i j ∈ okNames :=
  case5 (Pr := fun i => wrS i j ∈ okNames) (fun i hi => case3 (Pr := fun j => wrS i j ∈ okNames) (by revert i; decide +kernel) hj) hi
theorem gr_ok {i : Nat} (hi : i < 5) : grS i ∈ okNames := case5 (Pr := fun i => grS i ∈ okNames) (by decide +kernel) hi
theorem nm_ok {i : Nat} (hi : i < 5) : nmS i ∈ okNames := case5 (Pr := fun i => nmS i ∈ okNames) (by decide +kernel) hi
theorem RowG.low1 {p : R3} (h : RowG p) : low (f1 p).1 = p.1 := by obtain ⟨i, j, hi, hj, e1, e2, _⟩ := h; rw [e1]; show low p.2.1 = _; rw [e2]; exact low_wr hi hj
theorem RowG.low2 {p : R3} (h : RowG p) : low (f2 p).1 = p.1 := by obtain ⟨i, j, hi, hj, e1, e2, _⟩ := h; show low (grN p.1) = _; rw [e1, grN_nm hi]; exact low_gr hi
theorem filter_map_low {f : R3 → Str × Str} {x : Str} {g : Str → Str → Bool} : ∀ {rs : List R3}, (∀ p ∈ rs, low (f p).1 = p.1) → ((rs.map f).filter fun q => g (low q.1) x) = (rs.filter fun p => g p.1 x).map f
  | [], _ => rfl
  | p :: rs, h => by
    have ih := filter_map_low (g := g) (x := x) (fun q hq => h q (.tail _ hq))
    rw [List.map_cons, List.filter_cons, List.filter_cons, h p (.head _), ih]
    cases g p.1 x <;> simp
theorem find_map_low {f : R3 → Str × Str} {x : Str} : ∀ {rs : List R3}, (∀ p ∈ rs, low (f p).1 = p.1) → ((rs.map f).find? fun q => low q.1 == x) = (rs.find? fun p => p.1 == x).map f
  | [], _ => rfl
  | p :: rs, h => by
    have ih := find_map_low (x := x) (fun q hq => h q (.tail _ hq))
    rw [List.map_cons, List.find?_cons, List.find?_cons, h p (.head _), ih]
    cases p.1 == x <;> simp
theorem find_filter {x : Str} (rs : List R3) : (rs.find? fun p => p.1 == x).isSome = !(rs.filter fun p => p.1 == x).isEmpty := by
  induction rs with
  | nil => rfl
  | cons p rs ih =>
    rw [List.find?_cons, List.filter_cons]
    cases p.1 == x <;> simp [ih]
theorem deed_rows {f : R3 → Str × Str} {rs : List R3} {k : Int} {x wr v z : Str} (h : ∀ p ∈ rs, low (f p).1 = p.1) (hz : low z = x) (hf : f (x, wr, v) = (z, v)) (hk : k = 0 ∨ k = 1 ∨ k = 2 ∨ k = 3) :
    deedP k (rs.map f) z v = (rowsP k rs x wr v).map f := by
  have e1 := filter_map_low (x := x) (g := fun a b => a != b) h
  have e2 := find_map_low (x := x) h
  unfold deedP rowsP
  rw [hz]
  rcases hk with rfl | rfl | rfl | rfl
  · simp [hf]
  · simp only [show ¬ ((1:Int) = 0) by decide, if_false, if_true, List.map_append, List.map_cons, List.map_nil, hf]; rw [← e1]
  · simp only [show ¬ ((2:Int) = 0) by decide, show ¬ ((2:Int) = 1) by decide, if_false, if_true]; rw [← e1]
  · simp only [show ¬ ((3:Int) = 0) by decide, show ¬ ((3:Int) = 1) by decide, show ¬ ((3:Int) = 2) by decide, if_false]
    rw [e2, Option.isSome_map, find_filter]
    cases (rs.filter fun p => p.1 == x).isEmpty <;> simp [hf]
theorem rowsP_ok {rs : List R3} {k : Int} {x wr v : Str} {Pr : R3 → Prop} (h : ∀ p ∈ rs, Pr p) (hn : Pr (x, wr, v)) : ∀ p ∈ rowsP k rs x wr v, Pr p := by
  intro p hp
  unfold rowsP at hp
  split at hp
  · rcases List.mem_append.mp hp with hp | hp
    · exact h p hp
    · rw [List.mem_singleton.mp hp]; exact hn
  · split at hp
    · rcases List.mem_append.mp hp with hp | hp
      · exact h p (List.mem_filter.mp hp).1
      · rw [List.mem_singleton.mp hp]; exact hn
    · split at hp
      · exact h p (List.mem_filter.mp hp).1
      · split at hp
        · rcases List.mem_append.mp hp with hp | hp
          · exact h p hp
          · rw [List.mem_singleton.mp hp]; exact hn
        · exact h p hp
theorem rowsP_len {rs : List R3} {k : Int} {x wr v : Str} : (rowsP k rs x wr v).length ≤ rs.length + 1 := by
  unfold rowsP
  repeat' split
  all_goals (try rw [List.length_append, List.length_singleton])
  all_goals first | omega | exact Nat.le_succ_of_le (List.length_filter_le _ _) | exact Nat.succ_le_succ (List.length_filter_le _ _)
theorem RowG.ok {p : R3} (h : RowG p) : rowOk p := by
  obtain ⟨i, j, hi, hj, e1, e2, e3⟩ := h
  have a : ∀ y ∈ okNames, PyData.strOk y = true := by decide +kernel
  have b : ∀ y ∈ okVals, PyData.strOk y = true := by decide +kernel
  exact ⟨e1 ▸ a _ (nm_ok hi), e2 ▸ a _ (wr_ok hi hj), b _ e3⟩
theorem RowG.ok1 {p : R3} (h : RowG p) : (f1 p).1 ∈ okNames := by obtain ⟨i, j, hi, hj, e1, e2, e3⟩ := h; show p.2.1 ∈ _; rw [e2]; exact wr_ok hi hj
theorem RowG.ok2 {p : R3} (h : RowG p) : (f2 p).1 ∈ okNames := by obtain ⟨i, j, hi, hj, e1, e2, e3⟩ := h; show grN p.1 ∈ _; rw [e1, grN_nm hi]; exact gr_ok hi
end
section
open PySem PySem.W PySem.W.X PyProof.Rows PySem.Spec PyProof.Rows.LCg PyProof.Rows.LCt
structure Ap (cn cr l1 s1 d1 l2 s2 d2 r nu : Addr) (tl : List (Addr × Obj)) : Prop where
  fn : ∀ q ∈ [cr, l1, s1, d1, l2, s2, d2, r, nu], q ≠ cn
  fc : ∀ q ∈ [cn, l1, s1, d1, l2, s2, d2, r, nu], q ≠ cr
  fa : ∀ q ∈ [cn, cr, s1, d1, l2, s2, d2, r, nu], q ≠ l1
  fb : ∀ q ∈ [cn, cr, l1, s1, d1, s2, d2, r, nu], q ≠ l2
  fr : ∀ q ∈ [cn, cr, l1, s1, d1, l2, s2, d2, nu], q ≠ r
  ft : ∀ p ∈ tl, p.1 ≠ cn ∧ p.1 ≠ cr ∧ p.1 ≠ l1 ∧ p.1 ≠ l2 ∧ p.1 ≠ r
theorem Ap.grow {cn cr l1 s1 d1 l2 s2 d2 r nu : Addr} {tl new : List (Addr × Obj)} (ap : Ap cn cr l1 s1 d1 l2 s2 d2 r nu tl) (h : ∀ p ∈ new, p.1 ≠ cn ∧ p.1 ≠ cr ∧ p.1 ≠ l1 ∧ p.1 ≠ l2 ∧ p.1 ≠ r) : Ap cn cr l1 s1 d1 l2 s2 d2 r nu (new ++ tl) :=
  ⟨ap.fn, ap.fc, ap.fa, ap.fb, ap.fr, fun p hp => (List.mem_append.mp hp).elim (h p) (ap.ft p)⟩
theorem Ap.setR {cn cr l1 s1 d1 l2 s2 d2 r nu r' : Addr} {tl : List (Addr × Obj)} (ap : Ap cn cr l1 s1 d1 l2 s2 d2 r nu tl) (h : ∀ q ∈ [cn, cr, l1, s1, d1, l2, s2, d2, nu], q ≠ r') (ht : ∀ p ∈ tl, p.1 ≠ r') : Ap cn cr l1 s1 d1 l2 s2 d2 r' nu tl := by
  obtain ⟨n, c, a, b, r, t⟩ := ap
  simp only [List.forall_mem_cons] at n c a b r h
  refine ⟨?_, ?_, ?_, ?_, ?_, fun p hp => ?_⟩
  · simp only [List.forall_mem_cons]; exact ⟨n.1, n.2.1, n.2.2.1, n.2.2.2.1, n.2.2.2.2.1, n.2.2.2.2.2.1, n.2.2.2.2.2.2.1, Ne.symm h.1, n.2.2.2.2.2.2.2.2⟩
  · simp only [List.forall_mem_cons]; exact ⟨c.1, c.2.1, c.2.2.1, c.2.2.2.1, c.2.2.2.2.1, c.2.2.2.2.2.1, c.2.2.2.2.2.2.1, Ne.symm h.2.1, c.2.2.2.2.2.2.2.2⟩
  · simp only [List.forall_mem_cons]; exact ⟨a.1, a.2.1, a.2.2.1, a.2.2.2.1, a.2.2.2.2.1, a.2.2.2.2.2.1, a.2.2.2.2.2.2.1, Ne.symm h.2.2.1, a.2.2.2.2.2.2.2.2⟩
  · simp only [List.forall_mem_cons]; exact ⟨b.1, b.2.1, b.2.2.1, b.2.2.2.1, b.2.2.2.2.1, b.2.2.2.2.2.1, b.2.2.2.2.2.2.1, Ne.symm h.2.2.2.2.2.1, b.2.2.2.2.2.2.2.2⟩
  · simp only [List.forall_mem_cons]; exact h
  · obtain ⟨q1, q2, q3, q4, _⟩ := t p hp
    exact ⟨q1, q2, q3, q4, ht p hp⟩
theorem PairsIn.strip {A new tl own : List (Addr × Obj)} (hA : ∀ p ∈ A, ∀ u v, p.2 ≠ tup2 u v) (hO : ∀ p ∈ own, p.2.cls ≠ .type "tuple") {vs : List Value} {ps : List (Str × Str)} (h : PairsIn (new ++ (A ++ (tl ++ own))) vs ps) : PairsIn (new ++ tl) vs ps := by
  induction h with
  | nil => exact .nil
  | cons hm _ ih =>
    rcases List.mem_append.mp hm with hm | hm
    · exact .cons (List.mem_append_left _ hm) ih
    · rcases List.mem_append.mp hm with hm | hm
      · exact absurd rfl (hA _ hm _ _)
      · rcases List.mem_append.mp hm with hm | hm
        · exact .cons (List.mem_append_right _ hm) ih
        · exact absurd rfl (hO _ hm)
theorem no_lst {u v : Value} {i : Array Value} {n : Nat} : listOf i n ≠ tup2 u v := fun e => absurd (Value.type.inj (congrArg Obj.cls e)) (by decide)
theorem no_inst {u v : Value} {c d : Addr} : instObj c d ≠ tup2 u v := fun e => absurd (congrArg Obj.cls e) (by intro e; cases e)
theorem no_dict {w : World} {u v : Value} {t : Tok} {l : Addr} : headD w t l ≠ tup2 u v := fun e => absurd (Value.type.inj (congrArg Obj.cls e)) (by decide)
theorem no_cell {o : Obj} {u v : Value} (h : ∃ v, o.data = .cell v) : o ≠ tup2 u v := fun e => by obtain ⟨c, hc⟩ := h; rw [e] at hc; cases hc
section
variable {w : World} {s : Shared} {A₀ : Around} {base h₀ : Heap} {outer : List Env} {env : Env}
  {L : Addr} {m : Str → Option Value} {news : List (Addr × Obj)} {mean : ExcName → Option Value} {mg mb : Str → Option Value} {Q : Value → Shared → Prop} {E : Value → Shared → Prop}
theorem deed_one {x : Int} {z y : Str} {tx t t' k1 k2 : Tok} {cn cr l1 s1 d1 l2 s2 d2 r nu : Addr} {oN oR : Obj} {vs1 vs2 rvs nus : List Value} {n1 n2 rn nn : Nat} {tl own : List (Addr × Obj)} {ps : List (Str × Str)}
    (ap : Ap cn cr l1 s1 d1 l2 s2 d2 r nu (tl ++ own)) (hown : ∀ p ∈ own, p.2.cls ≠ .type "tuple") (hoN : ∃ v, oN.data = .cell v) (hoR : ∃ v, oR.data = .cell v)
    (T : Top hd.view_39 loose mean mg mb h₀) (KX : (hd.heap_39 w.params).In h₀) (B : Below A₀ base outer h₀) (F : Fr h₀ L s.heap m)
    (N : News h₀ L s.heap ((cn, oN) :: (cr, oR) :: (l1, listOf vs1.toArray n1) :: (s1, instObj 175 d1) :: (d1, headD w k1 l1) :: (l2, listOf vs2.toArray n2) :: (s2, instObj 175 d2) :: (d2, headD w k2 l2) :: (r, listOf rvs.toArray rn) :: (nu, listOf nus.toArray nn) :: (tl ++ own))) (hf : env.frame = some L) (hke : env.scope.kind = .function)
    (hps : PairsIn tl vs1 ps) (hok : ∀ p ∈ ps, p.1 ∈ okNames) (hx : z ∈ okNames) (hy : y ∈ okVals) (hlen : ps.length ≤ 1000)
    (h : ∀ h' tk vs' n' new, Fr h₀ L h' m → News h₀ L h' ((cn, oN) :: (cr, oR) :: (l1, listOf vs'.toArray n') :: (s1, instObj 175 d1) :: (d1, headD w k1 l1) :: (l2, listOf vs2.toArray n2) :: (s2, instObj 175 d2) :: (d2, headD w k2 l2) :: (r, listOf rvs.toArray rn) :: (nu, listOf nus.toArray nn) :: ((new ++ tl) ++ own)) → PairsIn (new ++ tl) vs' (deedP (Int.fmod x 4) ps z y) → Ap cn cr l1 s1 d1 l2 s2 d2 r nu ((new ++ tl) ++ own) → Q .none { s with heap := h', toks := tk }) :
    wpAny (model PySem.Challenge.rw_mr0247_01.row.toRowW.prog w) (AK 450 1200 (env :: outer)) (PySem.call (.ref 206) [.ref s1, .int x tx, .str z t, .str y t'] []) Q E s := by
  have sub : ∀ p ∈ (l1, listOf vs1.toArray n1) :: (s1, instObj 175 d1) :: (d1, headD w k1 l1) :: (cn, oN) :: (cr, oR) :: (l2, listOf vs2.toArray n2) :: (s2, instObj 175 d2) :: (d2, headD w k2 l2) :: (r, listOf rvs.toArray rn) :: (nu, listOf nus.toArray nn) :: (tl ++ own), p ∈ (cn, oN) :: (cr, oR) :: (l1, listOf vs1.toArray n1) :: (s1, instObj 175 d1) :: (d1, headD w k1 l1) :: (l2, listOf vs2.toArray n2) :: (s2, instObj 175 d2) :: (d2, headD w k2 l2) :: (r, listOf rvs.toArray rn) :: (nu, listOf nus.toArray nn) :: (tl ++ own) := (List.forall_mem_cons.mpr ⟨(.tail _ (.tail _ (.head _))), (List.forall_mem_cons.mpr ⟨(.tail _ (.tail _ (.tail _ (.head _)))), (List.forall_mem_cons.mpr ⟨(.tail _ (.tail _ (.tail _ (.tail _ (.head _))))), (List.forall_mem_cons.mpr ⟨(.head _), (List.forall_mem_cons.mpr ⟨(.tail _ (.head _)), (List.forall_mem_cons.mpr ⟨(.tail _ (.tail _ (.tail _ (.tail _ (.tail _ (.head _)))))), (List.forall_mem_cons.mpr ⟨(.tail _ (.tail _ (.tail _ (.tail _ (.tail _ (.tail _ (.head _))))))), (List.forall_mem_cons.mpr ⟨(.tail _ (.tail _ (.tail _ (.tail _ (.tail _ (.tail _ (.tail _ (.head _)))))))), (List.forall_mem_cons.mpr ⟨(.tail _ (.tail _ (.tail _ (.tail _ (.tail _ (.tail _ (.tail _ (.tail _ (.head _))))))))), (List.forall_mem_cons.mpr ⟨(.tail _ (.tail _ (.tail _ (.tail _ (.tail _ (.tail _ (.tail _ (.tail _ (.tail _ (.head _)))))))))), (fun p hp => (.tail _ (.tail _ (.tail _ (.tail _ (.tail _ (.tail _ (.tail _ (.tail _ (.tail _ (.tail _ hp)))))))))))⟩)⟩)⟩)⟩)⟩)⟩)⟩)⟩)⟩)⟩)
  refine deed_K (l := l1) (d := d1) (news := (cn, oN) :: (cr, oR) :: (l2, listOf vs2.toArray n2) :: (s2, instObj 175 d2) :: (d2, headD w k2 l2) :: (r, listOf rvs.toArray rn) :: (nu, listOf nus.toArray nn) :: (tl ++ own)) T KX B F (fun p hp => N p (sub p hp)) hf hke (hps.mono fun p hp => (.tail _ (.tail _ (.tail _ (.tail _ (.tail _ (.tail _ (.tail _ (List.mem_append_left _ hp))))))))) hok hx hy hlen (Ne.symm (ap.fa _ (.tail _ (.tail _ (.head _))))) (Ne.symm (ap.fa _ (.tail _ (.tail _ (.tail _ (.head _)))))) (List.forall_mem_cons.mpr ⟨(ap.fa _ (.head _)), (List.forall_mem_cons.mpr ⟨(ap.fa _ (.tail _ (.head _))), (List.forall_mem_cons.mpr ⟨(ap.fa _ (.tail _ (.tail _ (.tail _ (.tail _ (.head _)))))), (List.forall_mem_cons.mpr ⟨(ap.fa _ (.tail _ (.tail _ (.tail _ (.tail _ (.tail _ (.head _))))))), (List.forall_mem_cons.mpr ⟨(ap.fa _ (.tail _ (.tail _ (.tail _ (.tail _ (.tail _ (.tail _ (.head _)))))))), (List.forall_mem_cons.mpr ⟨(ap.fa _ (.tail _ (.tail _ (.tail _ (.tail _ (.tail _ (.tail _ (.tail _ (.head _))))))))), (List.forall_mem_cons.mpr ⟨(ap.fa _ (.tail _ (.tail _ (.tail _ (.tail _ (.tail _ (.tail _ (.tail _ (.tail _ (.head _)))))))))), (fun p hp => (ap.ft p hp).2.2.1)⟩)⟩)⟩)⟩)⟩)⟩)⟩) ?_
  intro h' tk vs' n' new F' N' P' a'
  refine h h' tk vs' n' new F' (fun p hp => N' p ?_) (PairsIn.strip (A := [(cn, oN), (cr, oR), (l2, listOf vs2.toArray n2), (s2, instObj 175 d2), (d2, headD w k2 l2), (r, listOf rvs.toArray rn), (nu, listOf nus.toArray nn)]) (List.forall_mem_cons.mpr ⟨(fun _ _ => no_cell hoN), (List.forall_mem_cons.mpr ⟨(fun _ _ => no_cell hoR), (List.forall_mem_cons.mpr ⟨(fun _ _ => no_lst), (List.forall_mem_cons.mpr ⟨(fun _ _ => no_inst), (List.forall_mem_cons.mpr ⟨(fun _ _ => no_dict), (List.forall_mem_cons.mpr ⟨(fun _ _ => no_lst), (List.forall_mem_cons.mpr ⟨(fun _ _ => no_lst), (fun p hp => nomatch hp)⟩)⟩)⟩)⟩)⟩)⟩)⟩) hown P') ?_
  · revert p
    exact (List.forall_mem_cons.mpr ⟨(.tail _ (.tail _ (.tail _ (List.mem_append_right _ (.head _))))), (List.forall_mem_cons.mpr ⟨(.tail _ (.tail _ (.tail _ (List.mem_append_right _ (.tail _ (.head _)))))), (List.forall_mem_cons.mpr ⟨(.head _), (List.forall_mem_cons.mpr ⟨(.tail _ (.head _)), (List.forall_mem_cons.mpr ⟨(.tail _ (.tail _ (.head _))), (List.forall_mem_cons.mpr ⟨(.tail _ (.tail _ (.tail _ (List.mem_append_right _ (.tail _ (.tail _ (.head _))))))), (List.forall_mem_cons.mpr ⟨(.tail _ (.tail _ (.tail _ (List.mem_append_right _ (.tail _ (.tail _ (.tail _ (.head _)))))))), (List.forall_mem_cons.mpr ⟨(.tail _ (.tail _ (.tail _ (List.mem_append_right _ (.tail _ (.tail _ (.tail _ (.tail _ (.head _))))))))), (List.forall_mem_cons.mpr ⟨(.tail _ (.tail _ (.tail _ (List.mem_append_right _ (.tail _ (.tail _ (.tail _ (.tail _ (.tail _ (.head _)))))))))), (List.forall_mem_cons.mpr ⟨(.tail _ (.tail _ (.tail _ (List.mem_append_right _ (.tail _ (.tail _ (.tail _ (.tail _ (.tail _ (.tail _ (.head _))))))))))), (fun p hp => (.tail _ (.tail _ (.tail _ ((List.mem_append.mp hp).elim (fun h => (List.mem_append.mp h).elim (fun h => List.mem_append_left _ h) (fun h => List.mem_append_right _ (.tail _ (.tail _ (.tail _ (.tail _ (.tail _ (.tail _ (.tail _ (List.mem_append_left _ h)))))))))) (fun h => List.mem_append_right _ (.tail _ (.tail _ (.tail _ (.tail _ (.tail _ (.tail _ (.tail _ (List.mem_append_right _ h))))))))))))))⟩)⟩)⟩)⟩)⟩)⟩)⟩)⟩)⟩)⟩)
  · rw [List.append_assoc]
    refine ap.grow fun p hp => ?_
    obtain ⟨q1, q2⟩ := a' p hp
    exact ⟨Ne.symm (q2 _ (.head _)), Ne.symm (q2 _ (.tail _ (.head _))), q1, Ne.symm (q2 _ (.tail _ (.tail _ (.head _)))), Ne.symm (q2 _ (.tail _ (.tail _ (.tail _ (.tail _ (.tail _ (.head _)))))))⟩
theorem deed_two {x : Int} {z y : Str} {tx t t' k1 k2 : Tok} {cn cr l1 s1 d1 l2 s2 d2 r nu : Addr} {oN oR : Obj} {vs1 vs2 rvs nus : List Value} {n1 n2 rn nn : Nat} {tl own : List (Addr × Obj)} {ps : List (Str × Str)}
    (ap : Ap cn cr l1 s1 d1 l2 s2 d2 r nu (tl ++ own)) (hown : ∀ p ∈ own, p.2.cls ≠ .type "tuple") (hoN : ∃ v, oN.data = .cell v) (hoR : ∃ v, oR.data = .cell v)
    (T : Top hd.view_39 loose mean mg mb h₀) (KX : (hd.heap_39 w.params).In h₀) (B : Below A₀ base outer h₀) (F : Fr h₀ L s.heap m)
    (N : News h₀ L s.heap ((cn, oN) :: (cr, oR) :: (l1, listOf vs1.toArray n1) :: (s1, instObj 175 d1) :: (d1, headD w k1 l1) :: (l2, listOf vs2.toArray n2) :: (s2, instObj 175 d2) :: (d2, headD w k2 l2) :: (r, listOf rvs.toArray rn) :: (nu, listOf nus.toArray nn) :: (tl ++ own))) (hf : env.frame = some L) (hke : env.scope.kind = .function)
    (hps : PairsIn tl vs2 ps) (hok : ∀ p ∈ ps, p.1 ∈ okNames) (hx : z ∈ okNames) (hy : y ∈ okVals) (hlen : ps.length ≤ 1000)
    (h : ∀ h' tk vs' n' new, Fr h₀ L h' m → News h₀ L h' ((cn, oN) :: (cr, oR) :: (l1, listOf vs1.toArray n1) :: (s1, instObj 175 d1) :: (d1, headD w k1 l1) :: (l2, listOf vs'.toArray n') :: (s2, instObj 175 d2) :: (d2, headD w k2 l2) :: (r, listOf rvs.toArray rn) :: (nu, listOf nus.toArray nn) :: ((new ++ tl) ++ own)) → PairsIn (new ++ tl) vs' (deedP (Int.fmod x 4) ps z y) → Ap cn cr l1 s1 d1 l2 s2 d2 r nu ((new ++ tl) ++ own) → Q .none { s with heap := h', toks := tk }) :
    wpAny (model PySem.Challenge.rw_mr0247_01.row.toRowW.prog w) (AK 450 1200 (env :: outer)) (PySem.call (.ref 206) [.ref s2, .int x tx, .str z t, .str y t'] []) Q E s := by
  have sub : ∀ p ∈ (l2, listOf vs2.toArray n2) :: (s2, instObj 175 d2) :: (d2, headD w k2 l2) :: (cn, oN) :: (cr, oR) :: (l1, listOf vs1.toArray n1) :: (s1, instObj 175 d1) :: (d1, headD w k1 l1) :: (r, listOf rvs.toArray rn) :: (nu, listOf nus.toArray nn) :: (tl ++ own), p ∈ (cn, oN) :: (cr, oR) :: (l1, listOf vs1.toArray n1) :: (s1, instObj 175 d1) :: (d1, headD w k1 l1) :: (l2, listOf vs2.toArray n2) :: (s2, instObj 175 d2) :: (d2, headD w k2 l2) :: (r, listOf rvs.toArray rn) :: (nu, listOf nus.toArray nn) :: (tl ++ own) := (List.forall_mem_cons.mpr ⟨(.tail _ (.tail _ (.tail _ (.tail _ (.tail _ (.head _)))))), (List.forall_mem_cons.mpr ⟨(.tail _ (.tail _ (.tail _ (.tail _ (.tail _ (.tail _ (.head _))))))), (List.forall_mem_cons.mpr ⟨(.tail _ (.tail _ (.tail _ (.tail _ (.tail _ (.tail _ (.tail _ (.head _)))))))), (List.forall_mem_cons.mpr ⟨(.head _), (List.forall_mem_cons.mpr ⟨(.tail _ (.head _)), (List.forall_mem_cons.mpr ⟨(.tail _ (.tail _ (.head _))), (List.forall_mem_cons.mpr ⟨(.tail _ (.tail _ (.tail _ (.head _)))), (List.forall_mem_cons.mpr ⟨(.tail _ (.tail _ (.tail _ (.tail _ (.head _))))), (List.forall_mem_cons.mpr ⟨(.tail _ (.tail _ (.tail _ (.tail _ (.tail _ (.tail _ (.tail _ (.tail _ (.head _))))))))), (List.forall_mem_cons.mpr ⟨(.tail _ (.tail _ (.tail _ (.tail _ (.tail _ (.tail _ (.tail _ (.tail _ (.tail _ (.head _)))))))))), (fun p hp => (.tail _ (.tail _ (.tail _ (.tail _ (.tail _ (.tail _ (.tail _ (.tail _ (.tail _ (.tail _ hp)))))))))))⟩)⟩)⟩)⟩)⟩)⟩)⟩)⟩)⟩)⟩)
  refine deed_K (l := l2) (d := d2) (news := (cn, oN) :: (cr, oR) :: (l1, listOf vs1.toArray n1) :: (s1, instObj 175 d1) :: (d1, headD w k1 l1) :: (r, listOf rvs.toArray rn) :: (nu, listOf nus.toArray nn) :: (tl ++ own)) T KX B F (fun p hp => N p (sub p hp)) hf hke (hps.mono fun p hp => (.tail _ (.tail _ (.tail _ (.tail _ (.tail _ (.tail _ (.tail _ (List.mem_append_left _ hp))))))))) hok hx hy hlen (Ne.symm (ap.fb _ (.tail _ (.tail _ (.tail _ (.tail _ (.tail _ (.head _)))))))) (Ne.symm (ap.fb _ (.tail _ (.tail _ (.tail _ (.tail _ (.tail _ (.tail _ (.head _))))))))) (List.forall_mem_cons.mpr ⟨(ap.fb _ (.head _)), (List.forall_mem_cons.mpr ⟨(ap.fb _ (.tail _ (.head _))), (List.forall_mem_cons.mpr ⟨(ap.fb _ (.tail _ (.tail _ (.head _)))), (List.forall_mem_cons.mpr ⟨(ap.fb _ (.tail _ (.tail _ (.tail _ (.head _))))), (List.forall_mem_cons.mpr ⟨(ap.fb _ (.tail _ (.tail _ (.tail _ (.tail _ (.head _)))))), (List.forall_mem_cons.mpr ⟨(ap.fb _ (.tail _ (.tail _ (.tail _ (.tail _ (.tail _ (.tail _ (.tail _ (.head _))))))))), (List.forall_mem_cons.mpr ⟨(ap.fb _ (.tail _ (.tail _ (.tail _ (.tail _ (.tail _ (.tail _ (.tail _ (.tail _ (.head _)))))))))), (fun p hp => (ap.ft p hp).2.2.2.1)⟩)⟩)⟩)⟩)⟩)⟩)⟩) ?_
  intro h' tk vs' n' new F' N' P' a'
  refine h h' tk vs' n' new F' (fun p hp => N' p ?_) (PairsIn.strip (A := [(cn, oN), (cr, oR), (l1, listOf vs1.toArray n1), (s1, instObj 175 d1), (d1, headD w k1 l1), (r, listOf rvs.toArray rn), (nu, listOf nus.toArray nn)]) (List.forall_mem_cons.mpr ⟨(fun _ _ => no_cell hoN), (List.forall_mem_cons.mpr ⟨(fun _ _ => no_cell hoR), (List.forall_mem_cons.mpr ⟨(fun _ _ => no_lst), (List.forall_mem_cons.mpr ⟨(fun _ _ => no_inst), (List.forall_mem_cons.mpr ⟨(fun _ _ => no_dict), (List.forall_mem_cons.mpr ⟨(fun _ _ => no_lst), (List.forall_mem_cons.mpr ⟨(fun _ _ => no_lst), (fun p hp => nomatch hp)⟩)⟩)⟩)⟩)⟩)⟩)⟩) hown P') ?_
  · revert p
    exact (List.forall_mem_cons.mpr ⟨(.tail _ (.tail _ (.tail _ (List.mem_append_right _ (.head _))))), (List.forall_mem_cons.mpr ⟨(.tail _ (.tail _ (.tail _ (List.mem_append_right _ (.tail _ (.head _)))))), (List.forall_mem_cons.mpr ⟨(.tail _ (.tail _ (.tail _ (List.mem_append_right _ (.tail _ (.tail _ (.head _))))))), (List.forall_mem_cons.mpr ⟨(.tail _ (.tail _ (.tail _ (List.mem_append_right _ (.tail _ (.tail _ (.tail _ (.head _)))))))), (List.forall_mem_cons.mpr ⟨(.tail _ (.tail _ (.tail _ (List.mem_append_right _ (.tail _ (.tail _ (.tail _ (.tail _ (.head _))))))))), (List.forall_mem_cons.mpr ⟨(.head _), (List.forall_mem_cons.mpr ⟨(.tail _ (.head _)), (List.forall_mem_cons.mpr ⟨(.tail _ (.tail _ (.head _))), (List.forall_mem_cons.mpr ⟨(.tail _ (.tail _ (.tail _ (List.mem_append_right _ (.tail _ (.tail _ (.tail _ (.tail _ (.tail _ (.head _)))))))))), (List.forall_mem_cons.mpr ⟨(.tail _ (.tail _ (.tail _ (List.mem_append_right _ (.tail _ (.tail _ (.tail _ (.tail _ (.tail _ (.tail _ (.head _))))))))))), (fun p hp => (.tail _ (.tail _ (.tail _ ((List.mem_append.mp hp).elim (fun h => (List.mem_append.mp h).elim (fun h => List.mem_append_left _ h) (fun h => List.mem_append_right _ (.tail _ (.tail _ (.tail _ (.tail _ (.tail _ (.tail _ (.tail _ (List.mem_append_left _ h)))))))))) (fun h => List.mem_append_right _ (.tail _ (.tail _ (.tail _ (.tail _ (.tail _ (.tail _ (.tail _ (List.mem_append_right _ h))))))))))))))⟩)⟩)⟩)⟩)⟩)⟩)⟩)⟩)⟩)⟩)
  · rw [List.append_assoc]
    refine ap.grow fun p hp => ?_
    obtain ⟨q1, q2⟩ := a' p hp
    exact ⟨Ne.symm (q2 _ (.head _)), Ne.symm (q2 _ (.tail _ (.head _))), Ne.symm (q2 _ (.tail _ (.tail _ (.head _)))), q1, Ne.symm (q2 _ (.tail _ (.tail _ (.tail _ (.tail _ (.tail _ (.head _)))))))⟩
theorem rows_led {x : Int} {nm wr vl : Str} {tx k1 k2 t1 t2 t3 : Tok} {cn cr l1 s1 d1 l2 s2 d2 r nu : Addr} {oN oR : Obj} {vs1 vs2 rvs nus : List Value} {n1 n2 rn nn : Nat} {tl own : List (Addr × Obj)} {rs : List R3}
    (ap : Ap cn cr l1 s1 d1 l2 s2 d2 r nu (tl ++ own)) (hown : ∀ p ∈ own, p.2.cls ≠ .type "tuple") (hoN : ∃ v, oN.data = .cell v) (hoR : ∃ v, oR.data = .cell v)
    (T : Top hd.view_39 loose mean mg mb h₀) (KX : (hd.heap_39 w.params).In h₀) (B : Below A₀ base outer h₀) (F : Fr h₀ L s.heap m)
    (N : News h₀ L s.heap ((cn, oN) :: (cr, oR) :: (l1, listOf vs1.toArray n1) :: (s1, instObj 175 d1) :: (d1, headD w k1 l1) :: (l2, listOf vs2.toArray n2) :: (s2, instObj 175 d2) :: (d2, headD w k2 l2) :: (r, listOf rvs.toArray rn) :: (nu, listOf nus.toArray nn) :: (tl ++ own))) (hf : env.frame = some L) (hke : env.scope.kind = .function)
    (hrs : RowsIn tl rvs rs) (hok : ∀ p ∈ rs, rowOk p) (hlen : rs.length ≤ 1000)
    (h : ∀ h' tk r' vs' n' new, Fr h₀ L h' m → News h₀ L h' ((cn, oN) :: (cr, oR) :: (l1, listOf vs1.toArray n1) :: (s1, instObj 175 d1) :: (d1, headD w k1 l1) :: (l2, listOf vs2.toArray n2) :: (s2, instObj 175 d2) :: (d2, headD w k2 l2) :: (r', listOf vs'.toArray n') :: (nu, listOf nus.toArray nn) :: ((new ++ tl) ++ own)) → RowsIn (new ++ tl) vs' (rowsP (Int.fmod x 4) rs nm wr vl) → Ap cn cr l1 s1 d1 l2 s2 d2 r' nu ((new ++ tl) ++ own) → Q (.ref r') { s with heap := h', toks := tk }) :
    wpAny (model PySem.Challenge.rw_mr0247_01.row.toRowW.prog w) (AK 450 1200 (env :: outer)) (PySem.call (.ref 211) [.ref r, .int x tx, .str nm t1, .str wr t2, .str vl t3] []) Q E s := by
  have sub : ∀ p ∈ (r, listOf rvs.toArray rn) :: (cn, oN) :: (cr, oR) :: (l1, listOf vs1.toArray n1) :: (s1, instObj 175 d1) :: (d1, headD w k1 l1) :: (l2, listOf vs2.toArray n2) :: (s2, instObj 175 d2) :: (d2, headD w k2 l2) :: (nu, listOf nus.toArray nn) :: (tl ++ own), p ∈ (cn, oN) :: (cr, oR) :: (l1, listOf vs1.toArray n1) :: (s1, instObj 175 d1) :: (d1, headD w k1 l1) :: (l2, listOf vs2.toArray n2) :: (s2, instObj 175 d2) :: (d2, headD w k2 l2) :: (r, listOf rvs.toArray rn) :: (nu, listOf nus.toArray nn) :: (tl ++ own) := (List.forall_mem_cons.mpr ⟨(.tail _ (.tail _ (.tail _ (.tail _ (.tail _ (.tail _ (.tail _ (.tail _ (.head _))))))))), (List.forall_mem_cons.mpr ⟨(.head _), (List.forall_mem_cons.mpr ⟨(.tail _ (.head _)), (List.forall_mem_cons.mpr ⟨(.tail _ (.tail _ (.head _))), (List.forall_mem_cons.mpr ⟨(.tail _ (.tail _ (.tail _ (.head _)))), (List.forall_mem_cons.mpr ⟨(.tail _ (.tail _ (.tail _ (.tail _ (.head _))))), (List.forall_mem_cons.mpr ⟨(.tail _ (.tail _ (.tail _ (.tail _ (.tail _ (.head _)))))), (List.forall_mem_cons.mpr ⟨(.tail _ (.tail _ (.tail _ (.tail _ (.tail _ (.tail _ (.head _))))))), (List.forall_mem_cons.mpr ⟨(.tail _ (.tail _ (.tail _ (.tail _ (.tail _ (.tail _ (.tail _ (.head _)))))))), (List.forall_mem_cons.mpr ⟨(.tail _ (.tail _ (.tail _ (.tail _ (.tail _ (.tail _ (.tail _ (.tail _ (.tail _ (.head _)))))))))), (fun p hp => (.tail _ (.tail _ (.tail _ (.tail _ (.tail _ (.tail _ (.tail _ (.tail _ (.tail _ (.tail _ hp)))))))))))⟩)⟩)⟩)⟩)⟩)⟩)⟩)⟩)⟩)⟩)
  refine rows_K (news := (cn, oN) :: (cr, oR) :: (l1, listOf vs1.toArray n1) :: (s1, instObj 175 d1) :: (d1, headD w k1 l1) :: (l2, listOf vs2.toArray n2) :: (s2, instObj 175 d2) :: (d2, headD w k2 l2) :: (nu, listOf nus.toArray nn) :: (tl ++ own)) T KX B F (fun p hp => N p (sub p hp)) hf hke hrs (fun p hp => (.tail _ (.tail _ (.tail _ (.tail _ (.tail _ (.tail _ (.tail _ (.tail _ (.tail _ (List.mem_append_left _ hp))))))))))) hok hlen (List.forall_mem_cons.mpr ⟨(ap.fr _ (.head _)), (List.forall_mem_cons.mpr ⟨(ap.fr _ (.tail _ (.head _))), (List.forall_mem_cons.mpr ⟨(ap.fr _ (.tail _ (.tail _ (.head _)))), (List.forall_mem_cons.mpr ⟨(ap.fr _ (.tail _ (.tail _ (.tail _ (.head _))))), (List.forall_mem_cons.mpr ⟨(ap.fr _ (.tail _ (.tail _ (.tail _ (.tail _ (.head _)))))), (List.forall_mem_cons.mpr ⟨(ap.fr _ (.tail _ (.tail _ (.tail _ (.tail _ (.tail _ (.head _))))))), (List.forall_mem_cons.mpr ⟨(ap.fr _ (.tail _ (.tail _ (.tail _ (.tail _ (.tail _ (.tail _ (.head _)))))))), (List.forall_mem_cons.mpr ⟨(ap.fr _ (.tail _ (.tail _ (.tail _ (.tail _ (.tail _ (.tail _ (.tail _ (.head _))))))))), (List.forall_mem_cons.mpr ⟨(ap.fr _ (.tail _ (.tail _ (.tail _ (.tail _ (.tail _ (.tail _ (.tail _ (.tail _ (.head _)))))))))), (fun p hp => (ap.ft p hp).2.2.2.2)⟩)⟩)⟩)⟩)⟩)⟩)⟩)⟩)⟩) ?_
  intro h' tk r' vs' n' new F' N' P' a' b'
  refine h h' tk r' vs' n' new F' (fun p hp => N' p ?_) P' ?_
  · revert p
    exact (List.forall_mem_cons.mpr ⟨(.tail _ (List.mem_append_right _ (.head _))), (List.forall_mem_cons.mpr ⟨(.tail _ (List.mem_append_right _ (.tail _ (.head _)))), (List.forall_mem_cons.mpr ⟨(.tail _ (List.mem_append_right _ (.tail _ (.tail _ (.head _))))), (List.forall_mem_cons.mpr ⟨(.tail _ (List.mem_append_right _ (.tail _ (.tail _ (.tail _ (.head _)))))), (List.forall_mem_cons.mpr ⟨(.tail _ (List.mem_append_right _ (.tail _ (.tail _ (.tail _ (.tail _ (.head _))))))), (List.forall_mem_cons.mpr ⟨(.tail _ (List.mem_append_right _ (.tail _ (.tail _ (.tail _ (.tail _ (.tail _ (.head _)))))))), (List.forall_mem_cons.mpr ⟨(.tail _ (List.mem_append_right _ (.tail _ (.tail _ (.tail _ (.tail _ (.tail _ (.tail _ (.head _))))))))), (List.forall_mem_cons.mpr ⟨(.tail _ (List.mem_append_right _ (.tail _ (.tail _ (.tail _ (.tail _ (.tail _ (.tail _ (.tail _ (.head _)))))))))), (List.forall_mem_cons.mpr ⟨(.head _), (List.forall_mem_cons.mpr ⟨(.tail _ (List.mem_append_right _ (.tail _ (.tail _ (.tail _ (.tail _ (.tail _ (.tail _ (.tail _ (.tail _ (.head _))))))))))), (fun p hp => (.tail _ ((List.mem_append.mp hp).elim (fun h => (List.mem_append.mp h).elim (fun h => List.mem_append_left _ h) (fun h => List.mem_append_right _ (.tail _ (.tail _ (.tail _ (.tail _ (.tail _ (.tail _ (.tail _ (.tail _ (.tail _ (List.mem_append_left _ h)))))))))))) (fun h => List.mem_append_right _ (.tail _ (.tail _ (.tail _ (.tail _ (.tail _ (.tail _ (.tail _ (.tail _ (.tail _ (List.mem_append_right _ h))))))))))))))⟩)⟩)⟩)⟩)⟩)⟩)⟩)⟩)⟩)⟩)
  · rw [List.append_assoc]
    refine ((ap.setR (List.forall_mem_cons.mpr ⟨(b' _ (List.mem_append_right _ (.head _))), (List.forall_mem_cons.mpr ⟨(b' _ (List.mem_append_right _ (.tail _ (.head _)))), (List.forall_mem_cons.mpr ⟨(b' _ (List.mem_append_right _ (.tail _ (.tail _ (.head _))))), (List.forall_mem_cons.mpr ⟨(b' _ (List.mem_append_right _ (.tail _ (.tail _ (.tail _ (.head _)))))), (List.forall_mem_cons.mpr ⟨(b' _ (List.mem_append_right _ (.tail _ (.tail _ (.tail _ (.tail _ (.head _))))))), (List.forall_mem_cons.mpr ⟨(b' _ (List.mem_append_right _ (.tail _ (.tail _ (.tail _ (.tail _ (.tail _ (.head _)))))))), (List.forall_mem_cons.mpr ⟨(b' _ (List.mem_append_right _ (.tail _ (.tail _ (.tail _ (.tail _ (.tail _ (.tail _ (.head _))))))))), (List.forall_mem_cons.mpr ⟨(b' _ (List.mem_append_right _ (.tail _ (.tail _ (.tail _ (.tail _ (.tail _ (.tail _ (.tail _ (.head _)))))))))), (List.forall_mem_cons.mpr ⟨(b' _ (List.mem_append_right _ (.tail _ (.tail _ (.tail _ (.tail _ (.tail _ (.tail _ (.tail _ (.tail _ (.head _))))))))))), (fun p hp => nomatch hp)⟩)⟩)⟩)⟩)⟩)⟩)⟩)⟩)⟩) fun p hp => b' p (List.mem_append_right _ (.tail _ (.tail _ (.tail _ (.tail _ (.tail _ (.tail _ (.tail _ (.tail _ (.tail _ hp))))))))))).grow fun p hp => ?_)
    exact ⟨Ne.symm (a' p hp _ (.head _)), Ne.symm (a' p hp _ (.tail _ (.head _))), Ne.symm (a' p hp _ (.tail _ (.tail _ (.head _)))), Ne.symm (a' p hp _ (.tail _ (.tail _ (.tail _ (.tail _ (.tail _ (.head _))))))), b' p (List.mem_append_left _ hp)⟩
end
end
section
open PySem PySem.W PySem.W.X PyProof.Rows PySem.Spec PyProof.Rows.LCg PyProof.Rows.LCt
theorem ovr_fr {h₀ h' : Heap} {L : Addr} {ks : List Str} {M m₁ : Str → Option Value} (F : Fr h₀ L h' M) (hM : ∀ y, ks.contains y = false → M y = m₁ y) : Fr h₀ L h' (ovr ks M m₁) := by
  have e : M = ovr ks M m₁ := by
    funext y
    cases hy : ks.contains y with
    | true => simp only [ovr, hy, if_true]
    | false => simp only [ovr, hy, Bool.false_eq_true, if_false]; exact hM y hy
  rw [← e]; exact F
theorem val_ok {kk : Nat} (h : kk < 17) : Str.ofString "v" ++ Str.ofString (toString (kk : Int)) ∈ okVals := by
  have : ∀ k ∈ List.range 17, Str.ofString "v" ++ Str.ofString (toString (k : Int)) ∈ okVals := by decide +kernel
  exact this kk (List.mem_range.mpr h)
theorem ok_1 {rs : List R3} (h : ∀ p ∈ rs, RowG p) : ∀ q ∈ rs.map f1, q.1 ∈ okNames := fun q hq => by obtain ⟨p, hp, rfl⟩ := List.mem_map.mp hq; exact (h p hp).ok1
theorem ok_2 {rs : List R3} (h : ∀ p ∈ rs, RowG p) : ∀ q ∈ rs.map f2, q.1 ∈ okNames := fun q hq => by obtain ⟨p, hp, rfl⟩ := List.mem_map.mp hq; exact (h p hp).ok2
theorem ok_3 {rs : List R3} (h : ∀ p ∈ rs, RowG p) : ∀ p ∈ rs, rowOk p := fun p hp => (h p hp).ok
theorem News.tl1 {h₀ h : Heap} {L : Addr} {a : Addr × Obj} {l : List (Addr × Obj)} (N : News h₀ L h (a :: l)) : News h₀ L h l := fun p hp => N p (.tail _ hp)
def lawBody : List Stmt := match P.main.body.getLast? with | some (.FunctionDef _ _ b _ _ _ _ _ _ _) => b | _ => []
def lawScope : Scope := match P.main.body.getLast? with | some (.FunctionDef _ _ _ _ _ _ sc _ _ _) => sc | _ => default
def turnBody : List Stmt := match lawBody.drop 2 with | (Stmt.For _ _ b _ _) :: _ => b | _ => []
abbrev lawEnv (L fa : Addr) (cd : Value) : Env := envOfC (Str.ofString "law") lawScope L fa cd
abbrev STO : List Str := [Str.ofString "k", Str.ofString "x", Str.ofString "written", Str.ofString "dressed", Str.ofString "values"]
theorem ovr_ne {y : Str} (h : STO.contains y = false) : y ≠ Str.ofString "k" ∧ y ≠ Str.ofString "x" ∧ y ≠ Str.ofString "written" ∧ y ≠ Str.ofString "dressed" := by
  refine ⟨?_, ?_, ?_, ?_⟩ <;> (rintro rfl; revert h; decide +kernel)
abbrev m1 (nu s2 s1 : Addr) (mB : Str → Option Value) : Str → Option Value := fun y => if y = Str.ofString "numbers" then some (.ref nu) else if y = Str.ofString "two" then some (.ref s2) else if y = Str.ofString "one" then some (.ref s1) else mB y
theorem upd_name {w : World} {k1 k2 : Tok} {cn cr l1 s1 d1 l2 s2 d2 r nu a : Addr} {oN oR o9 : Obj} {vs1 vs2 rvs nus : List Value} {n1 n2 rn nn : Nat} {tl : List (Addr × Obj)} (ap : Ap cn cr l1 s1 d1 l2 s2 d2 r nu tl) (ha : @Ne Nat a cn) :
    UpdF cn oN ((a, o9) :: (cn, oN) :: (cr, oR) :: (l1, listOf vs1.toArray n1) :: (s1, instObj 175 d1) :: (d1, headD w k1 l1) :: (l2, listOf vs2.toArray n2) :: (s2, instObj 175 d2) :: (d2, headD w k2 l2) :: (r, listOf rvs.toArray rn) :: (nu, listOf nus.toArray nn) :: tl) (fun o' => (a, o9) :: (cn, o') :: (cr, oR) :: (l1, listOf vs1.toArray n1) :: (s1, instObj 175 d1) :: (d1, headD w k1 l1) :: (l2, listOf vs2.toArray n2) :: (s2, instObj 175 d2) :: (d2, headD w k2 l2) :: (r, listOf rvs.toArray rn) :: (nu, listOf nus.toArray nn) :: tl) := UpdF.tail ha (UpdF.head (List.forall_mem_cons.mpr ⟨(ap.fn _ (.head _)), (List.forall_mem_cons.mpr ⟨(ap.fn _ (.tail _ (.head _))), (List.forall_mem_cons.mpr ⟨(ap.fn _ (.tail _ (.tail _ (.head _)))), (List.forall_mem_cons.mpr ⟨(ap.fn _ (.tail _ (.tail _ (.tail _ (.head _))))), (List.forall_mem_cons.mpr ⟨(ap.fn _ (.tail _ (.tail _ (.tail _ (.tail _ (.head _)))))), (List.forall_mem_cons.mpr ⟨(ap.fn _ (.tail _ (.tail _ (.tail _ (.tail _ (.tail _ (.head _))))))), (List.forall_mem_cons.mpr ⟨(ap.fn _ (.tail _ (.tail _ (.tail _ (.tail _ (.tail _ (.tail _ (.head _)))))))), (List.forall_mem_cons.mpr ⟨(ap.fn _ (.tail _ (.tail _ (.tail _ (.tail _ (.tail _ (.tail _ (.tail _ (.head _))))))))), (List.forall_mem_cons.mpr ⟨(ap.fn _ (.tail _ (.tail _ (.tail _ (.tail _ (.tail _ (.tail _ (.tail _ (.tail _ (.head _)))))))))), (fun p hp => (ap.ft p hp).1)⟩)⟩)⟩)⟩)⟩)⟩)⟩)⟩)⟩))
theorem upd_rows {w : World} {k1 k2 : Tok} {cn cr l1 s1 d1 l2 s2 d2 r nu : Addr} {oN oR : Obj} {vs1 vs2 rvs nus : List Value} {n1 n2 rn nn : Nat} {tl : List (Addr × Obj)} (ap : Ap cn cr l1 s1 d1 l2 s2 d2 r nu tl) :
    UpdF cr oR ((cn, oN) :: (cr, oR) :: (l1, listOf vs1.toArray n1) :: (s1, instObj 175 d1) :: (d1, headD w k1 l1) :: (l2, listOf vs2.toArray n2) :: (s2, instObj 175 d2) :: (d2, headD w k2 l2) :: (r, listOf rvs.toArray rn) :: (nu, listOf nus.toArray nn) :: tl) (fun o' => (cn, oN) :: (cr, o') :: (l1, listOf vs1.toArray n1) :: (s1, instObj 175 d1) :: (d1, headD w k1 l1) :: (l2, listOf vs2.toArray n2) :: (s2, instObj 175 d2) :: (d2, headD w k2 l2) :: (r, listOf rvs.toArray rn) :: (nu, listOf nus.toArray nn) :: tl) := UpdF.tail (ap.fc _ (.head _)) (UpdF.head (List.forall_mem_cons.mpr ⟨(ap.fc _ (.tail _ (.head _))), (List.forall_mem_cons.mpr ⟨(ap.fc _ (.tail _ (.tail _ (.head _)))), (List.forall_mem_cons.mpr ⟨(ap.fc _ (.tail _ (.tail _ (.tail _ (.head _))))), (List.forall_mem_cons.mpr ⟨(ap.fc _ (.tail _ (.tail _ (.tail _ (.tail _ (.head _)))))), (List.forall_mem_cons.mpr ⟨(ap.fc _ (.tail _ (.tail _ (.tail _ (.tail _ (.tail _ (.head _))))))), (List.forall_mem_cons.mpr ⟨(ap.fc _ (.tail _ (.tail _ (.tail _ (.tail _ (.tail _ (.tail _ (.head _)))))))), (List.forall_mem_cons.mpr ⟨(ap.fc _ (.tail _ (.tail _ (.tail _ (.tail _ (.tail _ (.tail _ (.tail _ (.head _))))))))), (List.forall_mem_cons.mpr ⟨(ap.fc _ (.tail _ (.tail _ (.tail _ (.tail _ (.tail _ (.tail _ (.tail _ (.tail _ (.head _)))))))))), (fun p hp => (ap.ft p hp).2.1)⟩)⟩)⟩)⟩)⟩)⟩)⟩)⟩))
local macro_rules | `(tactic| k_mem) => `(tactic| first | with_reducible exact List.mem_cons_self | with_reducible assumption | (refine List.mem_cons_of_mem _ ?_; k_mem))
local macro_rules | `(tactic| walk_at "call ref") => `(tactic| (k_here; (with_reducible show wpAny _ _ (call (Value.ref 194) _ _) _ _ _); k_dflt (refine' AK_mono (name_ij ?i5 ?j3 ?T ?X ?B ?F ?N ?f ?k ?hi ?hj ?_) ?h1 ?h2 ?h3 ?h4; (case h1 => exact rfl); (case h2 => exact rfl); (case h3 => exact Nat.le_of_ble_eq_true rfl); (case h4 => exact Nat.le_of_ble_eq_true rfl); (case T => k_asm); (case X => k_asm); (case B => k_asm); (case F => k_asm); (case N => k_asm); (case f => exact rfl); (case k => exact rfl); (case i5 => assumption); (case j3 => assumption); (case hi => assumption); (case hj => assumption); k_whole); intro h' tk' a' t1' t2' F' N' l9'; (have ne9' := Nat.ne_of_gt (l9' _ (List.Mem.head _)))))
local macro_rules | `(tactic| walk_at "call ref") => `(tactic| (k_here; (with_reducible show wpAny _ _ (call (Value.ref 187) _ _) _ _ _); k_dflt (refine' AK_mono (cap_K ?i5 ?j3 ?T ?X ?B ?F ?N ?f ?k ?_) ?h1 ?h2 ?h3 ?h4; (case h1 => exact rfl); (case h2 => exact rfl); (case h3 => exact Nat.le_of_ble_eq_true rfl); (case h4 => exact Nat.le_of_ble_eq_true rfl); (case T => k_asm); (case X => k_asm); (case B => k_asm); (case F => k_asm); (case N => k_asm); (case f => exact rfl); (case k => exact rfl); (case i5 => assumption); (case j3 => assumption); k_whole); intro h' tk' t' F' N'))
local macro_rules | `(tactic| walk_at "call ref") => `(tactic| (k_here; (with_reducible show wpAny _ _ (call (Value.ref 199) _ _) _ _ _); k_dflt (refine' AK_mono (great_K ?i5 ?T ?X ?B ?F ?N ?f ?k ?_) ?h1 ?h2 ?h3 ?h4; (case h1 => exact rfl); (case h2 => exact rfl); (case h3 => exact Nat.le_of_ble_eq_true rfl); (case h4 => exact Nat.le_of_ble_eq_true rfl); (case T => k_asm); (case X => k_asm); (case B => k_asm); (case F => k_asm); (case N => k_asm); (case f => exact rfl); (case k => exact rfl); (case i5 => assumption); k_whole); intro h' tk' t' F' N'))
local macro_rules | `(tactic| walk_at "call ref") => `(tactic| (k_here; (with_reducible show wpAny _ _ (call (Value.ref 206) _ _) _ _ _); k_dflt (refine' AK_mono (deed_one ?ap ?ow ?oN ?oR ?T ?X ?B ?F ?N ?f ?k ?p ?ok ?x ?y ?ln ?_) ?h1 ?h2 ?h3 ?h4; (case h1 => exact rfl); (case h2 => exact rfl); (case h3 => exact Nat.le_of_ble_eq_true rfl); (case h4 => exact Nat.le_of_ble_eq_true rfl); (case T => k_asm); (case X => k_asm); (case B => k_asm); (case F => k_asm); (case N => first | k_asm | exact News.tl1 (by k_asm)); (case ap => assumption); (case ow => assumption); (case oN => exact ⟨_, by assumption⟩); (case oR => exact ⟨_, by assumption⟩); (case f => exact rfl); (case k => exact rfl); (case p => first | assumption | exact PairsIn.mono (fun p hp => List.mem_append_right _ hp) (by assumption)); (case ok => first | exact ok_1 (by assumption) | exact ok_2 (by assumption)); (case x => first | exact wr_ok (by assumption) (by assumption) | exact gr_ok (by assumption)); (case y => exact val_ok (by assumption)); (case ln => (rw [List.length_map]; omega)); k_whole); intro h' tk' vs' n' new' F' N' P' ap'))
local macro_rules | `(tactic| walk_at "call ref") => `(tactic| (k_here; (with_reducible show wpAny _ _ (call (Value.ref 206) _ _) _ _ _); k_dflt (refine' AK_mono (deed_two ?ap ?ow ?oN ?oR ?T ?X ?B ?F ?N ?f ?k ?p ?ok ?x ?y ?ln ?_) ?h1 ?h2 ?h3 ?h4; (case h1 => exact rfl); (case h2 => exact rfl); (case h3 => exact Nat.le_of_ble_eq_true rfl); (case h4 => exact Nat.le_of_ble_eq_true rfl); (case T => k_asm); (case X => k_asm); (case B => k_asm); (case F => k_asm); (case N => first | k_asm | exact News.tl1 (by k_asm)); (case ap => assumption); (case ow => assumption); (case oN => exact ⟨_, by assumption⟩); (case oR => exact ⟨_, by assumption⟩); (case f => exact rfl); (case k => exact rfl); (case p => first | assumption | exact PairsIn.mono (fun p hp => List.mem_append_right _ hp) (by assumption)); (case ok => first | exact ok_1 (by assumption) | exact ok_2 (by assumption)); (case x => first | exact wr_ok (by assumption) (by assumption) | exact gr_ok (by assumption)); (case y => exact val_ok (by assumption)); (case ln => (rw [List.length_map]; omega)); k_whole); intro h' tk' vs' n' new' F' N' P' ap'))
local macro_rules | `(tactic| walk_at "call ref") => `(tactic| (k_here; (with_reducible show wpAny _ _ (call (Value.ref 211) _ _) _ _ _); k_dflt (refine' AK_mono (rows_led ?ap ?ow ?oN ?oR ?T ?X ?B ?F ?N ?f ?k ?p ?ok ?ln ?_) ?h1 ?h2 ?h3 ?h4; (case h1 => exact rfl); (case h2 => exact rfl); (case h3 => exact Nat.le_of_ble_eq_true rfl); (case h4 => exact Nat.le_of_ble_eq_true rfl); (case T => k_asm); (case X => k_asm); (case B => k_asm); (case F => k_asm); (case N => first | k_asm | exact News.tl1 (by k_asm)); (case ap => assumption); (case ow => assumption); (case oN => exact ⟨_, by assumption⟩); (case oR => exact ⟨_, by assumption⟩); (case f => exact rfl); (case k => exact rfl); (case p => exact DatAll.mono (fun p hp => List.mem_append_right _ (List.mem_append_right _ hp)) (by assumption)); (case ok => exact ok_3 (by assumption)); (case ln => omega); k_whole); intro h' tk' r' vs' n' new' F' N' P' ap'))
local macro_rules | `(tactic| k_updF) => `(tactic| first | exact upd_name (by assumption) (by assumption) | exact upd_rows (by assumption))
section
variable {w : World} {s : Shared} {A₀ : Around} {base h₀ : Heap} {outer : List Env} {env : Env}
  {L : Addr} {m : Str → Option Value} {news : List (Addr × Obj)} {mean : ExcName → Option Value} {mg mb : Str → Option Value} {Q : Value → Shared → Prop} {E : Value → Shared → Prop}
theorem item_int {A : Around} {value slice : PySem.Expr} {L9 : List (Addr × Obj)} {a : Addr} {nus : List Value} {ns : List Int} {n kk : Nat} {x : Int} {u : Tok} (N : News h₀ L s.heap L9) (hm : (a, listOf nus.toArray n) ∈ L9) (hin : IntsAre nus ns) (hx : ns[kk]? = some x) (hk : kk < 2 ^ 62) (h : ∀ t', Q (.int x t') s)
    (hs : subscripted slice false (.ref a) (.int kk u) = operate [.ref a, .int kk u] (getItem (.ref a) (.int kk u)) := by with_unfolding_all rfl) :
    wpAny (model P w) A (subscriptTail value slice (.ref a) (.int kk u)) Q E s := by
  have hl : s.heap.IsList a nus.toArray := ⟨_, (N _ hm).1, rfl, n, rfl⟩
  obtain ⟨t', e⟩ := hin.get kk x hx
  exact tail_any hl.typeIs slot_list_getitem.lookup (wpAny_getItem_list hl (by omega) (by omega) (x := .int x t') (by simpa using e) (h t')) hs
local macro_rules | `(tactic| walk_at "subscriptTail Name Name ref int") => `(tactic| (k_here; k_dflt (refine' item_int ?N ?m ?i ?x ?k ?_ ?s; (case N => k_asm); (case m => k_mem); (case i => assumption); (case x => assumption); (case k => omega); (case s => with_unfolding_all rfl); k_whole); intro t'))
theorem ne_self {A : Around} {x : Str} {t u : Tok} (h : Q (.bool false) s) : wpAny (model P w) A (compareOp .NotEq (.str x t) (.str x u)) Q E s := by
  refine ne_str ?_
  have e : (x != x) = false := by simp
  first | (rw [e]; exact h) | (simpa using h)
local macro_rules | `(tactic| walk_at "compareOp NotEq str str") => `(tactic| (k_here; with_reducible refine ne_self ?_))
theorem turn_K {i j kk : Nat} {ns : List Int} {fa : Addr} {cd : Value} {u mB : Str → Option Value} {vN : Option Value} {QF : Flow → Shared → Prop} {x : Int} {z y nm wr vl : Str} {tx t t' k1 k2 t1 t2 t3 : Tok} {cn cr l1 s1 d1 l2 s2 d2 r nu : Addr} {oN oR : Obj} {vs1 vs2 rvs nus : List Value} {n1 n2 rn nn : Nat} {tl own : List (Addr × Obj)} {ps : List (Str × Str)} {rs : List R3}
    (ap : Ap (L + 1 + 1) (L + 1) l1 s1 d1 l2 s2 d2 r nu (tl ++ own)) (hown : ∀ p ∈ own, p.2.cls ≠ .type "tuple") (hoN : oN.data = .cell vN) (hoR : oR.data = .cell (some (.ref r)))
    (T : Top hd.view_39 loose mean mg mb h₀) (KX : (hd.heap_39 w.params).In h₀) (B : Below callerA base [] h₀) (F : Fr h₀ L s.heap (fun y => if y = Str.ofString "k" then some (.int kk t) else ovr STO u (m1 nu s2 s1 mB) y))
    (N : News h₀ L s.heap ((L + 1 + 1, oN) :: (L + 1, oR) :: (l1, listOf vs1.toArray n1) :: (s1, instObj 175 d1) :: (d1, headD w k1 l1) :: (l2, listOf vs2.toArray n2) :: (s2, instObj 175 d2) :: (d2, headD w k2 l2) :: (r, listOf rvs.toArray rn) :: (nu, listOf nus.toArray nn) :: (tl ++ own))) (hin : IntsAre nus ns) (hkk : kk < ns.length) (hkv : kk < 17) (hxx : ns[kk]? = some x)
    (hi5 : i < 5) (hj3 : j < 3) (hi : Int.fmod (Int.fdiv x 4) 5 = i) (hj : Int.fmod (Int.fdiv x 20) 3 = j)
    (hp1 : PairsIn tl vs1 (rs.map f1)) (hp2 : PairsIn tl vs2 (rs.map f2)) (hrs : RowsIn tl rvs rs) (hG : ∀ p ∈ rs, RowG p) (hlen : rs.length ≤ 100)
    (h : ∀ h' tk u' oN' oR' vN' r' rvs' rn' vs1' n1' vs2' n2' tl' rs', Fr h₀ L h' (ovr STO u' (m1 nu s2 s1 mB)) → News h₀ L h' ((L + 1 + 1, oN') :: (L + 1, oR') :: (l1, listOf vs1'.toArray n1') :: (s1, instObj 175 d1) :: (d1, headD w k1 l1) :: (l2, listOf vs2'.toArray n2') :: (s2, instObj 175 d2) :: (d2, headD w k2 l2) :: (r', listOf rvs'.toArray rn') :: (nu, listOf nus.toArray nn) :: (tl' ++ own)) → oN'.data = .cell vN' → oR'.data = .cell (some (.ref r')) →
      PairsIn tl' vs1' (rs'.map f1) → PairsIn tl' vs2' (rs'.map f2) → RowsIn tl' rvs' rs' → (∀ p ∈ rs', RowG p) → rs'.length ≤ rs.length + 1 → Ap (L + 1 + 1) (L + 1) l1 s1 d1 l2 s2 d2 r' nu (tl' ++ own) → QF .next { s with heap := h', toks := tk }) :
    wpAny (model PySem.Challenge.rw_mr0247_01.row.toRowW.prog w) (Around.deeper callerA (lawEnv L fa cd)) (execs turnBody (lawEnv L fa cd)) QF E s := by
  obtain ⟨sc, hsc⟩ : ∃ sc, lawScope = sc := ⟨_, rfl⟩
  unfold lawEnv
  rw [hsc]
  replace hsc : sc = Scope.mk _ _ _ _ _ := hsc.symm
  subst hsc
  show wpAny _ _ (execs (_ :: _ :: _ :: _ :: _ :: _ :: _ :: []) _) _ _ _
  revert KX; k_fill; intro KX
  w_on
  w_strict (repeat (first | (k_unfold; (try dsimp only)) | walk1 | (dsimp only; walk1)))
  have hk4 : Int.fmod x 4 = 0 ∨ Int.fmod x 4 = 1 ∨ Int.fmod x 4 = 2 ∨ Int.fmod x 4 = 3 := by
    have h1 := Int.fmod_nonneg_of_pos x (show (0:Int) < 4 by decide)
    have h2 := Int.fmod_lt_of_pos x (show (0:Int) < 4 by decide)
    omega
  have hGn : RowG (nmS i, wrS i j, Str.ofString "v" ++ Str.ofString (toString (kk : Int))) := ⟨i, j, hi5, hj3, rfl, rfl, val_ok hkv⟩
  have e1 := deed_rows (f := f1) (wr := wrS i j) (v := Str.ofString "v" ++ Str.ofString (toString (kk : Int))) (fun p hp => (hG p hp).low1) (low_wr hi5 hj3) rfl hk4
  have e2 := deed_rows (f := f2) (wr := wrS i j) (v := Str.ofString "v" ++ Str.ofString (toString (kk : Int))) (fun p hp => (hG p hp).low2) (low_gr hi5) (by show (grN (nmS i), _) = _; rw [grN_nm hi5]) hk4
  rename RowsIn _ _ (rowsP _ _ _ _ _) => R9
  rename PairsIn _ _ (deedP _ (rs.map f1) _ _) => P91
  rename PairsIn _ _ (deedP _ (rs.map f2) _ _) => P92
  rw [e1] at P91
  rw [e2] at P92
  refine h _ _ _ _ _ _ _ _ _ _ _ _ _ _ _ (ovr_fr (by assumption) ?_) (by assumption) (by assumption) (by assumption) (PairsIn.mono (fun p hp => List.mem_append_right _ (List.mem_append_right _ hp)) P91) (PairsIn.mono (fun p hp => List.mem_append_right _ hp) P92) R9 (rowsP_ok hG hGn) rowsP_len (by assumption)
  intro y hy
  obtain ⟨q1, q2, q3, q4⟩ := ovr_ne hy
  simp only [q1, q2, q3, q4, if_false]
  show (if STO.contains y = true then _ else _) = _
  rw [hy]
  rfl
end
end
section
open PySem PySem.W PySem.W.X PyProof.Rows PySem.Spec PyProof.Rows.LCg PyProof.Rows.LCt
def lawStmt (k : Nat) : Stmt := (lawBody.drop k).headD (.Return none default)
def pairD (p : Str × Str) : Dat := .tuple [.str p.1, .str p.2]
theorem PairsIn.dat {news : List (Addr × Obj)} {vs : List Value} {ps : List (Str × Str)} (h : PairsIn news vs ps) : DatAll news vs (ps.map pairD) := by
  induction h with
  | nil => exact .nil
  | cons hm _ ih => exact .cons (.tuple (vs := [_, _]) hm (.cons (.str _ _) (.cons (.str _ _) .nil))) ih
theorem pair_ok {ps : List (Str × Str)} (h : ∀ p ∈ ps, PyData.strOk p.1 = true ∧ PyData.strOk p.2 = true) : ∀ d ∈ ps.map pairD, kqdOk 8 d = true := by
  intro d hd
  obtain ⟨p, hp, rfl⟩ := List.mem_map.mp hd
  obtain ⟨h1, h2⟩ := h p hp
  simp [pairD, kqdOk, h1, h2]
theorem RowG.s1 {p : R3} (h : RowG p) : PyData.strOk (f1 p).1 = true ∧ PyData.strOk (f1 p).2 = true := ⟨h.ok.2.1, h.ok.2.2⟩
theorem RowG.s2 {p : R3} (h : RowG p) : PyData.strOk (f2 p).1 = true ∧ PyData.strOk (f2 p).2 = true := by
  have a : ∀ y ∈ okNames, PyData.strOk y = true := by decide +kernel
  exact ⟨a _ h.ok2, h.ok.2.2⟩
section
variable {w : World} {s : Shared} {A₀ : Around} {base h₀ : Heap} {outer : List Env} {env : Env}
  {L : Addr} {m : Str → Option Value} {news : List (Addr × Obj)} {mean : ExcName → Option Value} {mg mb : Str → Option Value} {Q : Value → Shared → Prop} {E : Value → Shared → Prop}
theorem ne_pairs {A : Around} {a b : Addr} {L9 na nb : List (Addr × Obj)} {xs ys : List Value} {ka : Nat} {ps : List (Str × Str)} (N : News h₀ L s.heap L9) (ma : (a, listOf xs.toArray ka) ∈ L9) (Pa : PairsIn na xs ps) (sa : ∀ p ∈ na, p ∈ L9)
    (mb : (b, lst ys) ∈ L9) (Pb : PairsIn nb ys ps) (sb : ∀ p ∈ nb, p ∈ L9) (ok : ∀ p ∈ ps, PyData.strOk p.1 = true ∧ PyData.strOk p.2 = true) (hu : A.units + 64 < cLine) (h : Q (.bool false) s) :
    wpAny (model P w) A (compareOp .NotEq (.ref a) (.ref b)) Q E s := by
  classical
  refine kqd_ne N ma rfl rfl Pa.dat sa mb rfl rfl Pb.dat sb (pair_ok ok) (pair_ok ok) hu ?_
  simpa using h
theorem src3_P {A : Around} {elt : PySem.Expr} {x y z : Str} {scope : Scope} {cl : List (Str × Addr)} {s₁ : Shared} {ax : Addr} {k : Nat} {rvs : List Value} {rs : List R3} {L9 n₀ : List (Addr × Obj)} (f : R3 → Str × Str)
    (hh : A.handled = none) (F : Fr h₀ L s₁.heap m) (N : News h₀ L s₁.heap L9) (hm : (ax, listOf rvs.toArray k) ∈ L9) (hrs : RowsIn n₀ rvs rs) (hsub : ∀ p ∈ n₀, p ∈ L9) (hlen : rs.length ≤ 1000)
    (hstep : ∀ nw, (∀ p ∈ L9, p ∈ nw) → ∀ x' y' z' t1 t2 t3, (x', y', z') ∈ rs → ∀ ys I oI C oC D m₂ h tk (E' : Value → Shared → Prop), NsObj oC m₂ → m₂ x = some (.str x' t1) → m₂ y = some (.str y' t2) → m₂ z = some (.str z' t3) → Fr h₀ L h m →
      News h₀ L h ((I, oI) :: (C, oC) :: (D, lst ys) :: nw) → Off3 I C D nw → ((@Ne Nat I C) ∧ (@Ne Nat I D) ∧ (@Ne Nat C D)) →
      wpAny (model P w) A (eval elt (compEnvC scope cl C env)) (CompEnd h₀ L m { s₁ with heap := h, toks := tk } I oI C oC D (lst ys) (fun _ => True) (fun q nw' => ∃ a u v, q = .ref a ∧ nw' = (a, tup2 (.str (f (x', y', z')).1 u) (.str (f (x', y', z')).2 v)) :: nw)) E' { s₁ with heap := h, toks := tk })
    (hfin : ∀ ys new D h tk, PairsIn new ys (rs.map f) → Fr h₀ L h m → News h₀ L h ((D, lst ys) :: (new ++ L9)) → Off1 D (new ++ L9) → Q (.ref D) { s₁ with heap := h, toks := tk }) :
    Src3 P w A h₀ L m env elt x y z scope cl Q (.ref ax) s₁ := by
  refine ⟨ax, rvs.toArray, k, L9, (fun i ys nw => ∃ new, nw = new ++ L9 ∧ PairsIn new ys ((rs.take i).map f)), rfl, hh, F, N, ?_, ⟨[], rfl, .nil⟩, ?_, ?_, ?_⟩
  · rw [List.size_toArray, hrs.length]; exact Nat.le_trans hlen (by decide)
  · rintro i ys nw ⟨new, rfl, _⟩
    exact List.mem_append_right _ hm
  · rintro i ys nw v ⟨new, rfl, hP⟩ hv
    obtain ⟨a, n9, u1, u2, u3, x9, y9, z9, rfl, hpi, hmem⟩ := hrs.get (by simpa using hv)
    refine ⟨a, n9, _, _, _, rfl, List.mem_append_right _ (hsub _ hmem), ?_⟩
    intro I oI C oC D m₂ h tk E' hC h1 h2 h3 F' N' off ne
    refine wpAny_mono (hstep _ (fun p hp => List.mem_append_right _ hp) x9 y9 z9 u1 u2 u3 (List.mem_of_getElem? hpi) ys I oI C oC D m₂ h tk E' hC h1 h2 h3 F' N' off ne) (fun q s' hq => ?_) fun _ _ e => e
    obtain ⟨h', tk', nw', e, F9, N9, off9, _, a9, u9, v9, rfl, rfl⟩ := hq
    refine ⟨h', tk', _, e, F9, N9, off9, trivial, (a9, _) :: new, rfl, ?_⟩
    rw [List.take_add_one, hpi, List.map_append]
    exact PairsIn.snoc (hP.mono fun p hp => .tail _ hp) (.head _)
  · rintro ys nw ⟨new, rfl, hP⟩ D h tk F' N' off
    rw [List.size_toArray, hrs.length, List.take_length] at hP
    exact hfin ys new D h tk hP F' N' off
theorem src3_S {A : Around} {elt : PySem.Expr} {x y z : Str} {scope : Scope} {cl : List (Str × Addr)} {s₁ : Shared} {ax : Addr} {k : Nat} {rvs : List Value} {rs : List R3} {L9 n₀ : List (Addr × Obj)} (f : R3 → Str)
    (hh : A.handled = none) (F : Fr h₀ L s₁.heap m) (N : News h₀ L s₁.heap L9) (hm : (ax, listOf rvs.toArray k) ∈ L9) (hrs : RowsIn n₀ rvs rs) (hsub : ∀ p ∈ n₀, p ∈ L9) (hlen : rs.length ≤ 1000)
    (hstep : ∀ x' y' z' t1 t2 t3, (x', y', z') ∈ rs → ∀ ys I oI C oC D m₂ h tk (E' : Value → Shared → Prop), NsObj oC m₂ → m₂ x = some (.str x' t1) → m₂ y = some (.str y' t2) → m₂ z = some (.str z' t3) → Fr h₀ L h m →
      News h₀ L h ((I, oI) :: (C, oC) :: (D, lst ys) :: L9) → Off3 I C D L9 → ((@Ne Nat I C) ∧ (@Ne Nat I D) ∧ (@Ne Nat C D)) →
      wpAny (model P w) A (eval elt (compEnvC scope cl C env)) (CompEnd h₀ L m { s₁ with heap := h, toks := tk } I oI C oC D (lst ys) (fun _ => True) (fun q nw' => ∃ u, q = .str (f (x', y', z')) u ∧ nw' = L9)) E' { s₁ with heap := h, toks := tk })
    (hfin : ∀ ys D h tk, StrsAre ys (rs.map f) → Fr h₀ L h m → News h₀ L h ((D, lst ys) :: L9) → Off1 D L9 → Q (.ref D) { s₁ with heap := h, toks := tk }) :
    Src3 P w A h₀ L m env elt x y z scope cl Q (.ref ax) s₁ := by
  refine ⟨ax, rvs.toArray, k, L9, (fun i ys nw => nw = L9 ∧ StrsAre ys ((rs.take i).map f)), rfl, hh, F, N, ?_, ⟨rfl, .nil⟩, ?_, ?_, ?_⟩
  · rw [List.size_toArray, hrs.length]; exact Nat.le_trans hlen (by decide)
  · rintro i ys nw ⟨rfl, _⟩
    exact hm
  · rintro i ys nw v ⟨rfl, hP⟩ hv
    obtain ⟨a, n9, u1, u2, u3, x9, y9, z9, rfl, hpi, hmem⟩ := hrs.get (by simpa using hv)
    refine ⟨a, n9, _, _, _, rfl, hsub _ hmem, ?_⟩
    intro I oI C oC D m₂ h tk E' hC h1 h2 h3 F' N' off ne
    refine wpAny_mono (hstep x9 y9 z9 u1 u2 u3 (List.mem_of_getElem? hpi) ys I oI C oC D m₂ h tk E' hC h1 h2 h3 F' N' off ne) (fun q s' hq => ?_) fun _ _ e => e
    obtain ⟨h', tk', nw', e, F9, N9, off9, _, u9, rfl, rfl⟩ := hq
    refine ⟨h', tk', _, e, F9, N9, off9, trivial, rfl, ?_⟩
    rw [List.take_add_one, hpi, List.map_append]
    exact StrsAre.snoc hP
  · rintro ys nw ⟨rfl, hP⟩ D h tk F' N' off
    rw [List.size_toArray, hrs.length, List.take_length] at hP
    exact hfin ys D h tk hP F' N' off
theorem items_one {k1 k2 : Tok} {cn cr l1 s1 d1 l2 s2 d2 r nu : Addr} {oN oR : Obj} {vs1 vs2 rvs nus : List Value} {n1 n2 rn nn : Nat} {tl : List (Addr × Obj)}
    (T : Top hd.view_39 loose mean mg mb h₀) (KX : (hd.heap_39 w.params).In h₀) (B : Below A₀ base outer h₀) (F : Fr h₀ L s.heap m)
    (N : News h₀ L s.heap ((cn, oN) :: (cr, oR) :: (l1, listOf vs1.toArray n1) :: (s1, instObj 175 d1) :: (d1, headD w k1 l1) :: (l2, listOf vs2.toArray n2) :: (s2, instObj 175 d2) :: (d2, headD w k2 l2) :: (r, listOf rvs.toArray rn) :: (nu, listOf nus.toArray nn) :: tl)) (hf : env.frame = some L) (hke : env.scope.kind = .function) (hlen : vs1.length ≤ 1000)
    (h : ∀ h' tk D, Fr h₀ L h' m → News h₀ L h' ((D, listOf vs1.toArray 0) :: (cn, oN) :: (cr, oR) :: (l1, listOf vs1.toArray n1) :: (s1, instObj 175 d1) :: (d1, headD w k1 l1) :: (l2, listOf vs2.toArray n2) :: (s2, instObj 175 d2) :: (d2, headD w k2 l2) :: (r, listOf rvs.toArray rn) :: (nu, listOf nus.toArray nn) :: tl) → Q (.ref D) { s with heap := h', toks := tk }) :
    wpAny (model PySem.Challenge.rw_mr0247_01.row.toRowW.prog w) (AK 600 1700 (env :: outer)) (PySem.call (.ref 139) [.ref s1] []) Q E s := by
  have sub : ∀ p ∈ (l1, listOf vs1.toArray n1) :: (s1, instObj 175 d1) :: (d1, headD w k1 l1) :: (cn, oN) :: (cr, oR) :: (l2, listOf vs2.toArray n2) :: (s2, instObj 175 d2) :: (d2, headD w k2 l2) :: (r, listOf rvs.toArray rn) :: (nu, listOf nus.toArray nn) :: tl, p ∈ (cn, oN) :: (cr, oR) :: (l1, listOf vs1.toArray n1) :: (s1, instObj 175 d1) :: (d1, headD w k1 l1) :: (l2, listOf vs2.toArray n2) :: (s2, instObj 175 d2) :: (d2, headD w k2 l2) :: (r, listOf rvs.toArray rn) :: (nu, listOf nus.toArray nn) :: tl := (List.forall_mem_cons.mpr ⟨(.tail _ (.tail _ (.head _))), (List.forall_mem_cons.mpr ⟨(.tail _ (.tail _ (.tail _ (.head _)))), (List.forall_mem_cons.mpr ⟨(.tail _ (.tail _ (.tail _ (.tail _ (.head _))))), (List.forall_mem_cons.mpr ⟨(.head _), (List.forall_mem_cons.mpr ⟨(.tail _ (.head _)), (List.forall_mem_cons.mpr ⟨(.tail _ (.tail _ (.tail _ (.tail _ (.tail _ (.head _)))))), (List.forall_mem_cons.mpr ⟨(.tail _ (.tail _ (.tail _ (.tail _ (.tail _ (.tail _ (.head _))))))), (List.forall_mem_cons.mpr ⟨(.tail _ (.tail _ (.tail _ (.tail _ (.tail _ (.tail _ (.tail _ (.head _)))))))), (List.forall_mem_cons.mpr ⟨(.tail _ (.tail _ (.tail _ (.tail _ (.tail _ (.tail _ (.tail _ (.tail _ (.head _))))))))), (List.forall_mem_cons.mpr ⟨(.tail _ (.tail _ (.tail _ (.tail _ (.tail _ (.tail _ (.tail _ (.tail _ (.tail _ (.head _)))))))))), (fun p hp => (.tail _ (.tail _ (.tail _ (.tail _ (.tail _ (.tail _ (.tail _ (.tail _ (.tail _ (.tail _ hp)))))))))))⟩)⟩)⟩)⟩)⟩)⟩)⟩)⟩)⟩)⟩)
  refine items_K (l := l1) (d := d1) (vs := vs1) (news := (cn, oN) :: (cr, oR) :: (l2, listOf vs2.toArray n2) :: (s2, instObj 175 d2) :: (d2, headD w k2 l2) :: (r, listOf rvs.toArray rn) :: (nu, listOf nus.toArray nn) :: tl) T KX B F (fun p hp => N p (sub p hp)) hf hke hlen ?_
  intro h' tk D F' N'
  refine h h' tk D F' (fun p hp => N' p ?_)
  revert p
  exact List.forall_mem_cons.mpr ⟨.head _, (List.forall_mem_cons.mpr ⟨(.tail _ (.tail _ (.tail _ (.tail _ (.head _))))), (List.forall_mem_cons.mpr ⟨(.tail _ (.tail _ (.tail _ (.tail _ (.tail _ (.head _)))))), (List.forall_mem_cons.mpr ⟨(.tail _ (.head _)), (List.forall_mem_cons.mpr ⟨(.tail _ (.tail _ (.head _))), (List.forall_mem_cons.mpr ⟨(.tail _ (.tail _ (.tail _ (.head _)))), (List.forall_mem_cons.mpr ⟨(.tail _ (.tail _ (.tail _ (.tail _ (.tail _ (.tail _ (.head _))))))), (List.forall_mem_cons.mpr ⟨(.tail _ (.tail _ (.tail _ (.tail _ (.tail _ (.tail _ (.tail _ (.head _)))))))), (List.forall_mem_cons.mpr ⟨(.tail _ (.tail _ (.tail _ (.tail _ (.tail _ (.tail _ (.tail _ (.tail _ (.head _))))))))), (List.forall_mem_cons.mpr ⟨(.tail _ (.tail _ (.tail _ (.tail _ (.tail _ (.tail _ (.tail _ (.tail _ (.tail _ (.head _)))))))))), (List.forall_mem_cons.mpr ⟨(.tail _ (.tail _ (.tail _ (.tail _ (.tail _ (.tail _ (.tail _ (.tail _ (.tail _ (.tail _ (.head _))))))))))), (fun p hp => (.tail _ (.tail _ (.tail _ (.tail _ (.tail _ (.tail _ (.tail _ (.tail _ (.tail _ (.tail _ (.tail _ hp))))))))))))⟩)⟩)⟩)⟩)⟩)⟩)⟩)⟩)⟩)⟩)⟩
theorem items_two {k1 k2 : Tok} {cn cr l1 s1 d1 l2 s2 d2 r nu : Addr} {oN oR : Obj} {vs1 vs2 rvs nus : List Value} {n1 n2 rn nn : Nat} {tl : List (Addr × Obj)}
    (T : Top hd.view_39 loose mean mg mb h₀) (KX : (hd.heap_39 w.params).In h₀) (B : Below A₀ base outer h₀) (F : Fr h₀ L s.heap m)
    (N : News h₀ L s.heap ((cn, oN) :: (cr, oR) :: (l1, listOf vs1.toArray n1) :: (s1, instObj 175 d1) :: (d1, headD w k1 l1) :: (l2, listOf vs2.toArray n2) :: (s2, instObj 175 d2) :: (d2, headD w k2 l2) :: (r, listOf rvs.toArray rn) :: (nu, listOf nus.toArray nn) :: tl)) (hf : env.frame = some L) (hke : env.scope.kind = .function) (hlen : vs2.length ≤ 1000)
    (h : ∀ h' tk D, Fr h₀ L h' m → News h₀ L h' ((D, listOf vs2.toArray 0) :: (cn, oN) :: (cr, oR) :: (l1, listOf vs1.toArray n1) :: (s1, instObj 175 d1) :: (d1, headD w k1 l1) :: (l2, listOf vs2.toArray n2) :: (s2, instObj 175 d2) :: (d2, headD w k2 l2) :: (r, listOf rvs.toArray rn) :: (nu, listOf nus.toArray nn) :: tl) → Q (.ref D) { s with heap := h', toks := tk }) :
    wpAny (model PySem.Challenge.rw_mr0247_01.row.toRowW.prog w) (AK 600 1700 (env :: outer)) (PySem.call (.ref 139) [.ref s2] []) Q E s := by
  have sub : ∀ p ∈ (l2, listOf vs2.toArray n2) :: (s2, instObj 175 d2) :: (d2, headD w k2 l2) :: (cn, oN) :: (cr, oR) :: (l1, listOf vs1.toArray n1) :: (s1, instObj 175 d1) :: (d1, headD w k1 l1) :: (r, listOf rvs.toArray rn) :: (nu, listOf nus.toArray nn) :: tl, p ∈ (cn, oN) :: (cr, oR) :: (l1, listOf vs1.toArray n1) :: (s1, instObj 175 d1) :: (d1, headD w k1 l1) :: (l2, listOf vs2.toArray n2) :: (s2, instObj 175 d2) :: (d2, headD w k2 l2) :: (r, listOf rvs.toArray rn) :: (nu, listOf nus.toArray nn) :: tl := (List.forall_mem_cons.mpr ⟨(.tail _ (.tail _ (.tail _ (.tail _ (.tail _ (.head _)))))), (List.forall_mem_cons.mpr ⟨(.tail _ (.tail _ (.tail _ (.tail _ (.tail _ (.tail _ (.head _))))))), (List.forall_mem_cons.mpr ⟨(.tail _ (.tail _ (.tail _ (.tail _ (.tail _ (.tail _ (.tail _ (.head _)))))))), (List.forall_mem_cons.mpr ⟨(.head _), (List.forall_mem_cons.mpr ⟨(.tail _ (.head _)), (List.forall_mem_cons.mpr ⟨(.tail _ (.tail _ (.head _))), (List.forall_mem_cons.mpr ⟨(.tail _ (.tail _ (.tail _ (.head _)))), (List.forall_mem_cons.mpr ⟨(.tail _ (.tail _ (.tail _ (.tail _ (.head _))))), (List.forall_mem_cons.mpr ⟨(.tail _ (.tail _ (.tail _ (.tail _ (.tail _ (.tail _ (.tail _ (.tail _ (.head _))))))))), (List.forall_mem_cons.mpr ⟨(.tail _ (.tail _ (.tail _ (.tail _ (.tail _ (.tail _ (.tail _ (.tail _ (.tail _ (.head _)))))))))), (fun p hp => (.tail _ (.tail _ (.tail _ (.tail _ (.tail _ (.tail _ (.tail _ (.tail _ (.tail _ (.tail _ hp)))))))))))⟩)⟩)⟩)⟩)⟩)⟩)⟩)⟩)⟩)⟩)
  refine items_K (l := l2) (d := d2) (vs := vs2) (news := (cn, oN) :: (cr, oR) :: (l1, listOf vs1.toArray n1) :: (s1, instObj 175 d1) :: (d1, headD w k1 l1) :: (r, listOf rvs.toArray rn) :: (nu, listOf nus.toArray nn) :: tl) T KX B F (fun p hp => N p (sub p hp)) hf hke hlen ?_
  intro h' tk D F' N'
  refine h h' tk D F' (fun p hp => N' p ?_)
  revert p
  exact List.forall_mem_cons.mpr ⟨.head _, (List.forall_mem_cons.mpr ⟨(.tail _ (.tail _ (.tail _ (.tail _ (.head _))))), (List.forall_mem_cons.mpr ⟨(.tail _ (.tail _ (.tail _ (.tail _ (.tail _ (.head _)))))), (List.forall_mem_cons.mpr ⟨(.tail _ (.tail _ (.tail _ (.tail _ (.tail _ (.tail _ (.head _))))))), (List.forall_mem_cons.mpr ⟨(.tail _ (.tail _ (.tail _ (.tail _ (.tail _ (.tail _ (.tail _ (.head _)))))))), (List.forall_mem_cons.mpr ⟨(.tail _ (.tail _ (.tail _ (.tail _ (.tail _ (.tail _ (.tail _ (.tail _ (.head _))))))))), (List.forall_mem_cons.mpr ⟨(.tail _ (.head _)), (List.forall_mem_cons.mpr ⟨(.tail _ (.tail _ (.head _))), (List.forall_mem_cons.mpr ⟨(.tail _ (.tail _ (.tail _ (.head _)))), (List.forall_mem_cons.mpr ⟨(.tail _ (.tail _ (.tail _ (.tail _ (.tail _ (.tail _ (.tail _ (.tail _ (.tail _ (.head _)))))))))), (List.forall_mem_cons.mpr ⟨(.tail _ (.tail _ (.tail _ (.tail _ (.tail _ (.tail _ (.tail _ (.tail _ (.tail _ (.tail _ (.head _))))))))))), (fun p hp => (.tail _ (.tail _ (.tail _ (.tail _ (.tail _ (.tail _ (.tail _ (.tail _ (.tail _ (.tail _ (.tail _ hp))))))))))))⟩)⟩)⟩)⟩)⟩)⟩)⟩)⟩)⟩)⟩)⟩
end
end
section
open PySem PySem.W PySem.W.X PyProof.Rows PySem.Spec PyProof.Rows.LCg PyProof.Rows.LCt
local macro_rules | `(tactic| walk_at "call ref") => `(tactic| (k_here; (with_reducible show wpAny _ _ (call (Value.ref 139) _ _) _ _ _); k_dflt (refine' AK_mono (items_one ?T ?X ?B ?F ?N ?f ?k ?ln ?_) ?h1 ?h2 ?h3 ?h4; (case h1 => exact rfl); (case h2 => exact rfl); (case h3 => exact Nat.le_of_ble_eq_true rfl); (case h4 => exact Nat.le_of_ble_eq_true rfl); (case T => k_asm); (case X => k_asm); (case B => k_asm); (case F => k_asm); (case N => first | k_asm | exact News.tl1 (by k_asm) | exact News.tl1 (News.tl1 (by k_asm))); (case f => exact rfl); (case k => exact rfl); (case ln => (rw [PairsIn.length (by assumption), List.length_map]; omega)); k_whole); intro h' tk' D' F' N'))
local macro_rules | `(tactic| walk_at "call ref") => `(tactic| (k_here; (with_reducible show wpAny _ _ (call (Value.ref 139) _ _) _ _ _); k_dflt (refine' AK_mono (items_two ?T ?X ?B ?F ?N ?f ?k ?ln ?_) ?h1 ?h2 ?h3 ?h4; (case h1 => exact rfl); (case h2 => exact rfl); (case h3 => exact Nat.le_of_ble_eq_true rfl); (case h4 => exact Nat.le_of_ble_eq_true rfl); (case T => k_asm); (case X => k_asm); (case B => k_asm); (case F => k_asm); (case N => first | k_asm | exact News.tl1 (by k_asm) | exact News.tl1 (News.tl1 (by k_asm))); (case f => exact rfl); (case k => exact rfl); (case ln => (rw [PairsIn.length (by assumption), List.length_map]; omega)); k_whole); intro h' tk' D' F' N'))
local macro_rules | `(tactic| walk_at "call ref") => `(tactic| (k_here; (with_reducible show wpAny _ _ (call (Value.ref 199) _ _) _ _ _); k_dflt (refine' AK_mono (great_K ?i5 ?T ?X ?B ?F ?N ?f ?k ?_) ?h1 ?h2 ?h3 ?h4; (case h1 => exact rfl); (case h2 => exact rfl); (case h3 => exact Nat.le_of_ble_eq_true rfl); (case h4 => exact Nat.le_of_ble_eq_true rfl); (case T => k_asm); (case X => k_asm); (case B => k_asm); (case F => k_asm); (case N => k_asm); (case f => exact rfl); (case k => exact rfl); (case i5 => assumption); k_whole); intro h' tk' t' F' N'))
local macro_rules | `(tactic| walk_at "eval ListComp") => `(tactic| (k_here; k_dflt (refine comp3 (F₀ := by k_asm) (by with_unfolding_all rfl) (by decide) (by rfl) (by decide) (by rfl) (by rfl) (by rfl) (by decide) (by decide) (by decide) ?_)))
section
open PySem PySem.W PySem.W.X PyProof.Rows PySem.Spec PyProof.Rows.LCg PyProof.Rows.LCt
local macro_rules | `(tactic| k_mem) => `(tactic| first | with_reducible exact List.Mem.head _ | assumption | (refine List.Mem.tail _ ?_; k_mem))
section
variable {w : World} {s : Shared} {A₀ : Around} {base h₀ : Heap} {outer : List Env} {env : Env}
  {L : Addr} {m : Str → Option Value} {news : List (Addr × Obj)} {mean : ExcName → Option Value} {mg mb : Str → Option Value} {Q : Value → Shared → Prop} {E : Value → Shared → Prop}
theorem st2_K {fa : Addr} {cd : Value} {u mB : Str → Option Value} {vN : Option Value} {QF : Flow → Shared → Prop} {k1 k2 : Tok} {l1 s1 d1 l2 s2 d2 r nu : Addr} {oN oR : Obj} {vs1 vs2 rvs nus : List Value} {n1 n2 rn nn : Nat} {tl : List (Addr × Obj)} {rs : List R3}
    (ap : Ap (L + 1 + 1) (L + 1) l1 s1 d1 l2 s2 d2 r nu tl) (hoN : oN.data = .cell vN) (hoR : oR.data = .cell (some (.ref r)))
    (T : Top hd.view_39 loose mean mg mb h₀) (KX : (hd.heap_39 w.params).In h₀) (B : Below callerA base [] h₀) (F : Fr h₀ L s.heap (ovr STO u (m1 nu s2 s1 mB)))
    (N : News h₀ L s.heap ((L + 1 + 1, oN) :: (L + 1, oR) :: (l1, listOf vs1.toArray n1) :: (s1, instObj 175 d1) :: (d1, headD w k1 l1) :: (l2, listOf vs2.toArray n2) :: (s2, instObj 175 d2) :: (d2, headD w k2 l2) :: (r, listOf rvs.toArray rn) :: (nu, listOf nus.toArray nn) :: tl)) (hp1 : PairsIn tl vs1 (rs.map f1)) (hp2 : PairsIn tl vs2 (rs.map f2)) (hrs : RowsIn tl rvs rs) (hG : ∀ p ∈ rs, RowG p) (hlen : rs.length ≤ 100)
    (h : ∀ h' tk, Fr h₀ L h' (ovr STO u (m1 nu s2 s1 mB)) → News h₀ L h' ((L + 1 + 1, oN) :: (L + 1, oR) :: (l1, listOf vs1.toArray n1) :: (s1, instObj 175 d1) :: (d1, headD w k1 l1) :: (l2, listOf vs2.toArray n2) :: (s2, instObj 175 d2) :: (d2, headD w k2 l2) :: (r, listOf rvs.toArray rn) :: (nu, listOf nus.toArray nn) :: tl) → QF .next { s with heap := h', toks := tk }) :
    wpAny (model PySem.Challenge.rw_mr0247_01.row.toRowW.prog w) (Around.deeper callerA (lawEnv L fa cd)) (exec (lawStmt 3) (lawEnv L fa cd)) QF E s := by
  obtain ⟨sc, hsc⟩ : ∃ sc, lawScope = sc := ⟨_, rfl⟩
  unfold lawEnv
  rw [hsc]
  replace hsc : sc = Scope.mk _ _ _ _ _ := hsc.symm
  subst hsc
  show wpAny _ _ (exec (Stmt.If _ _ _ _) _) _ _ _
  revert KX; k_fill; intro KX
  w_on
  w_strict (repeat (first | (k_unfold; (try dsimp only)) | walk1 | (dsimp only; walk1)))
  have hl10 : rs.length ≤ 1000 := by omega
  refine src3_P f1 (by rfl) (by k_asm) (by k_asm) (by k_mem) hrs (fun p hp => (.tail _ (.tail _ (.tail _ (.tail _ (.tail _ (.tail _ (.tail _ (.tail _ (.tail _ (.tail _ (.tail _ hp)))))))))))) hl10 ?step ?fin
  case step =>
    intro nw hnw x9 y9 z9 t1 t2 t3 hmr ys I oI C oC D m₂ h9 tk9 E' hC hm1 hm2 hm3 F9 N9 off9 ne9
    w_strict (repeat (first | (k_unfold; (try dsimp only)) | walk1 | (dsimp only; walk1)))
    refine CompEnd.intro (news' := _ :: nw) (by assumption) (by assumption) (List.forall_mem_cons.mpr ⟨(.tail _ (.head _)), (List.forall_mem_cons.mpr ⟨(.tail _ (.tail _ (.head _))), (List.forall_mem_cons.mpr ⟨(.tail _ (.tail _ (.tail _ (.head _)))), (List.forall_mem_cons.mpr ⟨(.head _), (fun p hp => (.tail _ (.tail _ (.tail _ (.tail _ hp)))))⟩)⟩)⟩)⟩) ⟨⟨by refine neN ?_; omega, by refine neN ?_; omega, by refine neN ?_; omega⟩, off9⟩ trivial ⟨_, _, _, rfl, rfl⟩
  case fin =>
    intro ys new D9 h9 tk9 hP F9 N9 off9
    w_strict (repeat (first | (k_unfold; (try dsimp only)) | walk1 | (dsimp only; walk1)))
    refine ne_pairs (by k_asm) (.tail _ (List.mem_append_right _ (.head _))) hp1 (fun p hp => .tail _ (List.mem_append_right _ (.tail _ (.tail _ (.tail _ (.tail _ (.tail _ (.tail _ (.tail _ (.tail _ (.tail _ (.tail _ (.tail _ hp))))))))))))) (.head _) hP (fun p hp => .tail _ (List.mem_append_left _ hp)) (fun p hp => by obtain ⟨q, hq, rfl⟩ := List.mem_map.mp hp; exact (hG q hq).s1) (Nat.le_of_ble_eq_true rfl) ?_
    w_strict (repeat (first | (k_unfold; (try dsimp only)) | walk1 | (dsimp only; walk1)))
    exact h _ _ (by assumption) (fun p hp => N9 p (.tail _ (List.mem_append_right _ (.tail _ hp))))
theorem st3_K {fa : Addr} {cd : Value} {u mB : Str → Option Value} {vN : Option Value} {QF : Flow → Shared → Prop} {k1 k2 : Tok} {l1 s1 d1 l2 s2 d2 r nu : Addr} {oN oR : Obj} {vs1 vs2 rvs nus : List Value} {n1 n2 rn nn : Nat} {tl : List (Addr × Obj)} {rs : List R3}
    (ap : Ap (L + 1 + 1) (L + 1) l1 s1 d1 l2 s2 d2 r nu tl) (hoN : oN.data = .cell vN) (hoR : oR.data = .cell (some (.ref r)))
    (T : Top hd.view_39 loose mean mg mb h₀) (KX : (hd.heap_39 w.params).In h₀) (B : Below callerA base [] h₀) (F : Fr h₀ L s.heap (ovr STO u (m1 nu s2 s1 mB)))
    (N : News h₀ L s.heap ((L + 1 + 1, oN) :: (L + 1, oR) :: (l1, listOf vs1.toArray n1) :: (s1, instObj 175 d1) :: (d1, headD w k1 l1) :: (l2, listOf vs2.toArray n2) :: (s2, instObj 175 d2) :: (d2, headD w k2 l2) :: (r, listOf rvs.toArray rn) :: (nu, listOf nus.toArray nn) :: tl)) (hp1 : PairsIn tl vs1 (rs.map f1)) (hp2 : PairsIn tl vs2 (rs.map f2)) (hrs : RowsIn tl rvs rs) (hG : ∀ p ∈ rs, RowG p) (hlen : rs.length ≤ 100)
    (h : ∀ h' tk, Fr h₀ L h' (ovr STO u (m1 nu s2 s1 mB)) → News h₀ L h' ((L + 1 + 1, oN) :: (L + 1, oR) :: (l1, listOf vs1.toArray n1) :: (s1, instObj 175 d1) :: (d1, headD w k1 l1) :: (l2, listOf vs2.toArray n2) :: (s2, instObj 175 d2) :: (d2, headD w k2 l2) :: (r, listOf rvs.toArray rn) :: (nu, listOf nus.toArray nn) :: tl) → QF .next { s with heap := h', toks := tk }) :
    wpAny (model PySem.Challenge.rw_mr0247_01.row.toRowW.prog w) (Around.deeper callerA (lawEnv L fa cd)) (exec (lawStmt 4) (lawEnv L fa cd)) QF E s := by
  obtain ⟨sc, hsc⟩ : ∃ sc, lawScope = sc := ⟨_, rfl⟩
  unfold lawEnv
  rw [hsc]
  replace hsc : sc = Scope.mk _ _ _ _ _ := hsc.symm
  subst hsc
  show wpAny _ _ (exec (Stmt.If _ _ _ _) _) _ _ _
  revert KX; k_fill; intro KX
  w_on
  w_strict (repeat (first | (k_unfold; (try dsimp only)) | walk1 | (dsimp only; walk1)))
  have hl10 : rs.length ≤ 1000 := by omega
  refine src3_P f2 (by rfl) (by k_asm) (by k_asm) (by k_mem) hrs (fun p hp => (.tail _ (.tail _ (.tail _ (.tail _ (.tail _ (.tail _ (.tail _ (.tail _ (.tail _ (.tail _ (.tail _ hp)))))))))))) hl10 ?step ?fin
  case step =>
    intro nw hnw x9 y9 z9 t1 t2 t3 hmr ys I oI C oC D m₂ h9 tk9 E' hC hm1 hm2 hm3 F9 N9 off9 ne9
    obtain ⟨i, j, hi5, hj3, e1, e2, e3⟩ := hG _ hmr
    replace e1 : x9 = nmS i := e1
    subst e1
    w_strict (repeat (first | (k_unfold; (try dsimp only)) | walk1 | (dsimp only; walk1)))
    refine CompEnd.intro (news' := _ :: nw) (by assumption) (by assumption) (List.forall_mem_cons.mpr ⟨(.tail _ (.head _)), (List.forall_mem_cons.mpr ⟨(.tail _ (.tail _ (.head _))), (List.forall_mem_cons.mpr ⟨(.tail _ (.tail _ (.tail _ (.head _)))), (List.forall_mem_cons.mpr ⟨(.head _), (fun p hp => (.tail _ (.tail _ (.tail _ (.tail _ hp)))))⟩)⟩)⟩)⟩) ⟨⟨by refine neN ?_; omega, by refine neN ?_; omega, by refine neN ?_; omega⟩, off9⟩ trivial ⟨_, _, _, rfl, by rw [show (f2 (nmS i, y9, z9)).1 = grS i from grN_nm hi5]; rfl⟩
  case fin =>
    intro ys new D9 h9 tk9 hP F9 N9 off9
    w_strict (repeat (first | (k_unfold; (try dsimp only)) | walk1 | (dsimp only; walk1)))
    refine ne_pairs (by k_asm) (.tail _ (List.mem_append_right _ (.head _))) hp2 (fun p hp => .tail _ (List.mem_append_right _ (.tail _ (.tail _ (.tail _ (.tail _ (.tail _ (.tail _ (.tail _ (.tail _ (.tail _ (.tail _ (.tail _ hp))))))))))))) (.head _) hP (fun p hp => .tail _ (List.mem_append_left _ hp)) (fun p hp => by obtain ⟨q, hq, rfl⟩ := List.mem_map.mp hp; exact (hG q hq).s2) (Nat.le_of_ble_eq_true rfl) ?_
    w_strict (repeat (first | (k_unfold; (try dsimp only)) | walk1 | (dsimp only; walk1)))
    exact h _ _ (by assumption) (fun p hp => N9 p (.tail _ (List.mem_append_right _ (.tail _ hp))))
end
end
section
open PySem PySem.W PySem.W.X PyProof.Rows PySem.Spec PyProof.Rows.LCg PyProof.Rows.LCt
theorem of_empty : Str.ofString "" = Str.empty := by decide +kernel
theorem join_is (sep : Str) (xs : List Str) : Txt.join sep xs = Str.join sep xs := StrLaws.glued_eq_join sep xs
theorem join0_cons (x : Str) (xs : List Str) : Str.join Str.empty (x :: xs) = x ++ Str.join Str.empty xs := by
  cases xs with
  | nil => show x = x ++ Str.empty; rw [Str.append_empty]
  | cons y r => show x ++ Str.empty ++ Str.join Str.empty (y :: r) = _; rw [Str.append_empty]
theorem joinS_cons (sep x : Str) {xs : List Str} (h : xs ≠ []) : Str.join sep (x :: xs) = x ++ sep ++ Str.join sep xs := by
  cases xs with
  | nil => exact absurd rfl h
  | cons y r => rfl
theorem crlf_law (sep : Str) : ∀ xs : List Str, Str.join sep (xs ++ [Str.empty, Str.empty]) = Str.join Str.empty (xs.map (· ++ sep)) ++ sep
  | [] => by
    show Str.empty ++ sep ++ Str.empty = Str.empty ++ sep
    rw [Str.append_empty]
  | x :: xs => by
    rw [List.cons_append, joinS_cons sep x (by simp), crlf_law sep xs, List.map_cons, join0_cons, Str.append_assoc]
    simp only [Str.append_assoc]
theorem join0_len : ∀ xs : List Str, (Str.join Str.empty xs).length = (xs.map (·.length)).sum
  | [] => rfl
  | x :: xs => by rw [join0_cons, Str.length_append, join0_len xs, List.map_cons, List.sum_cons]
def gT (p : R3) : Str := grN p.1 ++ Str.ofString ": " ++ p.2.2 ++ Str.ofString "\r\n"
theorem text_law (rs : List R3) : Txt.join (Str.ofString "\r\n") ((rs.map f2).map lineT ++ [Str.ofString "", Str.ofString ""]) = Txt.join (Str.ofString "") (rs.map gT) ++ Str.ofString "\r\n" := by
  rw [join_is, join_is, of_empty, crlf_law, List.map_map, List.map_map]
  rfl
theorem gT_len {p : R3} (h : RowG p) : (gT p).length ≤ 204 := by
  have h1 := okName_len h.ok2
  have h2 : p.2.2.length ≤ 100 := by obtain ⟨i, j, _, _, _, _, e⟩ := h; exact okVal_len e
  replace h1 : (grN p.1).length ≤ 100 := h1
  unfold gT
  rw [Str.length_append, Str.length_append, Str.length_append]
  have a : (Str.ofString ": ").length = 2 := by decide +kernel
  have b : (Str.ofString "\r\n").length = 2 := by decide +kernel
  omega
theorem gT_sum {rs : List R3} (h : ∀ p ∈ rs, RowG p) : ((rs.map gT).map (·.length)).sum ≤ 204 * rs.length := by
  have := sum_len (c := 204) (rs.map gT) (fun x hx => by obtain ⟨p, hp, rfl⟩ := List.mem_map.mp hx; exact gT_len (h p hp))
  rwa [List.length_map] at this
theorem gT_join_len {rs : List R3} (h : ∀ p ∈ rs, RowG p) : (Txt.join (Str.ofString "") (rs.map gT)).length ≤ 204 * rs.length := by
  rw [join_is, of_empty, join0_len]
  exact gT_sum h
section
variable {w : World} {s : Shared} {Q : Value → Shared → Prop} {E : Value → Shared → Prop}
theorem ne_eq {A : Around} {x y : Str} {t u : Tok} (e : x = y) (h : Q (.bool false) s) : wpAny (model P w) A (compareOp .NotEq (.str x t) (.str y u)) Q E s := by
  subst e
  exact ne_self h
end
end
section
open PySem PySem.W PySem.W.X PyProof.Rows PySem.Spec PyProof.Rows.LCg PyProof.Rows.LCt
section
variable {w : World} {s : Shared} {A₀ : Around} {base h₀ : Heap} {outer : List Env} {env : Env}
  {L : Addr} {m : Str → Option Value} {news : List (Addr × Obj)} {mean : ExcName → Option Value} {mg mb : Str → Option Value} {Q : Value → Shared → Prop} {E : Value → Shared → Prop}
theorem str_two {k1 k2 : Tok} {cn cr l1 s1 d1 l2 s2 d2 r nu : Addr} {oN oR : Obj} {vs1 vs2 rvs nus : List Value} {n1 n2 rn nn : Nat} {tl : List (Addr × Obj)} {ps : List (Str × Str)}
    (T : Top hd.view_39 loose mean mg mb h₀) (KX : (hd.heap_39 w.params).In h₀) (B : Below A₀ base outer h₀) (F : Fr h₀ L s.heap m)
    (N : News h₀ L s.heap ((cn, oN) :: (cr, oR) :: (l1, listOf vs1.toArray n1) :: (s1, instObj 175 d1) :: (d1, headD w k1 l1) :: (l2, listOf vs2.toArray n2) :: (s2, instObj 175 d2) :: (d2, headD w k2 l2) :: (r, listOf rvs.toArray rn) :: (nu, listOf nus.toArray nn) :: tl)) (hf : env.frame = some L) (hke : env.scope.kind = .function) (hps : PairsIn tl vs2 ps) (hok : ∀ p ∈ ps, p.1 ∈ okNames ∧ p.2 ∈ okVals) (hlen : ps.length ≤ 1000)
    (h : ∀ h' tk t', Fr h₀ L h' m → News h₀ L h' ((cn, oN) :: (cr, oR) :: (l1, listOf vs1.toArray n1) :: (s1, instObj 175 d1) :: (d1, headD w k1 l1) :: (l2, listOf vs2.toArray n2) :: (s2, instObj 175 d2) :: (d2, headD w k2 l2) :: (r, listOf rvs.toArray rn) :: (nu, listOf nus.toArray nn) :: tl) → Q (.str (Txt.join (Str.ofString "\r\n") (ps.map lineT ++ [Str.ofString "", Str.ofString ""])) t') { s with heap := h', toks := tk }) :
    wpAny (model PySem.Challenge.rw_mr0247_01.row.toRowW.prog w) (AK 450 1200 (env :: outer)) (PySem.call (.ref 151) [.ref s2] []) Q E s := by
  have sub : ∀ p ∈ (l2, listOf vs2.toArray n2) :: (s2, instObj 175 d2) :: (d2, headD w k2 l2) :: (cn, oN) :: (cr, oR) :: (l1, listOf vs1.toArray n1) :: (s1, instObj 175 d1) :: (d1, headD w k1 l1) :: (r, listOf rvs.toArray rn) :: (nu, listOf nus.toArray nn) :: tl, p ∈ (cn, oN) :: (cr, oR) :: (l1, listOf vs1.toArray n1) :: (s1, instObj 175 d1) :: (d1, headD w k1 l1) :: (l2, listOf vs2.toArray n2) :: (s2, instObj 175 d2) :: (d2, headD w k2 l2) :: (r, listOf rvs.toArray rn) :: (nu, listOf nus.toArray nn) :: tl := (List.forall_mem_cons.mpr ⟨(.tail _ (.tail _ (.tail _ (.tail _ (.tail _ (.head _)))))), (List.forall_mem_cons.mpr ⟨(.tail _ (.tail _ (.tail _ (.tail _ (.tail _ (.tail _ (.head _))))))), (List.forall_mem_cons.mpr ⟨(.tail _ (.tail _ (.tail _ (.tail _ (.tail _ (.tail _ (.tail _ (.head _)))))))), (List.forall_mem_cons.mpr ⟨(.head _), (List.forall_mem_cons.mpr ⟨(.tail _ (.head _)), (List.forall_mem_cons.mpr ⟨(.tail _ (.tail _ (.head _))), (List.forall_mem_cons.mpr ⟨(.tail _ (.tail _ (.tail _ (.head _)))), (List.forall_mem_cons.mpr ⟨(.tail _ (.tail _ (.tail _ (.tail _ (.head _))))), (List.forall_mem_cons.mpr ⟨(.tail _ (.tail _ (.tail _ (.tail _ (.tail _ (.tail _ (.tail _ (.tail _ (.head _))))))))), (List.forall_mem_cons.mpr ⟨(.tail _ (.tail _ (.tail _ (.tail _ (.tail _ (.tail _ (.tail _ (.tail _ (.tail _ (.head _)))))))))), (fun p hp => (.tail _ (.tail _ (.tail _ (.tail _ (.tail _ (.tail _ (.tail _ (.tail _ (.tail _ (.tail _ hp)))))))))))⟩)⟩)⟩)⟩)⟩)⟩)⟩)⟩)⟩)⟩)
  refine str_K (l := l2) (d := d2) (vs := vs2) (news := (cn, oN) :: (cr, oR) :: (l1, listOf vs1.toArray n1) :: (s1, instObj 175 d1) :: (d1, headD w k1 l1) :: (r, listOf rvs.toArray rn) :: (nu, listOf nus.toArray nn) :: tl) T KX B F (fun p hp => N p (sub p hp)) hf hke (hps.mono fun p hp => (.tail _ (.tail _ (.tail _ (.tail _ (.tail _ (.tail _ (.tail _ hp)))))))) hok hlen ?_
  intro h' tk t' F' N'
  refine h h' tk t' F' (fun p hp => N' p ?_)
  revert p
  exact (List.forall_mem_cons.mpr ⟨(.tail _ (.tail _ (.tail _ (.head _)))), (List.forall_mem_cons.mpr ⟨(.tail _ (.tail _ (.tail _ (.tail _ (.head _))))), (List.forall_mem_cons.mpr ⟨(.tail _ (.tail _ (.tail _ (.tail _ (.tail _ (.head _)))))), (List.forall_mem_cons.mpr ⟨(.tail _ (.tail _ (.tail _ (.tail _ (.tail _ (.tail _ (.head _))))))), (List.forall_mem_cons.mpr ⟨(.tail _ (.tail _ (.tail _ (.tail _ (.tail _ (.tail _ (.tail _ (.head _)))))))), (List.forall_mem_cons.mpr ⟨(.head _), (List.forall_mem_cons.mpr ⟨(.tail _ (.head _)), (List.forall_mem_cons.mpr ⟨(.tail _ (.tail _ (.head _))), (List.forall_mem_cons.mpr ⟨(.tail _ (.tail _ (.tail _ (.tail _ (.tail _ (.tail _ (.tail _ (.tail _ (.head _))))))))), (List.forall_mem_cons.mpr ⟨(.tail _ (.tail _ (.tail _ (.tail _ (.tail _ (.tail _ (.tail _ (.tail _ (.tail _ (.head _)))))))))), (fun p hp => (.tail _ (.tail _ (.tail _ (.tail _ (.tail _ (.tail _ (.tail _ (.tail _ (.tail _ (.tail _ hp)))))))))))⟩)⟩)⟩)⟩)⟩)⟩)⟩)⟩)⟩)⟩)
theorem ok_22 {rs : List R3} (h : ∀ p ∈ rs, RowG p) : ∀ q ∈ rs.map f2, q.1 ∈ okNames ∧ q.2 ∈ okVals := fun q hq => by obtain ⟨p, hp, rfl⟩ := List.mem_map.mp hq; exact ⟨(h p hp).ok2, by obtain ⟨i, j, _, _, _, _, e⟩ := h p hp; exact e⟩
end
local macro_rules | `(tactic| k_mem) => `(tactic| first | with_reducible exact List.Mem.head _ | assumption | (refine List.Mem.tail _ ?_; k_mem))
local macro_rules | `(tactic| walk_at "call ref") => `(tactic| (k_here; (with_reducible show wpAny _ _ (call (Value.ref 151) _ _) _ _ _); k_dflt (refine' AK_mono (str_two ?T ?X ?B ?F ?N ?f ?k ?p ?ok ?ln ?_) ?h1 ?h2 ?h3 ?h4; (case h1 => exact rfl); (case h2 => exact rfl); (case h3 => exact Nat.le_of_ble_eq_true rfl); (case h4 => exact Nat.le_of_ble_eq_true rfl); (case T => k_asm); (case X => k_asm); (case B => k_asm); (case F => k_asm); (case N => first | k_asm | exact News.tl1 (by k_asm) | exact News.tl1 (News.tl1 (by k_asm))); (case f => exact rfl); (case k => exact rfl); (case p => assumption); (case ok => exact ok_22 (by assumption)); (case ln => (rw [List.length_map]; omega)); k_whole); intro h' tk' t' F' N'))
local macro_rules | `(tactic| walk_at "binaryOp Add str str") => `(tactic| (k_here; k_dflt (refine' add_txt ?l ?_; (case l => (simp only [PySem.Str.length_append]; omega)); k_whole); intro t' tk'))
local macro_rules | `(tactic| walk_at "compareOp NotEq str str") => `(tactic| (k_here; k_dflt (refine ne_eq (text_law _) ?_)))
section
variable {w : World} {s : Shared} {A₀ : Around} {base h₀ : Heap} {outer : List Env} {env : Env}
  {L : Addr} {m : Str → Option Value} {news : List (Addr × Obj)} {mean : ExcName → Option Value} {mg mb : Str → Option Value} {Q : Value → Shared → Prop} {E : Value → Shared → Prop}
theorem st6_K {fa : Addr} {cd : Value} {u mB : Str → Option Value} {vN : Option Value} {QF : Flow → Shared → Prop} {k1 k2 : Tok} {l1 s1 d1 l2 s2 d2 r nu : Addr} {oN oR : Obj} {vs1 vs2 rvs nus : List Value} {n1 n2 rn nn : Nat} {tl : List (Addr × Obj)} {rs : List R3}
    (ap : Ap (L + 1 + 1) (L + 1) l1 s1 d1 l2 s2 d2 r nu tl) (hoN : oN.data = .cell vN) (hoR : oR.data = .cell (some (.ref r)))
    (T : Top hd.view_39 loose mean mg mb h₀) (KX : (hd.heap_39 w.params).In h₀) (B : Below callerA base [] h₀) (F : Fr h₀ L s.heap (ovr STO u (m1 nu s2 s1 mB)))
    (N : News h₀ L s.heap ((L + 1 + 1, oN) :: (L + 1, oR) :: (l1, listOf vs1.toArray n1) :: (s1, instObj 175 d1) :: (d1, headD w k1 l1) :: (l2, listOf vs2.toArray n2) :: (s2, instObj 175 d2) :: (d2, headD w k2 l2) :: (r, listOf rvs.toArray rn) :: (nu, listOf nus.toArray nn) :: tl)) (hp1 : PairsIn tl vs1 (rs.map f1)) (hp2 : PairsIn tl vs2 (rs.map f2)) (hrs : RowsIn tl rvs rs) (hG : ∀ p ∈ rs, RowG p) (hlen : rs.length ≤ 100)
    (h : ∀ h' tk, Fr h₀ L h' (ovr STO u (m1 nu s2 s1 mB)) → News h₀ L h' ((L + 1 + 1, oN) :: (L + 1, oR) :: (l1, listOf vs1.toArray n1) :: (s1, instObj 175 d1) :: (d1, headD w k1 l1) :: (l2, listOf vs2.toArray n2) :: (s2, instObj 175 d2) :: (d2, headD w k2 l2) :: (r, listOf rvs.toArray rn) :: (nu, listOf nus.toArray nn) :: tl) → QF .next { s with heap := h', toks := tk }) :
    wpAny (model PySem.Challenge.rw_mr0247_01.row.toRowW.prog w) (Around.deeper callerA (lawEnv L fa cd)) (exec (lawStmt 6) (lawEnv L fa cd)) QF E s := by
  obtain ⟨sc, hsc⟩ : ∃ sc, lawScope = sc := ⟨_, rfl⟩
  unfold lawEnv
  rw [hsc]
  replace hsc : sc = Scope.mk _ _ _ _ _ := hsc.symm
  subst hsc
  show wpAny _ _ (exec (Stmt.If _ _ _ _) _) _ _ _
  revert KX; k_fill; intro KX
  w_on
  w_strict (repeat (first | (k_unfold; (try dsimp only)) | walk1 | (dsimp only; walk1)))
  dsimp only [StrBack]
  w_strict (repeat (first | (k_unfold; (try dsimp only)) | walk1 | (dsimp only; walk1)))
  have hl10 : rs.length ≤ 1000 := by omega
  refine src3_S gT (by rfl) (by k_asm) (by k_asm) (by k_mem) hrs (fun p hp => (.tail _ (.tail _ (.tail _ (.tail _ (.tail _ (.tail _ (.tail _ (.tail _ (.tail _ (.tail _ hp))))))))))) hl10 ?step ?fin
  case step =>
    intro x9 y9 z9 t1 t2 t3 hmr ys I oI C oC D m₂ h9 tk9 E' hC hm1 hm2 hm3 F9 N9 off9 ne9
    obtain ⟨i, j, hi5, hj3, e1, e2, e3⟩ := hG _ hmr
    replace e1 : x9 = nmS i := e1
    subst e1
    have q1 : (grS i).length ≤ 100 := okName_len (gr_ok hi5)
    have q2 : z9.length ≤ 100 := okVal_len e3
    have q3 : (Str.ofString ": ").length = 2 := by decide +kernel
    have q4 : (Str.ofString "\r\n").length = 2 := by decide +kernel
    w_strict (repeat (first | (k_unfold; (try dsimp only)) | walk1 | (dsimp only; walk1)))
    refine CompEnd.intro (by assumption) (by assumption) _ (fun p hp => hp) off9 trivial ⟨_, congrArg (fun y => Value.str y _) (show _ = gT (nmS i, y9, z9) by show _ = grN (nmS i) ++ _ ++ _ ++ _; rw [grN_nm hi5]), rfl⟩
  case fin =>
    intro ys D9 h9 tk9 hP F9 N9 off9
    have q4 : (Str.ofString "\r\n").length = 2 := by decide +kernel
    have q5 := gT_join_len hG
    w_strict (repeat (first | (k_unfold; (try dsimp only)) | walk1 | (dsimp only; walk1)))
    refine' join_listW (ys := rs.map gT) ?zl ?zi ?zs ?zw ?_
    case zl => exact News.isList (by k_asm) (by k_mem)
    case zi => exact kitStrs hP
    case zs => decide
    case zw =>
      have h1 := gT_sum hG
      rw [List.length_map]
      omega
    intro t' tk'
    w_strict (repeat (first | (k_unfold; (try dsimp only)) | walk1 | (dsimp only; walk1)))
    exact h _ _ (by assumption) (fun p hp => N9 p (.tail _ hp))
end
end
end
section
open PySem PySem.W PySem.W.X PyProof.Rows PySem.Spec PyProof.Rows.LCg PyProof.Rows.LCt
theorem StrsAre.dat {vs : List Value} {xs : List Str} (h : StrsAre vs xs) : DatAll [] vs (xs.map Dat.str) := by
  induction h with
  | nil => exact .nil
  | cons _ ih => exact .cons (.str _ _) ih
theorem strs_ok {xs : List Str} (h : ∀ x ∈ xs, PyData.strOk x = true) : ∀ d ∈ xs.map Dat.str, kqdOk 8 d = true := by
  intro d hd
  obtain ⟨x, hx, rfl⟩ := List.mem_map.mp hd
  simp [kqdOk, h x hx]
def valsOf (rs : List R3) (x : Str) : List Str := (rs.filter fun p => p.1 == x).map (·.2.2)
theorem vals_ok {rs : List R3} {x : Str} (h : ∀ p ∈ rs, RowG p) : ∀ v ∈ valsOf rs x, PyData.strOk v = true := by
  intro v hv
  obtain ⟨p, hp, rfl⟩ := List.mem_map.mp hv
  exact (h p (List.mem_filter.mp hp).1).ok.2.2
theorem vals_map {f : R3 → Str × Str} {rs : List R3} {z x : Str} (h : ∀ p ∈ rs, low (f p).1 = p.1) (hf : ∀ p, (f p).2 = p.2.2) (hz : low z = x) : (((rs.map f).filter fun q => low q.1 == low z).map (·.2)) = valsOf rs x := by
  rw [hz]
  have e := filter_map_low (x := x) (g := fun a b => a == b) h
  rw [e, List.map_map]
  unfold valsOf
  congr 1
  funext p
  exact hf p
theorem find_vals {f : R3 → Str × Str} {rs : List R3} {z x : Str} (h : ∀ p ∈ rs, low (f p).1 = p.1) (hf : ∀ p, (f p).2 = p.2.2) (hz : low z = x) : ((rs.map f).find? fun q => low q.1 == low z).map (·.2) = (valsOf rs x).head? := by
  rw [← vals_map h hf hz, List.head?_map, List.head?_filter]
section
variable {w : World} {s : Shared} {A₀ : Around} {base h₀ : Heap} {outer : List Env} {env : Env}
  {L : Addr} {m : Str → Option Value} {news : List (Addr × Obj)} {mean : ExcName → Option Value} {mg mb : Str → Option Value} {Q : Value → Shared → Prop} {E : Value → Shared → Prop}
theorem ne_strs {A : Around} {a b : Addr} {L9 : List (Addr × Obj)} {oa ob : Obj} {xs ys : List Value} {ka kb : Nat} {zs : List Str} (N : News h₀ L s.heap L9) (ma : (a, oa) ∈ L9) (ca : oa.cls = .type "list") (da : oa.data = .seq xs.toArray ka)
    (mb : (b, ob) ∈ L9) (cb : ob.cls = .type "list") (db : ob.data = .seq ys.toArray kb) (ha : StrsAre xs zs) (hb : StrsAre ys zs) (hok : ∀ x ∈ zs, PyData.strOk x = true) (hu : A.units + 64 < cLine) (h : Q (.bool false) s) :
    wpAny (model P w) A (compareOp .NotEq (.ref a) (.ref b)) Q E s := by
  classical
  refine kqd_ne N ma ca da ha.dat (fun _ hp => nomatch hp) mb cb db hb.dat (fun _ hp => nomatch hp) (strs_ok hok) (strs_ok hok) hu ?_
  simpa using h
theorem ne_nilS {A : Around} {bv : Bool} {a b : Addr} {L9 : List (Addr × Obj)} {oa ob : Obj} {xs : List Value} {ka kb : Nat} {zs : List Str} (N : News h₀ L s.heap L9) (ma : (a, oa) ∈ L9) (ca : oa.cls = .type "list") (da : oa.data = .seq xs.toArray ka)
    (mb : (b, ob) ∈ L9) (cb : ob.cls = .type "list") (db : ob.data = .seq ([] : List Value).toArray kb) (ha : StrsAre xs zs) (hok : ∀ x ∈ zs, PyData.strOk x = true) (hu : A.units + 64 < cLine) (hbv : (!zs.isEmpty) = bv) (h : Q (.bool bv) s) :
    wpAny (model P w) A (compareOp .NotEq (.ref a) (.ref b)) Q E s := by
  classical
  refine kqd_ne N ma ca da ha.dat (fun _ hp => nomatch hp) mb cb db (DatAll.nil (news := [])) (fun _ hp => nomatch hp) (strs_ok hok) (fun _ hp => nomatch hp) hu ?_
  have e : (!decide (zs.map Dat.str = [])) = !zs.isEmpty := by cases zs <;> simp
  exact (e.trans hbv) ▸ h
theorem item_hd {A : Around} {value slice : PySem.Expr} {L9 : List (Addr × Obj)} {a : Addr} {x : Value} {xs : List Value} {n : Nat} {u : Tok} (N : News h₀ L s.heap L9) (hm : (a, listOf (x :: xs).toArray n) ∈ L9) (h : Q x s)
    (hs : subscripted slice false (.ref a) (.int 0 u) = operate [.ref a, .int 0 u] (getItem (.ref a) (.int 0 u)) := by with_unfolding_all rfl) :
    wpAny (model P w) A (subscriptTail value slice (.ref a) (.int 0 u)) Q E s := item_row N hm (by decide) (by decide) (by simp) h hs
theorem getall_L {x : Str} {t tk0 : Tok} {self d l : Addr} {vs : List Value} {n : Nat} {ps : List (Str × Str)} {L9 n₀ : List (Addr × Obj)}
    (T : Top hd.view_39 loose mean mg mb h₀) (KX : (hd.heap_39 w.params).In h₀) (B : Below A₀ base outer h₀) (F : Fr h₀ L s.heap m)
    (N : News h₀ L s.heap L9) (m2 : (self, instObj 175 d) ∈ L9) (m3 : (d, headD w tk0 l) ∈ L9) (m1 : (l, listOf vs.toArray n) ∈ L9) (hf : env.frame = some L) (hke : env.scope.kind = .function)
    (hps : PairsIn n₀ vs ps) (hsub : ∀ p ∈ n₀, p ∈ L9) (hok : ∀ p ∈ ps, p.1 ∈ okNames) (hx : x ∈ okNames) (hlen : ps.length ≤ 1000)
    (h : ∀ D h' tk ys, Fr h₀ L h' m → News h₀ L h' ((D, lst ys) :: L9) → StrsAre ys ((ps.filter fun p => low p.1 == low x).map (·.2)) → Q (.ref D) { s with heap := h', toks := tk }) :
    wpAny (model PySem.Challenge.rw_mr0247_01.row.toRowW.prog w) (AK 600 1700 (env :: outer)) (PySem.call (.ref 114) [.ref self, .str x t] []) Q E s := by
  have sub : ∀ p ∈ (l, listOf vs.toArray n) :: (self, instObj 175 d) :: (d, headD w tk0 l) :: L9, p ∈ L9 := List.forall_mem_cons.mpr ⟨m1, List.forall_mem_cons.mpr ⟨m2, List.forall_mem_cons.mpr ⟨m3, fun p hp => hp⟩⟩⟩
  refine getall_K (l := l) (d := d) (vs := vs) (news := L9) T KX B F (fun p hp => N p (sub p hp)) hf hke (hps.mono hsub) hok hx hlen ?_
  · intro D h' tk ys F' N' hy
    refine h D h' tk ys F' (fun p hp => N' p ?_) hy
    revert p; exact List.forall_mem_cons.mpr ⟨.head _, fun p hp => .tail _ (.tail _ (.tail _ (.tail _ hp)))⟩
theorem get_L {x : Str} {t tk0 : Tok} {self d l : Addr} {vs : List Value} {n : Nat} {ps : List (Str × Str)} {L9 n₀ : List (Addr × Obj)} {ov : Option Str}
    (T : Top hd.view_39 loose mean mg mb h₀) (KX : (hd.heap_39 w.params).In h₀) (B : Below A₀ base outer h₀) (F : Fr h₀ L s.heap m)
    (N : News h₀ L s.heap L9) (m2 : (self, instObj 175 d) ∈ L9) (m3 : (d, headD w tk0 l) ∈ L9) (m1 : (l, listOf vs.toArray n) ∈ L9) (hf : env.frame = some L) (hke : env.scope.kind = .function)
    (hps : PairsIn n₀ vs ps) (hsub : ∀ p ∈ n₀, p ∈ L9) (hok : ∀ p ∈ ps, p.1 ∈ okNames) (hx : x ∈ okNames) (hlen : ps.length ≤ 1000) (hfd : (ps.find? fun p => low p.1 == low x).map (·.2) = ov)
    (h : ∀ h' tk t', Fr h₀ L h' m → News h₀ L h' L9 → Q (match ov with | none => .none | some v => .str v t') { s with heap := h', toks := tk }) :
    wpAny (model PySem.Challenge.rw_mr0247_01.row.toRowW.prog w) (AK 600 1700 (env :: outer)) (PySem.call (.ref 122) [.ref self, .str x t] []) Q E s := by
  have sub : ∀ p ∈ (l, listOf vs.toArray n) :: (self, instObj 175 d) :: (d, headD w tk0 l) :: L9, p ∈ L9 := List.forall_mem_cons.mpr ⟨m1, List.forall_mem_cons.mpr ⟨m2, List.forall_mem_cons.mpr ⟨m3, fun p hp => hp⟩⟩⟩
  cases e : (ps.find? fun p => low p.1 == low x) with
  | none =>
    rw [e] at hfd
    replace hfd : none = ov := hfd
    subst hfd
    exact get_none_K (l := l) (d := d) (vs := vs) (news := L9) T KX B F (fun p hp => N p (sub p hp)) hf hke (hps.mono hsub) hok hx hlen e fun h' tk F' N' => h h' tk 0 F' fun p hp => N' p (.tail _ (.tail _ (.tail _ hp)))
  | some q =>
    rw [e] at hfd
    replace hfd : some q.2 = ov := hfd
    subst hfd
    exact get_some_K (l := l) (d := d) (vs := vs) (news := L9) T KX B F (fun p hp => N p (sub p hp)) hf hke (hps.mono hsub) hok hx hlen e fun h' tk t' F' N' => h h' tk t' F' fun p hp => N' p (.tail _ (.tail _ (.tail _ hp)))
theorem contains_L {x : Str} {t tk0 : Tok} {self d l : Addr} {vs : List Value} {n : Nat} {ps : List (Str × Str)} {L9 n₀ : List (Addr × Obj)} {ov : Option Str}
    (T : Top hd.view_39 loose mean mg mb h₀) (KX : (hd.heap_39 w.params).In h₀) (B : Below A₀ base outer h₀) (F : Fr h₀ L s.heap m)
    (N : News h₀ L s.heap L9) (m2 : (self, instObj 175 d) ∈ L9) (m3 : (d, headD w tk0 l) ∈ L9) (m1 : (l, listOf vs.toArray n) ∈ L9) (hf : env.frame = some L) (hke : env.scope.kind = .function)
    (hps : PairsIn n₀ vs ps) (hsub : ∀ p ∈ n₀, p ∈ L9) (hok : ∀ p ∈ ps, p.1 ∈ okNames) (hx : x ∈ okNames) (hlen : ps.length ≤ 1000) (hfd : (ps.find? fun p => low p.1 == low x).map (·.2) = ov)
    (h : ∀ h' tk, Fr h₀ L h' m → News h₀ L h' L9 → Q (.bool ov.isSome) { s with heap := h', toks := tk }) :
    wpAny (model PySem.Challenge.rw_mr0247_01.row.toRowW.prog w) (AK 500 1400 (env :: outer)) (PySem.call (.ref 109) [.ref self, .str x t] []) Q E s := by
  have sub : ∀ p ∈ (l, listOf vs.toArray n) :: (self, instObj 175 d) :: (d, headD w tk0 l) :: L9, p ∈ L9 := List.forall_mem_cons.mpr ⟨m1, List.forall_mem_cons.mpr ⟨m2, List.forall_mem_cons.mpr ⟨m3, fun p hp => hp⟩⟩⟩
  refine contains_K (l := l) (d := d) (vs := vs) (news := L9) T KX B F (fun p hp => N p (sub p hp)) hf hke (hps.mono hsub) hok hx hlen fun h' tk F' N' => ?_
  rw [← Option.isSome_map (f := fun q : Str × Str => q.2), hfd]
  exact h h' tk F' fun p hp => N' p (.tail _ (.tail _ (.tail _ hp)))
theorem getall_1 {i j : Nat} {t tk0 : Tok} {self d l : Addr} {vs : List Value} {n : Nat} {rs : List R3} {L9 n₀ : List (Addr × Obj)}
    (T : Top hd.view_39 loose mean mg mb h₀) (KX : (hd.heap_39 w.params).In h₀) (B : Below A₀ base outer h₀) (F : Fr h₀ L s.heap m)
    (N : News h₀ L s.heap L9) (m2 : (self, instObj 175 d) ∈ L9) (m3 : (d, headD w tk0 l) ∈ L9) (m1 : (l, listOf vs.toArray n) ∈ L9) (hf : env.frame = some L) (hke : env.scope.kind = .function)
    (hps : PairsIn n₀ vs (rs.map f1)) (hsub : ∀ p ∈ n₀, p ∈ L9) (hG : ∀ p ∈ rs, RowG p) (hi5 : i < 5) (hj3 : j < 3) (hlen : rs.length ≤ 100)
    (h : ∀ D h' tk ys, Fr h₀ L h' m → News h₀ L h' ((D, lst ys) :: L9) → StrsAre ys (valsOf rs (nmS i)) → Q (.ref D) { s with heap := h', toks := tk }) :
    wpAny (model PySem.Challenge.rw_mr0247_01.row.toRowW.prog w) (AK 600 1700 (env :: outer)) (PySem.call (.ref 114) [.ref self, .str (wrS i j) t] []) Q E s := by
  refine getall_L T KX B F N m2 m3 m1 hf hke hps hsub (ok_1 hG) (wr_ok hi5 hj3) (by rw [List.length_map]; omega) fun D h' tk ys F' N' hy => h D h' tk ys F' N' ?_
  rwa [vals_map (fun p hp => (hG p hp).low1) (fun _ => rfl) (low_wr hi5 hj3)] at hy
theorem getall_2 {i j : Nat} {t tk0 : Tok} {self d l : Addr} {vs : List Value} {n : Nat} {rs : List R3} {L9 n₀ : List (Addr × Obj)}
    (T : Top hd.view_39 loose mean mg mb h₀) (KX : (hd.heap_39 w.params).In h₀) (B : Below A₀ base outer h₀) (F : Fr h₀ L s.heap m)
    (N : News h₀ L s.heap L9) (m2 : (self, instObj 175 d) ∈ L9) (m3 : (d, headD w tk0 l) ∈ L9) (m1 : (l, listOf vs.toArray n) ∈ L9) (hf : env.frame = some L) (hke : env.scope.kind = .function)
    (hps : PairsIn n₀ vs (rs.map f2)) (hsub : ∀ p ∈ n₀, p ∈ L9) (hG : ∀ p ∈ rs, RowG p) (hi5 : i < 5) (hj3 : j < 3) (hlen : rs.length ≤ 100)
    (h : ∀ D h' tk ys, Fr h₀ L h' m → News h₀ L h' ((D, lst ys) :: L9) → StrsAre ys (valsOf rs (nmS i)) → Q (.ref D) { s with heap := h', toks := tk }) :
    wpAny (model PySem.Challenge.rw_mr0247_01.row.toRowW.prog w) (AK 600 1700 (env :: outer)) (PySem.call (.ref 114) [.ref self, .str (wrS i j) t] []) Q E s := by
  refine getall_L T KX B F N m2 m3 m1 hf hke hps hsub (ok_2 hG) (wr_ok hi5 hj3) (by rw [List.length_map]; omega) fun D h' tk ys F' N' hy => h D h' tk ys F' N' ?_
  rwa [vals_map (fun p hp => (hG p hp).low2) (fun _ => rfl) (low_wr hi5 hj3)] at hy
theorem get_1 {i j : Nat} {t tk0 : Tok} {self d l : Addr} {vs : List Value} {n : Nat} {rs : List R3} {L9 n₀ : List (Addr × Obj)} {ov : Option Str}
    (T : Top hd.view_39 loose mean mg mb h₀) (KX : (hd.heap_39 w.params).In h₀) (B : Below A₀ base outer h₀) (F : Fr h₀ L s.heap m)
    (N : News h₀ L s.heap L9) (m2 : (self, instObj 175 d) ∈ L9) (m3 : (d, headD w tk0 l) ∈ L9) (m1 : (l, listOf vs.toArray n) ∈ L9) (hf : env.frame = some L) (hke : env.scope.kind = .function)
    (hps : PairsIn n₀ vs (rs.map f1)) (hsub : ∀ p ∈ n₀, p ∈ L9) (hG : ∀ p ∈ rs, RowG p) (hi5 : i < 5) (hj3 : j < 3) (hlen : rs.length ≤ 100)
    (hhd : (valsOf rs (nmS i)).head? = ov)
    (h : ∀ h' tk t', Fr h₀ L h' m → News h₀ L h' L9 → Q (match ov with | none => .none | some v => .str v t') { s with heap := h', toks := tk }) :
    wpAny (model PySem.Challenge.rw_mr0247_01.row.toRowW.prog w) (AK 600 1700 (env :: outer)) (PySem.call (.ref 122) [.ref self, .str (wrS i j) t] []) Q E s :=
  get_L T KX B F N m2 m3 m1 hf hke hps hsub (ok_1 hG) (wr_ok hi5 hj3) (by rw [List.length_map]; omega) (by rw [find_vals (fun p hp => (hG p hp).low1) (fun _ => rfl) (low_wr hi5 hj3)]; exact hhd) h
theorem contains_2 {i j : Nat} {t tk0 : Tok} {self d l : Addr} {vs : List Value} {n : Nat} {rs : List R3} {L9 n₀ : List (Addr × Obj)} {ov : Option Str}
    (T : Top hd.view_39 loose mean mg mb h₀) (KX : (hd.heap_39 w.params).In h₀) (B : Below A₀ base outer h₀) (F : Fr h₀ L s.heap m)
    (N : News h₀ L s.heap L9) (m2 : (self, instObj 175 d) ∈ L9) (m3 : (d, headD w tk0 l) ∈ L9) (m1 : (l, listOf vs.toArray n) ∈ L9) (hf : env.frame = some L) (hke : env.scope.kind = .function)
    (hps : PairsIn n₀ vs (rs.map f2)) (hsub : ∀ p ∈ n₀, p ∈ L9) (hG : ∀ p ∈ rs, RowG p) (hi5 : i < 5) (hj3 : j < 3) (hlen : rs.length ≤ 100)
    (hhd : (valsOf rs (nmS i)).head? = ov)
    (h : ∀ h' tk, Fr h₀ L h' m → News h₀ L h' L9 → Q (.bool ov.isSome) { s with heap := h', toks := tk }) :
    wpAny (model PySem.Challenge.rw_mr0247_01.row.toRowW.prog w) (AK 500 1400 (env :: outer)) (PySem.call (.ref 109) [.ref self, .str (wrS i j) t] []) Q E s :=
  contains_L T KX B F N m2 m3 m1 hf hke hps hsub (ok_2 hG) (wr_ok hi5 hj3) (by rw [List.length_map]; omega) (by rw [find_vals (fun p hp => (hG p hp).low2) (fun _ => rfl) (low_wr hi5 hj3)]; exact hhd) h
end
end
section
open PySem PySem.W PySem.W.X PyProof.Rows PySem.Spec PyProof.Rows.LCg PyProof.Rows.LCt
local macro_rules | `(tactic| k_mem) => `(tactic| first | with_reducible exact List.mem_cons_self | with_reducible assumption | (refine List.mem_cons_of_mem _ ?_; k_mem))
local macro_rules | `(tactic| walk_at "call ref") => `(tactic| (k_here; (with_reducible show wpAny _ _ (call (Value.ref 194) _ _) _ _ _); k_dflt (refine' AK_mono (name_ij ?i5 ?j3 ?T ?X ?B ?F ?N ?f ?k ?hi ?hj ?_) ?h1 ?h2 ?h3 ?h4; (case h1 => exact rfl); (case h2 => exact rfl); (case h3 => exact Nat.le_of_ble_eq_true rfl); (case h4 => exact Nat.le_of_ble_eq_true rfl); (case T => k_asm); (case X => k_asm); (case B => k_asm); (case F => k_asm); (case N => k_asm); (case f => exact rfl); (case k => exact rfl); (case i5 => assumption); (case j3 => assumption); (case hi => assumption); (case hj => assumption); k_whole); intro h' tk' a' t1' t2' F' N' l9'; (have ne9' := Nat.ne_of_gt (l9' _ (List.Mem.head _)))))
local macro_rules | `(tactic| walk_at "call ref") => `(tactic| (k_here; (with_reducible show wpAny _ _ (call (Value.ref 114) _ _) _ _ _); k_dflt (refine' AK_mono (getall_1 ?T ?X ?B ?F ?N ?m2 ?m3 ?m1 ?f ?k ?p ?sub ?G ?i5 ?j3 ?ln ?_) ?h1 ?h2 ?h3 ?h4; (case h1 => exact rfl); (case h2 => exact rfl); (case h3 => exact Nat.le_of_ble_eq_true rfl); (case h4 => exact Nat.le_of_ble_eq_true rfl); (case T => k_asm); (case X => k_asm); (case B => k_asm); (case F => k_asm); (case N => k_asm); (case m2 => k_mem); (case m3 => k_mem); (case m1 => k_mem); (case f => exact rfl); (case k => exact rfl); (case p => with_reducible assumption); (case sub => (intro p9 hp9; repeat (first | exact hp9 | refine List.Mem.tail _ ?_))); (case G => with_reducible assumption); (case i5 => with_reducible assumption); (case j3 => with_reducible assumption); (case ln => with_reducible assumption); k_whole); intro D' h' tk' ys' F' N' hy'))
local macro_rules | `(tactic| walk_at "call ref") => `(tactic| (k_here; (with_reducible show wpAny _ _ (call (Value.ref 114) _ _) _ _ _); k_dflt (refine' AK_mono (getall_2 ?T ?X ?B ?F ?N ?m2 ?m3 ?m1 ?f ?k ?p ?sub ?G ?i5 ?j3 ?ln ?_) ?h1 ?h2 ?h3 ?h4; (case h1 => exact rfl); (case h2 => exact rfl); (case h3 => exact Nat.le_of_ble_eq_true rfl); (case h4 => exact Nat.le_of_ble_eq_true rfl); (case T => k_asm); (case X => k_asm); (case B => k_asm); (case F => k_asm); (case N => k_asm); (case m2 => k_mem); (case m3 => k_mem); (case m1 => k_mem); (case f => exact rfl); (case k => exact rfl); (case p => with_reducible assumption); (case sub => (intro p9 hp9; repeat (first | exact hp9 | refine List.Mem.tail _ ?_))); (case G => with_reducible assumption); (case i5 => with_reducible assumption); (case j3 => with_reducible assumption); (case ln => with_reducible assumption); k_whole); intro D' h' tk' ys' F' N' hy'))
local macro_rules | `(tactic| walk_at "call ref") => `(tactic| (k_here; (with_reducible show wpAny _ _ (call (Value.ref 122) _ _) _ _ _); k_dflt (refine' AK_mono (get_1 ?T ?X ?B ?F ?N ?m2 ?m3 ?m1 ?f ?k ?p ?sub ?G ?i5 ?j3 ?ln ?hd ?_) ?h1 ?h2 ?h3 ?h4; (case h1 => exact rfl); (case h2 => exact rfl); (case h3 => exact Nat.le_of_ble_eq_true rfl); (case h4 => exact Nat.le_of_ble_eq_true rfl); (case T => k_asm); (case X => k_asm); (case B => k_asm); (case F => k_asm); (case N => k_asm); (case m2 => k_mem); (case m3 => k_mem); (case m1 => k_mem); (case f => exact rfl); (case k => exact rfl); (case p => with_reducible assumption); (case sub => (intro p9 hp9; repeat (first | exact hp9 | refine List.Mem.tail _ ?_))); (case G => with_reducible assumption); (case i5 => with_reducible assumption); (case j3 => with_reducible assumption); (case ln => with_reducible assumption); (case hd => with_reducible assumption); k_whole); intro h' tk' t' F' N'; (try dsimp only)))
local macro_rules | `(tactic| walk_at "call ref") => `(tactic| (k_here; (with_reducible show wpAny _ _ (call (Value.ref 109) _ _) _ _ _); k_dflt (refine' AK_mono (contains_2 ?T ?X ?B ?F ?N ?m2 ?m3 ?m1 ?f ?k ?p ?sub ?G ?i5 ?j3 ?ln ?hd ?_) ?h1 ?h2 ?h3 ?h4; (case h1 => exact rfl); (case h2 => exact rfl); (case h3 => exact Nat.le_of_ble_eq_true rfl); (case h4 => exact Nat.le_of_ble_eq_true rfl); (case T => k_asm); (case X => k_asm); (case B => k_asm); (case F => k_asm); (case N => k_asm); (case m2 => k_mem); (case m3 => k_mem); (case m1 => k_mem); (case f => exact rfl); (case k => exact rfl); (case p => with_reducible assumption); (case sub => (intro p9 hp9; repeat (first | exact hp9 | refine List.Mem.tail _ ?_))); (case G => with_reducible assumption); (case i5 => with_reducible assumption); (case j3 => with_reducible assumption); (case ln => with_reducible assumption); (case hd => with_reducible assumption); k_whole); intro h' tk' F' N'; (try dsimp only [Option.isSome])))
local macro_rules | `(tactic| walk_at "subscriptTail") => `(tactic| (k_here; (with_reducible show wpAny _ _ (subscriptTail _ _ (Value.ref _) (Value.int _ _)) _ _ _); k_dflt (first | (refine' item_row0 ?N ?m ?_ ?hs; (case N => k_asm); (case m => ((repeat (with_reducible refine List.mem_cons_of_mem _ ?_)); assumption)); (case hs => with_unfolding_all rfl); k_whole) | (refine' item_row1 ?N ?m ?_ ?hs; (case N => k_asm); (case m => ((repeat (with_reducible refine List.mem_cons_of_mem _ ?_)); assumption)); (case hs => with_unfolding_all rfl); k_whole) | (refine' item_row2 ?N ?m ?_ ?hs; (case N => k_asm); (case m => ((repeat (with_reducible refine List.mem_cons_of_mem _ ?_)); assumption)); (case hs => with_unfolding_all rfl); k_whole))))
local macro_rules | `(tactic| walk_at "binaryOp Add ref ref") => `(tactic| (k_here; k_dflt (refine' cat_K ?F ?N ?a ?b ?z ?_; (case F => k_asm); (case N => k_asm); (case a => k_mem); (case b => k_mem); (case z => (simp only [List.length_cons, List.length_nil]; have q9 := sizeLine_eq; omega)); k_whole); intro D' h' F' N' l1; (try k_lt l1); (try k_sweep)))
local macro_rules | `(tactic| k_updF) => `(tactic| first | exact upd_name (by assumption) (by assumption) | exact upd_rows (by assumption))
local macro_rules | `(tactic| walk_at "exec Assign cons ListComp") => `(tactic| (k_here; k_dflt (refine LCt.Assign_ListComp_T (F₀ := by k_asm) (by rfl) (by with_unfolding_all rfl) (by with_unfolding_all rfl) (by decide) (by rfl) (by decide) (by rfl) (by rfl) (by rfl) ?_)))
local macro_rules | `(tactic| walk_at "compareOp NotEq ref ref") => `(tactic| (k_here; k_dflt (refine' ne_nilS ?N ?ma ?ca ?da ?mb ?cb ?db ?ha ?ok ?hu ?hb ?_; (case N => k_asm); (case ma => k_mem); (case ca => rfl); (case da => rfl); (case mb => k_mem); (case cb => rfl); (case db => rfl); (case ha => assumption); (case ok => exact vals_ok (by assumption)); (case hu => exact Nat.le_of_ble_eq_true rfl); (case hb => assumption); k_whole)))
local macro_rules | `(tactic| walk_at "compareOp NotEq ref ref") => `(tactic| (k_here; k_dflt (refine' ne_strs ?N ?ma ?ca ?da ?mb ?cb ?db ?ha ?hb ?ok ?hu ?_; (case N => k_asm); (case ma => k_mem); (case ca => rfl); (case da => rfl); (case mb => k_mem); (case cb => rfl); (case db => rfl); (case ha => assumption); (case hb => assumption); (case ok => exact vals_ok (by assumption)); (case hu => exact Nat.le_of_ble_eq_true rfl); k_whole)))
local macro_rules | `(tactic| walk_at "compareOp NotEq str str") => `(tactic| (k_here; with_reducible refine ne_self ?_))
def turnBody2 : List Stmt := match lawBody.drop 5 with | (Stmt.For _ _ b _ _) :: _ => b | _ => []
abbrev STO2 : List Str := [Str.ofString "k", Str.ofString "x", Str.ofString "written", Str.ofString "dressed", Str.ofString "values"]
theorem ovr_ne2 {y : Str} (h : STO2.contains y = false) : y ≠ Str.ofString "k" ∧ y ≠ Str.ofString "x" ∧ y ≠ Str.ofString "written" ∧ y ≠ Str.ofString "dressed" ∧ y ≠ Str.ofString "values" := by
  refine ⟨?_, ?_, ?_, ?_, ?_⟩ <;> (rintro rfl; revert h; decide +kernel)
section
variable {w : World} {s : Shared} {A₀ : Around} {base h₀ : Heap} {outer : List Env} {env : Env}
  {L : Addr} {m : Str → Option Value} {news : List (Addr × Obj)} {mean : ExcName → Option Value} {mg mb : Str → Option Value} {Q : Value → Shared → Prop} {E : Value → Shared → Prop}
theorem turn2_K {i j : Nat} {X : Int} {t : Tok} {fa : Addr} {cd : Value} {u mB : Str → Option Value} {vN : Option Value} {QF : Flow → Shared → Prop} {k1 k2 : Tok} {l1 s1 d1 l2 s2 d2 r nu : Addr} {oN oR : Obj} {vs1 vs2 rvs nus : List Value} {n1 n2 rn nn : Nat} {tl : List (Addr × Obj)} {rs : List R3}
    (ap : Ap (L + 1 + 1) (L + 1) l1 s1 d1 l2 s2 d2 r nu tl) (hoN : oN.data = .cell vN) (hoR : oR.data = .cell (some (.ref r)))
    (T : Top hd.view_39 loose mean mg mb h₀) (KX : (hd.heap_39 w.params).In h₀) (B : Below callerA base [] h₀) (F : Fr h₀ L s.heap (fun y => if y = Str.ofString "x" then some (.int X t) else ovr STO2 u (m1 nu s2 s1 mB) y))
    (N : News h₀ L s.heap ((L + 1 + 1, oN) :: (L + 1, oR) :: (l1, listOf vs1.toArray n1) :: (s1, instObj 175 d1) :: (d1, headD w k1 l1) :: (l2, listOf vs2.toArray n2) :: (s2, instObj 175 d2) :: (d2, headD w k2 l2) :: (r, listOf rvs.toArray rn) :: (nu, listOf nus.toArray nn) :: tl)) (hp1 : PairsIn tl vs1 (rs.map f1)) (hp2 : PairsIn tl vs2 (rs.map f2)) (hrs : RowsIn tl rvs rs) (hG : ∀ p ∈ rs, RowG p) (hlen : rs.length ≤ 100)
    (hi5 : i < 5) (hj3 : j < 3) (hi : Int.fmod (Int.fdiv X 4) 5 = i) (hj : Int.fmod (Int.fdiv X 20) 3 = j)
    (h : ∀ h' tk u' oN' vN', Fr h₀ L h' (ovr STO2 u' (m1 nu s2 s1 mB)) → oN'.data = .cell vN' → News h₀ L h' ((L + 1 + 1, oN') :: (L + 1, oR) :: (l1, listOf vs1.toArray n1) :: (s1, instObj 175 d1) :: (d1, headD w k1 l1) :: (l2, listOf vs2.toArray n2) :: (s2, instObj 175 d2) :: (d2, headD w k2 l2) :: (r, listOf rvs.toArray rn) :: (nu, listOf nus.toArray nn) :: tl) → QF .next { s with heap := h', toks := tk }) :
    wpAny (model PySem.Challenge.rw_mr0247_01.row.toRowW.prog w) (Around.deeper callerA (lawEnv L fa cd)) (execs turnBody2 (lawEnv L fa cd)) QF E s := by
  obtain ⟨sc, hsc⟩ : ∃ sc, lawScope = sc := ⟨_, rfl⟩
  unfold lawEnv
  rw [hsc]
  replace hsc : sc = Scope.mk _ _ _ _ _ := hsc.symm
  subst hsc
  show wpAny _ _ (execs (_ :: _ :: _ :: []) _) _ _ _
  revert KX; k_fill; intro KX
  w_on
  w_strict (repeat (first | (k_unfold; (try dsimp only)) | walk1 | (dsimp only; walk1)))
  have hl10 : rs.length ≤ 1000 := by omega
  refine LCt.CompSrcT.ledger (by rfl) (by k_asm) (by k_asm) (by k_mem) ?sz ?_
  case sz => rw [List.size_toArray, hrs.length]; exact Nat.le_trans hl10 (by decide)
  intro g9
  have hlen9 : rvs.toArray.size = rs.length := by rw [List.size_toArray, hrs.length]
  refine rest_ind (fun i' ys => StrsAre ys (((rs.take i').filter fun p => p.1 == nmS i).map (·.2.2))) .nil ?fin ?step
  case fin =>
    intro ys hy D9 h9 tk9 F9 N9 off9
    rw [hlen9, List.take_length] at hy
    replace hy : StrsAre ys (valsOf rs (nmS i)) := hy
    have hyl : ys.length ≤ 1000 := by rw [hy.length]; unfold valsOf; rw [List.length_map]; exact Nat.le_trans (List.length_filter_le _ _) hl10
    replace N9 : News _ _ _ ((D9, listOf ys.toArray ys.length) :: _) := N9
    have hy2 := hy
    cases hv : valsOf rs (nmS i) with
    | nil =>
      have hhd : (valsOf rs (nmS i)).head? = none := by rw [hv]; rfl
      have hemp : (!(valsOf rs (nmS i)).isEmpty) = false := by rw [hv]; rfl
      rw [hv] at hy2
      cases hy2
      w_strict (iterate 53 (first | (k_unfold; (try dsimp only)) | walk1 | (dsimp only; walk1)))
      refine' item_hd ?zN ?zm ?_ ?zs
      case zN => k_asm
      case zm => exact List.mem_cons_self
      case zs => with_unfolding_all rfl
      w_strict (repeat (first | (k_unfold; (try dsimp only)) | walk1 | (dsimp only; walk1)))
      rename News h₀ L _ _ => kN9
      refine h _ _ _ _ _ (ovr_fr (by assumption) ?_) (by assumption) (fun p hp => kN9 p ?_)
      · intro y hy
        obtain ⟨q1, q2, q3, q4, q5⟩ := ovr_ne2 hy
        simp only [q1, q2, q3, q4, q5, if_false]
        show (if STO2.contains y = true then _ else _) = _
        rw [hy]
        rfl
      · repeat (first | exact hp | refine List.Mem.tail _ ?_)
    | cons v vs =>
      have hhd : (valsOf rs (nmS i)).head? = some v := by rw [hv]; rfl
      have hemp : (!(valsOf rs (nmS i)).isEmpty) = true := by rw [hv]; rfl
      rw [hv] at hy2
      cases hy2 with
      | cons hy2 =>
        w_strict (iterate 53 (first | (k_unfold; (try dsimp only)) | walk1 | (dsimp only; walk1)))
        refine' item_hd ?zN ?zm ?_ ?zs
        case zN => k_asm
        case zm => exact List.mem_cons_self
        case zs => with_unfolding_all rfl
        w_strict (repeat (first | (k_unfold; (try dsimp only)) | walk1 | (dsimp only; walk1)))
        rename News h₀ L _ _ => kN9
        refine h _ _ _ _ _ (ovr_fr (by assumption) ?_) (by assumption) (fun p hp => kN9 p ?_)
        · intro y hy
          obtain ⟨q1, q2, q3, q4, q5⟩ := ovr_ne2 hy
          simp only [q1, q2, q3, q4, q5, if_false]
          show (if STO2.contains y = true then _ else _) = _
          rw [hy]
          rfl
        · repeat (first | exact hp | refine List.Mem.tail _ ?_)

  case step =>
    intro i' ys hi' hj' R₁ R₀ hR1 hR0 v I oI C oC D m₂ h9 tk9 E' hv hC hm9 F9 N9 off9 ne9
    obtain ⟨a, n9, u1, u2, u3, x9, y9, z9, rfl, hpi, hmem⟩ := hrs.get (by simpa using hv)
    w_strict (iterate 4 (first | (k_unfold; (try dsimp only)) | walk1 | (dsimp only; walk1)))
    refine' item_row0 ?zN ?zm ?_ ?zs
    case zN => k_asm
    case zm => ((repeat (with_reducible refine List.mem_cons_of_mem _ ?_)); assumption)
    case zs => with_unfolding_all rfl
    w_strict (iterate 7 (first | (k_unfold; (try dsimp only)) | walk1 | (dsimp only; walk1)))
    · rename (x9 == nmS i) = true => hq
      refine' item_row2 ?zN2 ?zm2 ?_ ?zs2
      case zN2 => k_asm
      case zm2 => ((repeat (with_reducible refine List.mem_cons_of_mem _ ?_)); assumption)
      case zs2 => with_unfolding_all rfl
      refine CompEnd.intro F9 N9 _ (fun p hp => hp) off9 (.inr ⟨_, by k_mem, rfl, _, rfl⟩) (hR1 _ ?_)
      rw [take_filter_pos hpi hq, List.map_append]
      exact StrsAre.snoc hj'
    · rename (x9 == nmS i) = false => hq
      refine CompEnd.intro F9 N9 _ (fun p hp => hp) off9 (.inr ⟨_, by k_mem, rfl, _, rfl⟩) (hR0 _ ?_)
      rw [take_filter_neg hpi hq]
      exact hj'
end
end
section
open PySem PySem.W PySem.W.X PyProof.Rows PySem.Spec PyProof.Rows.LCg PyProof.Rows.LCt
local macro_rules | `(tactic| k_mem) => `(tactic| first | with_reducible exact List.Mem.head _ | with_reducible assumption | (refine List.Mem.tail _ ?_; k_mem))
local macro_rules | `(tactic| walk_at "call ref") => `(tactic| (k_here; (with_reducible show wpAny _ _ (call (Value.ref 90) _ _) _ _ _); k_dflt (refine' AK_mono (setitem_K ?T ?X ?B ?F ?N ?f ?k ?p ?o ?x ?y ?ln ?ls ?ld ?lw ?_) ?h1 ?h2 ?h3 ?h4; (case h1 => exact rfl); (case h2 => exact rfl); (case h3 => exact Nat.le_of_ble_eq_true rfl); (case h4 => exact Nat.le_of_ble_eq_true rfl); (case T => k_asm); (case X => k_asm); (case B => k_asm); (case F => k_asm); (case N => k_asm); (case f => exact rfl); (case k => exact rfl); (case p => assumption); (case o => assumption); (case x => assumption); (case y => assumption); (case ln => assumption); (case ls => assumption); (case ld => assumption); (case lw => assumption); k_whole; intro h' tk' vs' n' a' F' N' hps' ha' hn')))
def stepP (acc : List (Str × Str)) (p : Str × Str) : List (Str × Str) := (acc.filter fun q => low q.1 != low p.1) ++ [p]
def storeL (ps : List (Str × Str)) : List (Str × Str) := ps.foldl stepP []
theorem storeL_snoc {ps : List (Str × Str)} {i : Nat} {p : Str × Str} (h : ps[i]? = some p) : storeL (ps.take (i + 1)) = stepP (storeL (ps.take i)) p := by
  unfold storeL
  rw [List.take_add_one, h, List.foldl_append]
  rfl
theorem stepP_ok {Pr : Str × Str → Prop} {acc : List (Str × Str)} {p : Str × Str} (h : ∀ q ∈ acc, Pr q) (hp : Pr p) : ∀ q ∈ stepP acc p, Pr q := by
  intro q hq
  rcases List.mem_append.mp hq with hq | hq
  · exact h q (List.mem_filter.mp hq).1
  · rw [List.mem_singleton.mp hq]; exact hp
theorem stepP_len {acc : List (Str × Str)} {p : Str × Str} : (stepP acc p).length ≤ acc.length + 1 := by
  unfold stepP
  rw [List.length_append]
  exact Nat.succ_le_succ (List.length_filter_le _ _)
section
variable {w : World} {s : Shared} {A₀ : Around} {base h₀ : Heap} {outer : List Env} {env : Env}
  {L : Addr} {m : Str → Option Value} {news : List (Addr × Obj)} {mean : ExcName → Option Value} {mg mb : Str → Option Value} {Q : Value → Shared → Prop} {E : Value → Shared → Prop}
theorem items_ind2 {prog : Program} {w : World} {A : Around} {E : Value → Shared → Prop} {h₀ : Heap} {env : Env} {target : Expr} {body : List Stmt} {Q : Flow → Shared → Prop} {s : Shared} {ws : List (Addr × String)} {keep : List (Addr × Obj)}
    {news : List (Addr × Obj)} {m₀ : Str → Option Value} (ks : List Str) (J : Nat → List (Addr × Obj) → Prop) (vs : List Value) (hk : ∀ i nw, J i nw → SubL keep nw) (h0 : J 0 news)
    (hfin : ∀ nw, J vs.length nw → ∀ u h tk, Fr h₀ env.locals h (ovr ks u m₀) → News h₀ env.locals h nw → Q .next { s with heap := h, toks := tk })
    (hstep : ∀ i v nw, vs[i]? = some v → J i nw → ∀ u h tk, Fr h₀ env.locals h (ovr ks u m₀) → AllObj ws (fun its => News h₀ env.locals h (its ++ nw) →
      wpAny (model prog w) A (assign target env v) (fun _ s₂ => wpAny (model prog w) A (execs body env) (UnrPostW h₀ env.locals { s with heap := h, toks := tk } its (fun m' n' => J (i + 1) n' ∧ ∃ u', m' = ovr ks u' m₀) Q) E s₂) E { s with heap := h, toks := tk })) :
    ItemsRest prog w A E h₀ env target body Q s ws keep (vs.map .val) m₀ news := by
  have key : ∀ (k i : Nat) u nw, i + k = vs.length → J i nw → ItemsRest prog w A E h₀ env target body Q s ws keep ((vs.drop i).map .val) (ovr ks u m₀) nw := by
    intro k
    induction k with
    | zero =>
      intro i u nw hi hj
      have : vs.drop i = [] := List.drop_eq_nil_of_le (by omega)
      rw [this]
      exact fun h tk F N => hfin nw (by rw [← hi]; exact hj) u h tk F N
    | succ k ih =>
      intro i u nw hi hj
      have hlt : i < vs.length := by omega
      rw [List.drop_eq_getElem_cons hlt, List.map_cons]
      refine ItemsRest.val (fun h tk F => ?_)
      have st := hstep i (vs[i]) nw (List.getElem?_eq_getElem hlt) hj u h tk F
      have mono : ∀ {ws : List (Addr × String)} {k k' : List (Addr × Obj) → Prop}, (∀ l, k l → k' l) → AllObj ws k → AllObj ws k' := by
        intro ws
        induction ws with
        | nil => intro k k' hk h; exact hk _ h
        | cons w r ihw => intro k k' hk h o ho; exact ihw (fun l => hk _) (h o ho)
      refine mono (fun its st hN => wpAny_mono (st hN) (fun _ s₂ h2 => wpAny_mono h2 (fun f s₃ h3 => ?_) fun _ _ e => e) fun _ _ e => e) st
      have up : UnrEndW h₀ env.locals { s with heap := h, toks := tk } its (fun m' n' => J (i + 1) n' ∧ ∃ u', m' = ovr ks u' m₀) s₃ →
          UnrEndW h₀ env.locals { s with heap := h, toks := tk } its (fun m' n' => SubL keep n' ∧ ItemsRest prog w A E h₀ env target body Q s ws keep ((vs.drop (i + 1)).map .val) m' n') s₃ := by
        rintro ⟨h', tk', m', n', e, F', N', off, hj', u', rfl⟩
        exact ⟨h', tk', _, n', e, F', N', off, hk _ _ hj', ih (i + 1) u' n' (by omega) hj'⟩
      cases f with
      | ret v => exact h3
      | brk => exact h3
      | next => exact up h3
      | cont => exact up h3
  have := key vs.length 0 m₀ news (by omega) h0
  rw [List.drop_zero, ovr_self] at this
  exact this
theorem strip_I {I : Addr} {oI : Obj} {nw : List (Addr × Obj)} {a : Addr} {u v : Value} (hI : oI.cls = .type "list_iterator") {vs : List Value} {ps : List (Str × Str)} (h : PairsIn ((a, tup2 u v) :: (I, oI) :: nw) vs ps) : PairsIn ((a, tup2 u v) :: nw) vs ps := by
  induction h with
  | nil => exact .nil
  | cons hm _ ih =>
    rcases List.mem_cons.mp hm with e | hm
    · exact .cons (List.mem_cons.mpr (.inl e)) ih
    · rcases List.mem_cons.mp hm with e | hm
      · exfalso
        have e2 : tup2 _ _ = oI := congrArg Prod.snd e
        have e3 := congrArg Obj.cls e2
        rw [hI] at e3
        exact absurd (Value.type.inj e3) (by decide)
      · exact .cons (.tail _ hm) ih
theorem setitem_S {x y : Str} {t t' tk0 : Tok} {self d l I : Addr} {oI : Obj} {vs : List Value} {n : Nat} {ps : List (Str × Str)}
    (T : Top hd.view_39 loose mean mg mb h₀) (KX : (hd.heap_39 w.params).In h₀) (B : Below A₀ base outer h₀) (F : Fr h₀ L s.heap m)
    (N : News h₀ L s.heap ((I, oI) :: (l, listOf vs.toArray n) :: (self, instObj 175 d) :: (d, headD w tk0 l) :: news)) (hf : env.frame = some L) (hke : env.scope.kind = .function)
    (hI : oI.cls = .type "list_iterator") (hps : PairsIn news vs ps) (hok : ∀ p ∈ ps, p.1 ∈ okNames) (hx : x ∈ okNames) (hy : y ∈ okVals) (hlen : ps.length ≤ 1000)
    (hls : l ≠ self) (hld : l ≠ d) (hln : ∀ p ∈ news, p.1 ≠ l) (hIl : I ≠ l)
    (h : ∀ h' tk vs' n' a, Fr h₀ L h' m → News h₀ L h' ((I, oI) :: (l, listOf vs'.toArray n') :: (self, instObj 175 d) :: (d, headD w tk0 l) :: (a, tup2 (.str x t) (.str y t')) :: news) →
      PairsIn ((a, tup2 (.str x t) (.str y t')) :: news) vs' (stepP ps (x, y)) → a ≠ l → a ≠ I → Q .none { s with heap := h', toks := tk }) :
    wpAny (model PySem.Challenge.rw_mr0247_01.row.toRowW.prog w) (AK 500 1400 (env :: outer)) (PySem.call (.ref 90) [.ref self, .str x t, .str y t'] []) Q E s := by
  have sub : ∀ p ∈ (l, listOf vs.toArray n) :: (self, instObj 175 d) :: (d, headD w tk0 l) :: (I, oI) :: news, p ∈ (I, oI) :: (l, listOf vs.toArray n) :: (self, instObj 175 d) :: (d, headD w tk0 l) :: news :=
    List.forall_mem_cons.mpr ⟨.tail _ (.head _), List.forall_mem_cons.mpr ⟨.tail _ (.tail _ (.head _)), List.forall_mem_cons.mpr ⟨.tail _ (.tail _ (.tail _ (.head _))), List.forall_mem_cons.mpr ⟨.head _, fun p hp => .tail _ (.tail _ (.tail _ (.tail _ hp)))⟩⟩⟩⟩
  refine setitem_K (l := l) (d := d) (vs := vs) (news := (I, oI) :: news) T KX B F (fun p hp => N p (sub p hp)) hf hke (hps.mono fun p hp => .tail _ hp) hok hx hy hlen hls hld (List.forall_mem_cons.mpr ⟨hIl, hln⟩) ?_
  intro h' tk vs' n' a F' N' P' ha hn
  refine h h' tk vs' n' a F' (fun p hp => N' p ?_) (strip_I hI P') ha (Ne.symm (hn _ (.head _)))
  revert p
  exact List.forall_mem_cons.mpr ⟨.tail _ (.tail _ (.tail _ (.tail _ (.head _)))), List.forall_mem_cons.mpr ⟨.head _, List.forall_mem_cons.mpr ⟨.tail _ (.head _), List.forall_mem_cons.mpr ⟨.tail _ (.tail _ (.head _)), List.forall_mem_cons.mpr ⟨.tail _ (.tail _ (.tail _ (.head _))), fun p hp => .tail _ (.tail _ (.tail _ (.tail _ (.tail _ hp))))⟩⟩⟩⟩⟩
local macro_rules | `(tactic| walk_at "call ref") => `(tactic| (k_here; (with_reducible show wpAny _ _ (call (Value.ref 90) _ _) _ _ _); k_dflt (refine' AK_mono (setitem_S ?T ?X ?B ?F ?N ?f ?k ?hI ?p ?o ?x ?y ?ln ?ls ?ld ?lw ?il ?_) ?h1 ?h2 ?h3 ?h4; (case h1 => exact rfl); (case h2 => exact rfl); (case h3 => exact Nat.le_of_ble_eq_true rfl); (case h4 => exact Nat.le_of_ble_eq_true rfl); (case T => k_asm); (case X => k_asm); (case B => k_asm); (case F => k_asm); (case N => k_asm); (case f => exact rfl); (case k => exact rfl); (case hI => assumption); (case p => assumption); (case o => assumption); (case x => assumption); (case y => assumption); (case ln => assumption); (case ls => assumption); (case ld => assumption); (case lw => assumption); (case il => assumption); k_whole); intro h' tk' vs' n' a' F' N' hps' ha' hn'))
local macro_rules | `(tactic| walk_at "call ref") => `(tactic| (k_here; (with_reducible show wpAny _ _ (call (Value.ref 139) _ _) _ _ _); k_dflt (refine' AK_mono (items_K ?T ?X ?B ?F ?N ?f ?k ?ln ?_) ?h1 ?h2 ?h3 ?h4; (case h1 => exact rfl); (case h2 => exact rfl); (case h3 => exact Nat.le_of_ble_eq_true rfl); (case h4 => exact Nat.le_of_ble_eq_true rfl); (case T => k_asm); (case X => k_asm); (case B => k_asm); (case F => k_asm); (case N => k_asm); (case f => exact rfl); (case k => exact rfl); (case ln => omega); k_whole); intro h' tk' D' F' N'))
local macro_rules | `(tactic| walk_at "exec For Tuple Name cons nil") => `(tactic| (k_here; (rename Fr _ _ _ _ => lF'); (with_unfolding_all refine' For_turns lF' ?_; k_whole)))
local macro_rules | `(tactic| walk_at "pyIter ref") => `(tactic| (k_here; (with_reducible show wpAny _ _ (pyIter (Value.ref _)) (fun it s₂ => TurnsAt _ _ _ _ _ _ _ _ _ it s₂) _ _); (rename Fr _ _ _ _ => lF'); (refine iter_listTurns (vs := []) (by rfl) lF' (by k_asm) (lo := listOf ([] : List Value).toArray 0) (n := 0) (List.mem_cons_self) rfl rfl ?_); clear lF'; intro i' l1; (try k_lt l1)))
theorem news4 {g h : Heap} {L a b c : Addr} {o1 o2 o3 : Obj} {r : List (Addr × Obj)} (N : News g L h ((a, o1) :: (b, o2) :: (c, o3) :: r)) : ∃ a' b' c', a' = a ∧ b' = b ∧ c' = c := ⟨_, _, _, rfl, rfl, rfl⟩
theorem stored_K {D : Addr} {vs : List Value} {n : Nat} {ps : List (Str × Str)}
    (T : Top hd.view_39 loose mean mg mb h₀) (KX : (hd.heap_39 w.params).In h₀) (B : Below A₀ base outer h₀) (F : Fr h₀ L s.heap m)
    (N : News h₀ L s.heap ((D, listOf vs.toArray n) :: news)) (hf : env.frame = some L) (hke : env.scope.kind = .function)
    (hps : PairsIn news vs ps) (hok : ∀ p ∈ ps, p.1 ∈ okNames ∧ p.2 ∈ okVals) (hlen : ps.length ≤ 900)
    (h : ∀ h' tk D' vs' L9, Fr h₀ L h' m → News h₀ L h' ((D', listOf vs'.toArray 0) :: L9) → (∀ p ∈ (D, listOf vs.toArray n) :: news, p ∈ L9) → PairsIn L9 vs' (storeL ps) → Q (.ref D') { s with heap := h', toks := tk }) :
    wpAny (model PySem.Challenge.rw_mr0247_01.row.toRowW.prog w) (AK 450 1200 (env :: outer)) (PySem.call (.ref 218) [.ref D] []) Q E s := by
  revert KX; k_fill; intro KX
  w_on
  w_strict (repeat (first | (k_unfold; (try dsimp only)) | walk1 | (dsimp only; walk1)))
  rename News _ _ _ ((_, listOf ([] : List Value).toArray 0) :: (_, instObj 175 _) :: _ :: (D, _) :: _) => N3
  obtain ⟨l3, s3, d3, e1, e2, e3⟩ := news4 N3
  subst e1 e2 e3
  rename (_ ∧ _ ∧ @LT.lt Nat _ D l3 ∧ AllLt l3 news) => l1c
  have hls : l3 ≠ s3 := Nat.ne_of_gt l1c.1
  have hld : l3 ≠ d3 := Nat.ne_of_gt l1c.2.1
  have hlD : D ≠ l3 := Nat.ne_of_lt l1c.2.2.1
  have hln0 : ∀ p ∈ (D, listOf vs.toArray n) :: news, p.1 ≠ l3 := List.forall_mem_cons.mpr ⟨hlD, fun p hp => Nat.ne_of_lt (allLt_mem l1c.2.2.2 hp)⟩
  refine iter_listTurns (by rfl) (by k_asm) (by k_asm) (lo := listOf vs.toArray n) (n := n) (by k_mem) rfl rfl ?_
  intro I9 hI9
  have hIl : I9 ≠ l3 := Nat.ne_of_gt (hI9 _ (.head _))
  have hsI : s3 ≠ I9 := by have e := hI9 _ (.tail _ (.head _)); exact Nat.ne_of_lt e
  have hdI : d3 ≠ I9 := by have e := hI9 _ (.tail _ (.tail _ (.head _))); exact Nat.ne_of_lt e
  refine items_ind2 ["name", "value"] (fun i nw => ∃ k3 vs3 n3 new, nw = (l3, listOf vs3.toArray n3) :: (s3, instObj 175 d3) :: (d3, headD w k3 l3) :: (new ++ ((D, listOf vs.toArray n) :: news)) ∧ PairsIn (new ++ ((D, listOf vs.toArray n) :: news)) vs3 (storeL (ps.take i)) ∧ (∀ p ∈ new ++ ((D, listOf vs.toArray n) :: news), p.1 ≠ l3) ∧ (∀ p ∈ new ++ ((D, listOf vs.toArray n) :: news), p.1 ≠ I9) ∧
      (∀ q ∈ storeL (ps.take i), q.1 ∈ okNames) ∧ (storeL (ps.take i)).length ≤ i) vs ?hk ⟨_, [], 0, [], rfl, .nil, hln0, (fun p hp => Nat.ne_of_lt (hI9 _ (.tail _ (.tail _ (.tail _ hp))))), (fun q hq => nomatch hq), Nat.le_refl _⟩ ?fin ?step
  case hk =>
    rintro i nw ⟨k3, vs3, n3, new, rfl, _⟩
    exact And.intro (.tail _ (.tail _ (.tail _ (List.mem_append_right _ (.head _))))) trivial
  case fin =>
    rintro nw ⟨k3, vs3, n3, new, rfl, hP, hne, hnI, hok9, hl9⟩ u9 h9 tk9 F9 N9
    rw [hps.length, List.take_length] at hP
    have hl8 : vs3.length ≤ 1000 := by
      rw [hP.length]
      have := hl9
      rw [hps.length, List.take_length] at this
      omega
    w_strict (repeat (first | (k_unfold; (try dsimp only)) | walk1 | (dsimp only; walk1)))
    rename News h₀ L _ _ => kN9
    exact h _ _ _ _ _ (by assumption) kN9 (fun p hp => .tail _ (.tail _ (.tail _ (List.mem_append_right _ hp)))) (hP.mono fun p hp => .tail _ (.tail _ (.tail _ hp)))
  case step =>
    rintro i v nw hv ⟨k3, vs3, n3, new, rfl, hP, hne, hnI, hok9, hl9⟩ u9 h9 tk9 F9 o9 ho9 N9
    simp only [List.cons_append, List.nil_append] at N9
    obtain ⟨a, t1, t2, x9, y9, rfl, hpi, hmem⟩ := hps.get (by simpa using hv)
    have hxy := hok (x9, y9) (List.mem_of_getElem? hpi)
    have hx9 : x9 ∈ okNames := hxy.1
    have hy9 : y9 ∈ okVals := hxy.2
    have hi9 : i < ps.length := (List.getElem?_eq_some_iff.mp hpi).1
    have hl8 : (storeL (ps.take i)).length ≤ 1000 := by omega
    have hmem9 : (a, tup2 (.str x9 t1) (.str y9 t2)) ∈ (I9, o9) :: (l3, listOf vs3.toArray n3) :: (s3, instObj 175 d3) :: (d3, headD w k3 l3) :: (new ++ ((D, listOf vs.toArray n) :: news)) := .tail _ (.tail _ (.tail _ (.tail _ (List.mem_append_right _ (.tail _ hmem)))))
    w_strict (repeat (first | (k_unfold; (try dsimp only)) | walk1 | (dsimp only; walk1)))
    rename PairsIn ((_, _) :: _) _ (stepP _ _) => hP9
    rename News _ _ _ ((I9, _) :: (l3, _) :: _) => kN9
    rename _ ≠ l3 => ha9
    rename _ ≠ I9 => hn9
    refine ⟨_, _, _, _, rfl, by assumption, kN9, ?off, ⟨k3, _, _, (_, _) :: new, rfl, (by rw [storeL_snoc hpi]; exact hP9), (List.forall_mem_cons.mpr ⟨ha9, hne⟩), (List.forall_mem_cons.mpr ⟨hn9, hnI⟩), ?_⟩, _, ovr_two⟩
    case off =>
      intro p hp q hq
      rw [List.mem_singleton.mp hq]
      revert p
      exact List.forall_mem_cons.mpr ⟨Ne.symm hIl, List.forall_mem_cons.mpr ⟨hsI, List.forall_mem_cons.mpr ⟨hdI, List.forall_mem_cons.mpr ⟨hn9, hnI⟩⟩⟩⟩
    rw [storeL_snoc hpi]
    exact ⟨stepP_ok hok9 hx9, Nat.le_trans stepP_len (Nat.succ_le_succ hl9)⟩
end
end
section
open PySem PySem.W PySem.W.X PyProof.Rows PySem.Spec PyProof.Rows.LCg PyProof.Rows.LCt
local macro_rules | `(tactic| k_mem) => `(tactic| first | with_reducible exact List.mem_cons_self | with_reducible assumption | (refine List.mem_cons_of_mem _ ?_; k_mem))
local macro_rules | `(tactic| walk_at "pyIter ref") => `(tactic| ((with_reducible show wpAny _ _ (pyIter (Value.ref _)) (fun it s₂ => LoopAtV _ _ _ _ _ _ _ _ _ it s₂) _ _); k_dflt (refine' loopR ?hh ?hr ?hsm ?hsz ?hF ?hN ?plan)))
theorem fm15 {i : Nat} (h : i < 15) : Int.fmod (Int.fdiv (0 + (i : Int) * 4) 4) 5 = ((i % 5 : Nat) : Int) ∧ Int.fmod (Int.fdiv (0 + (i : Int) * 4) 20) 3 = ((i / 5 % 3 : Nat) : Int) := by
  have : ∀ i ∈ List.range 15, Int.fmod (Int.fdiv (0 + (i : Int) * 4) 4) 5 = ((i % 5 : Nat) : Int) ∧ Int.fmod (Int.fdiv (0 + (i : Int) * 4) 20) 3 = ((i / 5 % 3 : Nat) : Int) := by decide +kernel
  exact this i (List.mem_range.mpr h)
theorem Ap.own {cn cr l1 s1 d1 l2 s2 d2 r nu : Addr} {tl own : List (Addr × Obj)} (ap : Ap cn cr l1 s1 d1 l2 s2 d2 r nu tl) (h : ∀ p ∈ own, p.1 ≠ cn ∧ p.1 ≠ cr ∧ p.1 ≠ l1 ∧ p.1 ≠ l2 ∧ p.1 ≠ r) : Ap cn cr l1 s1 d1 l2 s2 d2 r nu (tl ++ own) :=
  ⟨ap.fn, ap.fc, ap.fa, ap.fb, ap.fr, fun p hp => (List.mem_append.mp hp).elim (ap.ft p) (h p)⟩
section
variable {w : World} {s : Shared} {A₀ : Around} {base h₀ : Heap} {outer : List Env} {env : Env}
  {L : Addr} {m : Str → Option Value} {news : List (Addr × Obj)} {mean : ExcName → Option Value} {mg mb : Str → Option Value} {Q : Value → Shared → Prop} {E : Value → Shared → Prop}
theorem st5_K {fa : Addr} {cd : Value} {u mB : Str → Option Value} {vN : Option Value} {QF : Flow → Shared → Prop} {k1 k2 : Tok} {l1 s1 d1 l2 s2 d2 r nu : Addr} {oN oR : Obj} {vs1 vs2 rvs nus : List Value} {n1 n2 rn nn : Nat} {tl : List (Addr × Obj)} {rs : List R3}
    (ap : Ap (L + 1 + 1) (L + 1) l1 s1 d1 l2 s2 d2 r nu tl) (hoN : oN.data = .cell vN) (hoR : oR.data = .cell (some (.ref r)))
    (T : Top hd.view_39 loose mean mg mb h₀) (KX : (hd.heap_39 w.params).In h₀) (B : Below callerA base [] h₀) (F : Fr h₀ L s.heap (ovr STO u (m1 nu s2 s1 mB)))
    (N : News h₀ L s.heap ((L + 1 + 1, oN) :: (L + 1, oR) :: (l1, listOf vs1.toArray n1) :: (s1, instObj 175 d1) :: (d1, headD w k1 l1) :: (l2, listOf vs2.toArray n2) :: (s2, instObj 175 d2) :: (d2, headD w k2 l2) :: (r, listOf rvs.toArray rn) :: (nu, listOf nus.toArray nn) :: tl)) (hp1 : PairsIn tl vs1 (rs.map f1)) (hp2 : PairsIn tl vs2 (rs.map f2)) (hrs : RowsIn tl rvs rs) (hG : ∀ p ∈ rs, RowG p) (hlen : rs.length ≤ 100)
    (h : ∀ h' tk u' oN' vN', Fr h₀ L h' (ovr STO u' (m1 nu s2 s1 mB)) → oN'.data = .cell vN' → News h₀ L h' ((L + 1 + 1, oN') :: (L + 1, oR) :: (l1, listOf vs1.toArray n1) :: (s1, instObj 175 d1) :: (d1, headD w k1 l1) :: (l2, listOf vs2.toArray n2) :: (s2, instObj 175 d2) :: (d2, headD w k2 l2) :: (r, listOf rvs.toArray rn) :: (nu, listOf nus.toArray nn) :: tl) → QF .next { s with heap := h', toks := tk }) :
    wpAny (model PySem.Challenge.rw_mr0247_01.row.toRowW.prog w) (Around.deeper callerA (lawEnv L fa cd)) (exec (lawStmt 5) (lawEnv L fa cd)) QF E s := by
  have turn : ∀ (i : Nat) (t : Tok) (m₁ : Str → Option Value) (nx : List (Addr × Obj)) (h : Heap) (tk : Nat) (own : List (Addr × Obj)), i < 15 → OwnOff own (nx.map (·.1)) →
      (∃ u' oN' vN', m₁ = ovr STO u' (m1 nu s2 s1 mB) ∧ nx = ((L + 1 + 1, oN') :: (L + 1, oR) :: (l1, listOf vs1.toArray n1) :: (s1, instObj 175 d1) :: (d1, headD w k1 l1) :: (l2, listOf vs2.toArray n2) :: (s2, instObj 175 d2) :: (d2, headD w k2 l2) :: (r, listOf rvs.toArray rn) :: (nu, listOf nus.toArray nn) :: tl) ∧ oN'.data = .cell vN') →
      Fr h₀ L h (fun y => if y = Str.ofString "x" then some (.int (0 + i * 4) t) else m₁ y) → News h₀ L h (nx ++ own) →
      wpAny (model PySem.Challenge.rw_mr0247_01.row.toRowW.prog w) (Around.deeper callerA (lawEnv L fa cd)) (execs turnBody2 (lawEnv L fa cd)) (InvPostG h₀ L (fun m₂ nx₂ => ∃ u' oN' vN', m₂ = ovr STO u' (m1 nu s2 s1 mB) ∧ nx₂ = ((L + 1 + 1, oN') :: (L + 1, oR) :: (l1, listOf vs1.toArray n1) :: (s1, instObj 175 d1) :: (d1, headD w k1 l1) :: (l2, listOf vs2.toArray n2) :: (s2, instObj 175 d2) :: (d2, headD w k2 l2) :: (r, listOf rvs.toArray rn) :: (nu, listOf nus.toArray nn) :: tl) ∧ oN'.data = .cell vN') own { s with heap := h, toks := tk } QF) (fun _ _ => False) { s with heap := h, toks := tk } := by
    rintro i t m₁ nx h9 tk own hin hoff ⟨u', oN', vN', rfl, rfl, hoN'⟩ F9 N9
    have hap : Ap (L + 1 + 1) (L + 1) l1 s1 d1 l2 s2 d2 r nu (tl ++ own) := ap.own fun p hp => ⟨hoff p hp _ (.head _), hoff p hp _ (.tail _ (.head _)), hoff p hp _ (.tail _ (.tail _ (.head _))), hoff p hp _ (.tail _ (.tail _ (.tail _ (.tail _ (.tail _ (.head _)))))), hoff p hp _ (.tail _ (.tail _ (.tail _ (.tail _ (.tail _ (.tail _ (.tail _ (.tail _ (.head _)))))))))⟩
    obtain ⟨e1, e2⟩ := fm15 hin
    refine turn2_K (i := i % 5) (j := i / 5 % 3) (tl := tl ++ own) hap hoN' hoR T KX B F9 N9 (hp1.mono fun p hp => List.mem_append_left _ hp) (hp2.mono fun p hp => List.mem_append_left _ hp) (DatAll.mono (fun p hp => List.mem_append_left _ hp) hrs) hG hlen (Nat.mod_lt _ (by decide)) (Nat.mod_lt _ (by decide)) e1 e2 ?_
    intro h' tk' u2 oN2 vN2 F2 hoN2 N2
    refine ⟨h', tk', _, _, ((L + 1 + 1, oN2) :: (L + 1, oR) :: (l1, listOf vs1.toArray n1) :: (s1, instObj 175 d1) :: (d1, headD w k1 l1) :: (l2, listOf vs2.toArray n2) :: (s2, instObj 175 d2) :: (d2, headD w k2 l2) :: (r, listOf rvs.toArray rn) :: (nu, listOf nus.toArray nn) :: tl), rfl, F2, N2, ?_, ?_, hoff, _, _, _, rfl, rfl, hoN2⟩
    · exact (List.forall_mem_cons.mpr ⟨(.head _), (List.forall_mem_cons.mpr ⟨(.tail _ (.head _)), (List.forall_mem_cons.mpr ⟨(.tail _ (.tail _ (.head _))), (List.forall_mem_cons.mpr ⟨(.tail _ (.tail _ (.tail _ (.head _)))), (List.forall_mem_cons.mpr ⟨(.tail _ (.tail _ (.tail _ (.tail _ (.head _))))), (List.forall_mem_cons.mpr ⟨(.tail _ (.tail _ (.tail _ (.tail _ (.tail _ (.head _)))))), (List.forall_mem_cons.mpr ⟨(.tail _ (.tail _ (.tail _ (.tail _ (.tail _ (.tail _ (.head _))))))), (List.forall_mem_cons.mpr ⟨(.tail _ (.tail _ (.tail _ (.tail _ (.tail _ (.tail _ (.tail _ (.head _)))))))), (List.forall_mem_cons.mpr ⟨(.tail _ (.tail _ (.tail _ (.tail _ (.tail _ (.tail _ (.tail _ (.tail _ (.head _))))))))), (List.forall_mem_cons.mpr ⟨(.tail _ (.tail _ (.tail _ (.tail _ (.tail _ (.tail _ (.tail _ (.tail _ (.tail _ (.head _)))))))))), (fun p hp => (.tail _ (.tail _ (.tail _ (.tail _ (.tail _ (.tail _ (.tail _ (.tail _ (.tail _ (.tail _ (List.mem_append_left _ hp))))))))))))⟩)⟩)⟩)⟩)⟩)⟩)⟩)⟩)⟩)⟩)
    · intro p hp
      exact (.tail _ (.tail _ (.tail _ (.tail _ (.tail _ (.tail _ (.tail _ (.tail _ (.tail _ (.tail _ (List.mem_append_right _ hp)))))))))))
  obtain ⟨sc, hsc⟩ : ∃ sc, lawScope = sc := ⟨_, rfl⟩
  unfold lawEnv
  rw [hsc]
  replace hsc : sc = Scope.mk _ _ _ _ _ := hsc.symm
  subst hsc
  show wpAny _ _ (exec (Stmt.For _ _ _ _ _) _) _ _ _
  refine wpAny_noRaise ?_
  revert KX; k_fill; intro KX
  w_on
  w_strict ((rename Fr _ _ _ _ => lF'); (with_unfolding_all refine' For_invVF lF' ?k1 ?k2 ?_; (case k1 => exact rfl); (case k2 => exact rfl)))
  w_strict (repeat (first | (k_unfold; (try dsimp only)) | walk1 | (dsimp only; walk1)))
  case hh => rfl
  case hr => assumption
  case hsm => decide
  case hsz => exact (rfl : _ = ((15 : Nat) : Int))
  case hF => k_asm
  case hN => k_asm
  case plan =>
    refine ⟨fun _ m₂ nx₂ => ∃ u' oN' vN', m₂ = ovr STO u' (m1 nu s2 s1 mB) ∧ nx₂ = ((L + 1 + 1, oN') :: (L + 1, oR) :: (l1, listOf vs1.toArray n1) :: (s1, instObj 175 d1) :: (d1, headD w k1 l1) :: (l2, listOf vs2.toArray n2) :: (s2, instObj 175 d2) :: (d2, headD w k2 l2) :: (r, listOf rvs.toArray rn) :: (nu, listOf nus.toArray nn) :: tl) ∧ oN'.data = .cell vN', ⟨_, _, _, rfl, rfl, hoN⟩, ?_, ?_⟩
    · intro i t m₁ nx h9 tk own hin hoff hno hJ F₁ N₁
      exact turn i t m₁ nx h9 tk own hin hoff hJ F₁ N₁
    · rintro m₁ nx h9 tk ⟨u', oN', vN', rfl, rfl, hoN'⟩ F₁ N₁
      exact h _ _ _ _ _ F₁ hoN' N₁
end
end
section
open PySem PySem.W PySem.W.X PyProof.Rows PySem.Spec PyProof.Rows.LCg PyProof.Rows.LCt
theorem pick_from {vs : List Value} {i : Nat} : (slicePick vs.toArray (some ((i : Int) + 1)) none none).toList = vs.drop (i + 1) := by
  have hx : ((i : Int) + 1).toNat = i + 1 := by omega
  have e : sliceBounds (some ((i : Int) + 1)) none none vs.toArray.size = (((min (i + 1) vs.toArray.size : Nat) : Int), ((vs.toArray.size : Nat) : Int), 1) := by
    simp only [sliceBounds, Option.getD_none, show (1 : Int) > 0 by decide, if_true, if_neg (show ¬ ((i : Int) + 1 < 0) by omega)]
    congr 1
    omega
  rw [kmk_pick_nat _ e]
  show ((vs.drop (min (i + 1) vs.toArray.size)).take (vs.toArray.size - min (i + 1) vs.toArray.size)) = _
  rw [List.size_toArray, kmk_drop_min, List.take_of_length_le (by rw [List.length_drop]; omega)]
def memN (x : Str) (r : List R3) : Bool := r.any fun q => q.1 == x
def lastOf : List R3 → List R3
  | [] => []
  | p :: r => if memN p.1 r then lastOf r else p :: lastOf r
theorem stored_rows : ∀ (rs qs : List R3), (∀ p ∈ rs, low (f2 p).1 = p.1) → (∀ p ∈ qs, low (f2 p).1 = p.1) → (rs.map f2).foldl stepP (qs.map f2) = ((qs.filter fun q => !memN q.1 rs) ++ lastOf rs).map f2
  | [], qs, _, _ => by
    have e : (qs.filter fun q => !memN q.1 []) = qs := List.filter_eq_self.mpr (fun _ _ => rfl)
    rw [e]
    simp [lastOf]
  | p :: r, qs, h, hq => by
    have e : stepP (qs.map f2) (f2 p) = ((qs.filter fun q => q.1 != p.1) ++ [p]).map f2 := by
      unfold stepP
      rw [h p (.head _), List.map_append]
      have := filter_map_low (f := f2) (x := p.1) (g := fun a b => a != b) hq
      rw [← this]
      rfl
    rw [List.map_cons, List.foldl_cons, e, stored_rows r _ (fun q hq => h q (.tail _ hq)) (fun q hq' => by
      rcases List.mem_append.mp hq' with hq' | hq'
      · exact hq q (List.mem_filter.mp hq').1
      · rw [List.mem_singleton.mp hq']; exact h p (.head _))]
    congr 1
    rw [List.filter_append, List.filter_filter]
    have e2 : (qs.filter fun q => (!memN q.1 r) && (q.1 != p.1)) = qs.filter fun q => !memN q.1 (p :: r) := by
      congr 1
      funext q
      simp only [memN, List.any_cons, Bool.not_or]
      rw [Bool.and_comm]
      congr 1
      simp only [bne, BEq.comm]
    rw [e2, List.append_assoc]
    congr 1
    simp only [lastOf, List.filter_cons, List.filter_nil]
    cases memN p.1 r <;> simp
theorem storeL_rows {rs : List R3} (hG : ∀ p ∈ rs, RowG p) : storeL (rs.map f2) = (lastOf rs).map f2 := by
  have := stored_rows rs [] (fun p hp => (hG p hp).low2) (fun p hp => nomatch hp)
  exact this
theorem lastOf_sub : ∀ (rs : List R3), ∀ p ∈ lastOf rs, p ∈ rs
  | [], _, h => nomatch h
  | p :: r, q, h => by
    unfold lastOf at h
    split at h
    · exact .tail _ (lastOf_sub r q h)
    · rcases List.mem_cons.mp h with rfl | h
      · exact .head _
      · exact .tail _ (lastOf_sub r q h)
theorem lastOf_drop {rs : List R3} {i : Nat} {p : R3} (h : rs[i]? = some p) : lastOf (rs.drop i) = if memN p.1 (rs.drop (i + 1)) then lastOf (rs.drop (i + 1)) else p :: lastOf (rs.drop (i + 1)) := by
  have hlt := (List.getElem?_eq_some_iff.mp h).1
  have e : rs[i] = p := (List.getElem?_eq_some_iff.mp h).2
  rw [List.drop_eq_getElem_cons hlt, e]
  rfl
theorem memN_dat {x : Str} {r : List R3} : (Dat.str x ∈ (r.map (·.1)).map Dat.str) ↔ memN x r = true := by
  simp only [memN, List.any_eq_true, List.mem_map, beq_iff_eq]
  constructor
  · rintro ⟨y, ⟨p, hp, rfl⟩, e⟩
    exact ⟨p, hp, Dat.str.inj e⟩
  · rintro ⟨p, hp, e⟩
    exact ⟨x, ⟨p, hp, e⟩, rfl⟩
local macro_rules | `(tactic| k_mem) => `(tactic| first | with_reducible exact List.mem_cons_self | with_reducible assumption | (refine List.mem_cons_of_mem _ ?_; k_mem))
local macro_rules | `(tactic| walk_at "subscriptTail Name Slice ref ref") => `(tactic| (k_here; (with_reducible show wpAny _ _ (subscriptTail _ (PySem.Expr.Slice _ _ none _) (Value.ref _) (Value.ref _)) _ _ _); k_dflt (refine' kmk_slice_lit ?F ?N ?l ?p ?q ?e ?_ ?s ?t ?z; (case F => k_asm); (case N => k_asm); (case l => exact News.isList (by k_asm) (by k_mem)); (case p => kmk_part); (case q => kmk_part); (case e => exact pick_from); (case s => with_unfolding_all rfl); (case t => kmk_pure); (case z => assumption)); intro D' h' F' N' l1; (try k_lt l1); (try k_sweep)))
local macro_rules | `(tactic| walk_at "exec Assign cons ListComp") => `(tactic| (k_here; k_dflt (refine LCt.Assign_ListComp_T (F₀ := by k_asm) (by rfl) (by with_unfolding_all rfl) (by with_unfolding_all rfl) (by decide) (by rfl) (by decide) (by rfl) (by rfl) (by rfl) ?_)))
local macro_rules | `(tactic| walk_at "eval ListComp") => `(tactic| (k_here; k_dflt (refine LCg.ListComp_U (F₀ := by k_asm) (by with_unfolding_all rfl) (by decide) (by rfl) (by decide) (by rfl) ?_)))
local macro_rules | `(tactic| walk_at "CompSrcT") => `(tactic| (k_here; k_dflt (refine' LCt.CompSrcT.range ?ra ?rb ?rc ?rd ?re ?rf ?rg ?_)))
local macro_rules | `(tactic| walk_at "CompSrc") => `(tactic| (k_here; k_dflt (refine' LCg.CompSrc.ledger ?ra ?rb ?rc ?rd ?re ?_)))
section
variable {w : World} {s : Shared} {A₀ : Around} {base h₀ : Heap} {outer : List Env} {env : Env}
  {L : Addr} {m : Str → Option Value} {news : List (Addr × Obj)} {mean : ExcName → Option Value} {mg mb : Str → Option Value} {Q : Value → Shared → Prop} {E : Value → Shared → Prop}
theorem notIn_rows {A : Around} {bv : Bool} {b : Addr} {x : Str} {t : Tok} {zs : List Value} {r : List R3} {L9 : List (Addr × Obj)} (N : News h₀ L s.heap L9) (mb : (b, lst zs) ∈ L9) (hz : StrsAre zs (r.map (·.1))) (ok : ∀ p ∈ r, PyData.strOk p.1 = true) (okx : PyData.strOk x = true) (hu : A.units + 64 < cLine) (hb : (!memN x r) = bv) (h : Q (.bool bv) s) :
    wpAny (model P w) A (compareOp .NotIn (.str x t) (.ref b)) Q E s := by
  classical
  refine kqd_notIn N mb rfl rfl hz.dat (fun _ hp => nomatch hp) (DatIn.str (news := []) _ _) (fun _ hp => nomatch hp) (strs_ok fun y hy => by obtain ⟨p, hp, rfl⟩ := List.mem_map.mp hy; exact ok p hp) (by simp [kqdOk, okx]) hu ?_
  have e : (!decide (Dat.str x ∈ (r.map (·.1)).map Dat.str)) = bv := by
    rw [← hb]
    cases hm : memN x r with
    | true => rw [decide_eq_true (memN_dat.mpr hm)]
    | false => rw [decide_eq_false (fun z => by rw [memN_dat.mp z] at hm; cases hm)]
  exact e ▸ h
theorem len_led {A : Around} {a : Addr} {vs : List Value} {n z : Nat} {L9 : List (Addr × Obj)} (N : News h₀ L s.heap L9) (hm : (a, listOf vs.toArray n) ∈ L9) (hz : vs.length = z) (hf : z < 2 ^ 62) (h : ∀ t k, Q (.int z t) { s with toks := k }) :
    wpAny (model P w) A (call (.builtin "len") [.ref a]) Q E s :=
  PyProof.Rows.len_list (News.isList N hm) (by rw [List.size_toArray]; omega) (by rw [List.size_toArray, hz]; exact h _ _)
local macro_rules | `(tactic| walk_at "call builtin:len") => `(tactic| (k_here; (with_reducible show wpAny _ _ (call (Value.builtin "len") [Value.ref _]) _ _ _); k_dflt (refine' len_led ?N ?m ?z ?f ?_; (case N => k_asm); (case m => k_mem); (case z => assumption); (case f => omega); k_whole); intro t' tk'))
theorem st7_K {fa : Addr} {cd : Value} {u mB : Str → Option Value} {vN : Option Value} {QF : Flow → Shared → Prop} {k1 k2 : Tok} {l1 s1 d1 l2 s2 d2 r nu : Addr} {oN oR : Obj} {vs1 vs2 rvs nus : List Value} {n1 n2 rn nn : Nat} {tl : List (Addr × Obj)} {rs : List R3}
    (ap : Ap (L + 1 + 1) (L + 1) l1 s1 d1 l2 s2 d2 r nu tl) (hoN : oN.data = .cell vN) (hoR : oR.data = .cell (some (.ref r)))
    (T : Top hd.view_39 loose mean mg mb h₀) (KX : (hd.heap_39 w.params).In h₀) (B : Below callerA base [] h₀) (F : Fr h₀ L s.heap (ovr STO u (m1 nu s2 s1 mB)))
    (N : News h₀ L s.heap ((L + 1 + 1, oN) :: (L + 1, oR) :: (l1, listOf vs1.toArray n1) :: (s1, instObj 175 d1) :: (d1, headD w k1 l1) :: (l2, listOf vs2.toArray n2) :: (s2, instObj 175 d2) :: (d2, headD w k2 l2) :: (r, listOf rvs.toArray rn) :: (nu, listOf nus.toArray nn) :: tl)) (hp1 : PairsIn tl vs1 (rs.map f1)) (hp2 : PairsIn tl vs2 (rs.map f2)) (hrs : RowsIn tl rvs rs) (hG : ∀ p ∈ rs, RowG p) (hlen : rs.length ≤ 100)
    (h : ∀ h' tk D ys, Fr h₀ L h' (fun y => if y = Str.ofString "last" then some (.ref D) else (ovr STO u (m1 nu s2 s1 mB)) y) → News h₀ L h' ((D, lst ys) :: ((L + 1 + 1, oN) :: (L + 1, oR) :: (l1, listOf vs1.toArray n1) :: (s1, instObj 175 d1) :: (d1, headD w k1 l1) :: (l2, listOf vs2.toArray n2) :: (s2, instObj 175 d2) :: (d2, headD w k2 l2) :: (r, listOf rvs.toArray rn) :: (nu, listOf nus.toArray nn) :: tl)) → RowsIn tl ys (lastOf rs) → QF .next { s with heap := h', toks := tk }) :
    wpAny (model PySem.Challenge.rw_mr0247_01.row.toRowW.prog w) (Around.deeper callerA (lawEnv L fa cd)) (exec (lawStmt 7) (lawEnv L fa cd)) QF E s := by
  obtain ⟨sc, hsc⟩ : ∃ sc, lawScope = sc := ⟨_, rfl⟩
  unfold lawEnv
  rw [hsc]
  replace hsc : sc = Scope.mk _ _ _ _ _ := hsc.symm
  subst hsc
  show wpAny _ _ (exec (Stmt.Assign _ _ _) _) _ _ _
  revert KX; k_fill; intro KX
  have hz9 : rvs.length = rs.length := hrs.length
  w_on
  w_strict (repeat (first | (k_unfold; (try dsimp only)) | walk1 | (dsimp only; walk1)))
  case ra => rfl
  case rb => k_asm
  case rc => k_asm
  case rd => assumption
  case re => exact (rng100 hlen).1
  case rf => exact (rng100 hlen).2
  case rg => exact Nat.le_trans hlen (by decide)
  intro g9
  refine rest_ind (fun i ys => ∃ qs, RowsIn tl ys qs ∧ qs ++ lastOf (rs.drop i) = lastOf rs) ⟨[], .nil, rfl⟩ ?fin ?step
  case fin =>
    rintro ys ⟨qs, hq, e⟩ D9 h9 tk9 F9 N9 off9
    rw [List.drop_length, show lastOf [] = [] from rfl, List.append_nil] at e
    subst e
    exact h _ _ _ _ F9 N9 hq
  case step =>
    rintro i ys hi ⟨qs, hq, e⟩ R₁ R₀ hR1 hR0 v I oI C oC D m₂ h9 tk9 E' ⟨t9, rfl⟩ hC hm9 F9 N9 off9 ne9
    have hrv : ∃ v, rvs[i]? = some v := ⟨rvs[i]'(by rw [hz9]; exact hi), List.getElem?_eq_getElem _⟩
    obtain ⟨v9, hv9⟩ := hrv
    obtain ⟨a, n9, u1, u2, u3, x9, y9, z9, rfl, hpi, hmem⟩ := hrs.get hv9
    have hx1 : rvs.toArray[((i : Int)).toNat]? = some (.ref a) := by rw [Int.toNat_natCast]; simpa using hv9
    rw [Int.zero_add] at hm9
    have hi1 : i ≤ 100 := by omega
    have hsz9 : rvs.toArray.size ≤ sizeLine := by rw [List.size_toArray, hz9]; exact Nat.le_trans hlen (by decide)
    w_strict (iterate 5 (first | (k_unfold; (try dsimp only)) | walk1 | (dsimp only; walk1)))
    refine' item_row ?zN ?zm ?z0 ?zf ?zx ?_ ?zs
    case zN => k_asm
    case zm => k_mem
    case z0 => omega
    case zf => omega
    case zx => exact hx1
    case zs => with_unfolding_all rfl
    w_strict (iterate 1 (first | (k_unfold; (try dsimp only)) | walk1 | (dsimp only; walk1)))
    refine' item_row0 ?yN ?ym ?_ ?ys
    case yN => k_asm
    case ym => ((repeat (with_reducible refine List.mem_cons_of_mem _ ?_)); assumption)
    case ys => with_unfolding_all rfl
    w_strict (repeat (first | (k_unfold; (try dsimp only)) | walk1 | (dsimp only; walk1)))
    case ra => rfl
    case rb => k_asm
    case rc => k_asm
    case rd => exact List.mem_cons_self
    case re => rw [List.size_toArray, List.length_drop]; rw [List.size_toArray] at hsz9; omega
    intro g8
    have hln8 : (rvs.drop (i + 1)).toArray.size = (rs.drop (i + 1)).length := by rw [List.size_toArray, List.length_drop, List.length_drop, hz9]
    refine restU_ind (fun j zs => StrsAre zs (((rs.drop (i + 1)).take j).map (·.1))) .nil ?fin2 ?step2
    case step2 =>
      intro j zs hj hjs R hR v I2 oI2 C2 oC2 D2 m₃ h8 tk8 E8 hv8 hC8 hm8 F8 N8 off8 ne8
      have hv7 : rvs[i + 1 + j]? = some v := by rw [← List.getElem?_drop]; simpa using hv8
      obtain ⟨a8, n8, w1, w2, w3, x8, y8, z8, rfl, hpi8, hmem8⟩ := hrs.get hv7
      rw [← List.getElem?_drop] at hpi8
      w_strict (iterate 3 (first | (k_unfold; (try dsimp only)) | walk1 | (dsimp only; walk1)))
      refine' item_row0 ?xN ?xm ?_ ?xs
      case xN => k_asm
      case xm => ((repeat (with_reducible refine List.mem_cons_of_mem _ ?_)); assumption)
      case xs => with_unfolding_all rfl
      refine CompEnd.intro F8 N8 _ (fun p hp => hp) off8 (.inr ⟨_, List.mem_cons_self, rfl, _, rfl⟩) (hR _ ?_)
      rw [List.take_add_one, hpi8, List.map_append]
      exact StrsAre.snoc hjs
    case fin2 =>
      intro zs hzs D8 h8 tk8 F8 N8 off8
      rw [hln8, List.take_length] at hzs
      have okn : ∀ y ∈ okNames, PyData.strOk y = true := by decide +kernel
      have hok9 : PyData.strOk x9 = true := (hG _ (List.mem_of_getElem? hpi)).ok.1
      have hin8 : ∀ p ∈ rs.drop (i + 1), PyData.strOk p.1 = true := fun p hp => (hG p (List.mem_of_mem_drop hp)).ok.1
      have el := lastOf_drop hpi
      cases hm : memN x9 (rs.drop (i + 1)) with
      | true =>
        rw [show memN (x9, y9, z9).1 (rs.drop (i + 1)) = true from hm, if_pos rfl] at el
        rw [el] at e
        refine notIn_rows N8 List.mem_cons_self hzs hin8 hok9 (Nat.le_of_ble_eq_true rfl) (show (!memN x9 (rs.drop (i + 1))) = false by rw [hm]; rfl) ?_
        w_strict (iterate 2 (first | (k_unfold; (try dsimp only)) | walk1 | (dsimp only; walk1)))
        refine CompEnd.intro F8 N8 _ (fun p hp => .tail _ (.tail _ hp)) off9 trivial (hR0 _ ⟨qs, hq, e⟩)
      | false =>
        rw [show memN (x9, y9, z9).1 (rs.drop (i + 1)) = false from hm, if_neg (by decide)] at el
        rw [el] at e
        refine notIn_rows N8 List.mem_cons_self hzs hin8 hok9 (Nat.le_of_ble_eq_true rfl) (show (!memN x9 (rs.drop (i + 1))) = true by rw [hm]; rfl) ?_
        w_strict (iterate 5 (first | (k_unfold; (try dsimp only)) | walk1 | (dsimp only; walk1)))
        refine' item_row ?vN ?vm ?v0 ?vf ?vx ?_ ?vs
        case vN => k_asm
        case vm => k_mem
        case v0 => omega
        case vf => omega
        case vx => exact hx1
        case vs => with_unfolding_all rfl
        refine CompEnd.intro F8 N8 _ (fun p hp => .tail _ (.tail _ hp)) off9 trivial (hR1 _ ⟨qs ++ [(x9, y9, z9)], hq.snoc hmem, ?_⟩)
        rw [List.append_assoc]
        exact e
end
end
section
open PySem PySem.W PySem.W.X PyProof.Rows PySem.Spec PyProof.Rows.LCg PyProof.Rows.LCt
theorem lastOf_len : ∀ (rs : List R3), (lastOf rs).length ≤ rs.length
  | [] => Nat.le_refl _
  | p :: r => by
    unfold lastOf
    split
    · exact Nat.le_succ_of_le (lastOf_len r)
    · exact Nat.succ_le_succ (lastOf_len r)
section
variable {w : World} {s : Shared} {A₀ : Around} {base h₀ : Heap} {outer : List Env} {env : Env}
  {L : Addr} {m : Str → Option Value} {news : List (Addr × Obj)} {mean : ExcName → Option Value} {mg mb : Str → Option Value} {Q : Value → Shared → Prop} {E : Value → Shared → Prop}
theorem eq_pairs {A : Around} {a b : Addr} {L9 na nb : List (Addr × Obj)} {xs ys : List Value} {ka : Nat} {ps : List (Str × Str)} (N : News h₀ L s.heap L9) (ma : (a, listOf xs.toArray ka) ∈ L9) (Pa : PairsIn na xs ps) (sa : ∀ p ∈ na, p ∈ L9)
    (mb : (b, lst ys) ∈ L9) (Pb : PairsIn nb ys ps) (sb : ∀ p ∈ nb, p ∈ L9) (ok : ∀ p ∈ ps, PyData.strOk p.1 = true ∧ PyData.strOk p.2 = true) (hu : A.units + 64 < cLine) (h : Q (.bool true) s) :
    wpAny (model P w) A (compareOp .Eq (.ref a) (.ref b)) Q E s := by
  classical
  refine kqd_eq N ma rfl rfl Pa.dat sa mb rfl rfl Pb.dat sb (pair_ok ok) (pair_ok ok) hu ?_
  simpa using h
theorem items_L {tk0 : Tok} {self d l : Addr} {vs : List Value} {n : Nat} {L9 : List (Addr × Obj)}
    (T : Top hd.view_39 loose mean mg mb h₀) (KX : (hd.heap_39 w.params).In h₀) (B : Below A₀ base outer h₀) (F : Fr h₀ L s.heap m)
    (N : News h₀ L s.heap L9) (m2 : (self, instObj 175 d) ∈ L9) (m3 : (d, headD w tk0 l) ∈ L9) (m1 : (l, listOf vs.toArray n) ∈ L9) (hf : env.frame = some L) (hke : env.scope.kind = .function) (hlen : vs.length ≤ 1000)
    (h : ∀ h' tk D, Fr h₀ L h' m → News h₀ L h' ((D, listOf vs.toArray 0) :: L9) → Q (.ref D) { s with heap := h', toks := tk }) :
    wpAny (model PySem.Challenge.rw_mr0247_01.row.toRowW.prog w) (AK 600 1700 (env :: outer)) (PySem.call (.ref 139) [.ref self] []) Q E s := by
  have sub : ∀ p ∈ (l, listOf vs.toArray n) :: (self, instObj 175 d) :: (d, headD w tk0 l) :: L9, p ∈ L9 := List.forall_mem_cons.mpr ⟨m1, List.forall_mem_cons.mpr ⟨m2, List.forall_mem_cons.mpr ⟨m3, fun p hp => hp⟩⟩⟩
  refine items_K (l := l) (d := d) (vs := vs) (news := L9) T KX B F (fun p hp => N p (sub p hp)) hf hke hlen ?_
  intro h' tk D F' N'
  refine h h' tk D F' (fun p hp => N' p ?_)
  revert p; exact List.forall_mem_cons.mpr ⟨.head _, fun p hp => .tail _ (.tail _ (.tail _ (.tail _ hp)))⟩
end
local macro_rules | `(tactic| k_mem) => `(tactic| first | with_reducible exact List.mem_cons_self | with_reducible assumption | (refine List.mem_cons_of_mem _ ?_; k_mem))
local macro_rules | `(tactic| walk_at "call ref") => `(tactic| (k_here; (with_reducible show wpAny _ _ (call (Value.ref 139) _ _) _ _ _); k_dflt (refine' AK_mono (items_L ?T ?X ?B ?F ?N ?m2 ?m3 ?m1 ?f ?k ?ln ?_) ?h1 ?h2 ?h3 ?h4; (case h1 => exact rfl); (case h2 => exact rfl); (case h3 => exact Nat.le_of_ble_eq_true rfl); (case h4 => exact Nat.le_of_ble_eq_true rfl); (case T => k_asm); (case X => k_asm); (case B => k_asm); (case F => k_asm); (case N => k_asm); (case m2 => k_mem); (case m3 => k_mem); (case m1 => k_mem); (case f => exact rfl); (case k => exact rfl); (case ln => (rw [PairsIn.length (by assumption), List.length_map]; omega)); k_whole); intro h' tk' D' F' N'))
local macro_rules | `(tactic| walk_at "call ref") => `(tactic| (k_here; (with_reducible show wpAny _ _ (call (Value.ref 218) _ _) _ _ _); k_dflt (refine' AK_mono (stored_K ?T ?X ?B ?F ?N ?f ?k ?p ?ok ?ln ?_) ?h1 ?h2 ?h3 ?h4; (case h1 => exact rfl); (case h2 => exact rfl); (case h3 => exact Nat.le_of_ble_eq_true rfl); (case h4 => exact Nat.le_of_ble_eq_true rfl); (case T => k_asm); (case X => k_asm); (case B => k_asm); (case F => k_asm); (case N => k_asm); (case f => exact rfl); (case k => exact rfl); (case p => exact PairsIn.mono (fun p hp => (.tail _ (.tail _ (.tail _ (.tail _ (.tail _ (.tail _ (.tail _ (.tail _ (.tail _ (.tail _ (.tail _ hp)))))))))))) (by assumption)); (case ok => exact ok_22 (by assumption)); (case ln => (rw [List.length_map]; omega)); k_whole); intro h' tk' D' vs' L9' F' N' sub' P'))
local macro_rules | `(tactic| walk_at "call ref") => `(tactic| (k_here; (with_reducible show wpAny _ _ (call (Value.ref 199) _ _) _ _ _); k_dflt (refine' AK_mono (great_K ?i5 ?T ?X ?B ?F ?N ?f ?k ?_) ?h1 ?h2 ?h3 ?h4; (case h1 => exact rfl); (case h2 => exact rfl); (case h3 => exact Nat.le_of_ble_eq_true rfl); (case h4 => exact Nat.le_of_ble_eq_true rfl); (case T => k_asm); (case X => k_asm); (case B => k_asm); (case F => k_asm); (case N => k_asm); (case f => exact rfl); (case k => exact rfl); (case i5 => assumption); k_whole); intro h' tk' t' F' N'))
local macro_rules | `(tactic| walk_at "eval ListComp") => `(tactic| (k_here; k_dflt (refine comp3 (F₀ := by k_asm) (by with_unfolding_all rfl) (by decide) (by rfl) (by decide) (by rfl) (by rfl) (by rfl) (by decide) (by decide) (by decide) ?_)))
section
variable {w : World} {s : Shared} {A₀ : Around} {base h₀ : Heap} {outer : List Env} {env : Env}
  {L : Addr} {m : Str → Option Value} {news : List (Addr × Obj)} {mean : ExcName → Option Value} {mg mb : Str → Option Value} {Q : Value → Shared → Prop} {E : Value → Shared → Prop}
theorem st8_K {D : Addr} {ys : List Value} {fa : Addr} {cd : Value} {u mB : Str → Option Value} {vN : Option Value} {QF : Flow → Shared → Prop} {k1 k2 : Tok} {l1 s1 d1 l2 s2 d2 r nu : Addr} {oN oR : Obj} {vs1 vs2 rvs nus : List Value} {n1 n2 rn nn : Nat} {tl : List (Addr × Obj)} {rs : List R3}
    (ap : Ap (L + 1 + 1) (L + 1) l1 s1 d1 l2 s2 d2 r nu tl) (hoN : oN.data = .cell vN) (hoR : oR.data = .cell (some (.ref r)))
    (T : Top hd.view_39 loose mean mg mb h₀) (KX : (hd.heap_39 w.params).In h₀) (B : Below callerA base [] h₀) (F : Fr h₀ L s.heap (fun y => if y = Str.ofString "last" then some (.ref D) else (ovr STO u (m1 nu s2 s1 mB)) y))
    (N : News h₀ L s.heap ((D, lst ys) :: ((L + 1 + 1, oN) :: (L + 1, oR) :: (l1, listOf vs1.toArray n1) :: (s1, instObj 175 d1) :: (d1, headD w k1 l1) :: (l2, listOf vs2.toArray n2) :: (s2, instObj 175 d2) :: (d2, headD w k2 l2) :: (r, listOf rvs.toArray rn) :: (nu, listOf nus.toArray nn) :: tl))) (hq : RowsIn tl ys (lastOf rs)) (hp1 : PairsIn tl vs1 (rs.map f1)) (hp2 : PairsIn tl vs2 (rs.map f2)) (hrs : RowsIn tl rvs rs) (hG : ∀ p ∈ rs, RowG p) (hlen : rs.length ≤ 100)
    (h : ∀ h' tk m', Fr h₀ L h' m' → QF (.ret (.bool true)) { s with heap := h', toks := tk }) :
    wpAny (model PySem.Challenge.rw_mr0247_01.row.toRowW.prog w) (Around.deeper callerA (lawEnv L fa cd)) (exec (lawStmt 8) (lawEnv L fa cd)) QF E s := by
  obtain ⟨sc, hsc⟩ : ∃ sc, lawScope = sc := ⟨_, rfl⟩
  unfold lawEnv
  rw [hsc]
  replace hsc : sc = Scope.mk _ _ _ _ _ := hsc.symm
  subst hsc
  show wpAny _ _ (exec (Stmt.Return _ _) _) _ _ _
  replace N : News h₀ L s.heap ((D, listOf ys.toArray ys.length) :: ((L + 1 + 1, oN) :: (L + 1, oR) :: (l1, listOf vs1.toArray n1) :: (s1, instObj 175 d1) :: (d1, headD w k1 l1) :: (l2, listOf vs2.toArray n2) :: (s2, instObj 175 d2) :: (d2, headD w k2 l2) :: (r, listOf rvs.toArray rn) :: (nu, listOf nus.toArray nn) :: tl)) := N
  have hG9 : ∀ p ∈ lastOf rs, RowG p := fun p hp => hG p (lastOf_sub rs p hp)
  have hl9 : (lastOf rs).length ≤ 1000 := Nat.le_trans (lastOf_len rs) (Nat.le_trans hlen (by decide))
  revert KX; k_fill; intro KX
  w_on
  w_strict (repeat (first | (k_unfold; (try dsimp only)) | walk1 | (dsimp only; walk1)))
  rename PairsIn _ _ (storeL _) => P9
  rename News h₀ L _ ((_, listOf _ 0) :: _) => kN9
  rename ∀ p ∈ _, p ∈ _ => sub9
  rw [storeL_rows hG] at P9
  refine src3_P f2 (by rfl) (by k_asm) kN9 (.tail _ (sub9 _ (.tail _ (.head _)))) hq (fun p hp => .tail _ (sub9 _ (.tail _ (.tail _ (.tail _ (.tail _ (.tail _ (.tail _ (.tail _ (.tail _ (.tail _ (.tail _ (.tail _ (.tail _ hp)))))))))))))) hl9 ?step ?fin
  case step =>
    intro nw hnw x9 y9 z9 t1 t2 t3 hmr ys9 I oI C oC D7 m₂ h9 tk9 E' hC hm1 hm2 hm3 F9 N9 off9 ne9
    obtain ⟨i, j, hi5, hj3, e1, e2, e3⟩ := hG9 _ hmr
    replace e1 : x9 = nmS i := e1
    subst e1
    w_strict (repeat (first | (k_unfold; (try dsimp only)) | walk1 | (dsimp only; walk1)))
    rename News h₀ L _ ((_, tup2 _ _) :: (I, _) :: _) => N8
    refine CompEnd.intro (news' := _ :: nw) (by k_asm) N8 (List.forall_mem_cons.mpr ⟨(.tail _ (.head _)), (List.forall_mem_cons.mpr ⟨(.tail _ (.tail _ (.head _))), (List.forall_mem_cons.mpr ⟨(.tail _ (.tail _ (.tail _ (.head _)))), (List.forall_mem_cons.mpr ⟨(.head _), (fun p hp => (.tail _ (.tail _ (.tail _ (.tail _ hp)))))⟩)⟩)⟩)⟩) ⟨⟨by refine neN ?_; omega, by refine neN ?_; omega, by refine neN ?_; omega⟩, off9⟩ trivial ⟨_, _, _, rfl, by rw [show (f2 (nmS i, y9, z9)).1 = grS i from grN_nm hi5]; rfl⟩
  case fin =>
    intro ys9 new D9 h9 tk9 hP F9 N9 off9
    refine eq_pairs N9 (.tail _ (List.mem_append_right _ (.head _))) P9 (fun p hp => .tail _ (List.mem_append_right _ (.tail _ hp))) (.head _) hP (fun p hp => .tail _ (List.mem_append_left _ hp)) (fun p hp => by obtain ⟨q, hq, rfl⟩ := List.mem_map.mp hp; exact (hG9 q hq).s2) (Nat.le_of_ble_eq_true rfl) ?_
    w_strict (repeat (first | (k_unfold; (try dsimp only)) | walk1 | (dsimp only; walk1)))
    exact h _ _ _ (by assumption)
end
end
section
open PySem PySem.W PySem.W.X PyProof.Rows PySem.Spec PyProof.Rows.LCg PyProof.Rows.LCt
open Classical in
noncomputable def keepL (tl : List (Addr × Obj)) : List (Addr × Obj) := tl.filter fun q => decide (q.2.cls = .type "tuple" ∨ q.2.cls = .type "list")
theorem keep_cls {tl : List (Addr × Obj)} {q : Addr × Obj} (h : q ∈ keepL tl) : q ∈ tl ∧ (q.2.cls = .type "tuple" ∨ q.2.cls = .type "list") := by
  unfold keepL at h
  rw [List.mem_filter, decide_eq_true_iff] at h
  exact h
theorem keep_in {tl : List (Addr × Obj)} {q : Addr × Obj} (h : q ∈ tl) (hc : q.2.cls = .type "tuple" ∨ q.2.cls = .type "list") : q ∈ keepL tl := by
  unfold keepL
  rw [List.mem_filter, decide_eq_true_iff]
  exact ⟨h, hc⟩
theorem keep_pairs {tl : List (Addr × Obj)} {vs : List Value} {ps : List (Str × Str)} (h : PairsIn tl vs ps) : PairsIn (keepL tl) vs ps := by
  induction h with
  | nil => exact .nil
  | cons hm _ ih => exact .cons (keep_in hm (.inl rfl)) ih
theorem keep_rows {tl : List (Addr × Obj)} : ∀ {rs : List R3} {vs : List Value}, RowsIn tl vs rs → RowsIn (keepL tl) vs rs
  | [], _, h => by
    cases h
    exact .nil
  | p :: rs, _, h => by
    cases h with
    | cons h1 h2 =>
      obtain ⟨a, n, t1, t2, t3, rfl, hm⟩ := rowD_in h1
      exact .cons (.list (vs := [.str p.1 t1, .str p.2.1 t2, .str p.2.2 t3]) (keep_in hm (.inr rfl)) (.cons (.str _ _) (.cons (.str _ _) (.cons (.str _ _) .nil)))) (keep_rows h2)
theorem Ap.keepL {cn cr l1 s1 d1 l2 s2 d2 r nu : Addr} {tl : List (Addr × Obj)} (ap : Ap cn cr l1 s1 d1 l2 s2 d2 r nu tl) : Ap cn cr l1 s1 d1 l2 s2 d2 r nu (keepL tl) :=
  ⟨ap.fn, ap.fc, ap.fa, ap.fb, ap.fr, fun p hp => ap.ft p (keep_cls hp).1⟩
theorem Ap.cut {cn cr l1 s1 d1 l2 s2 d2 r nu : Addr} {tl own : List (Addr × Obj)} (ap : Ap cn cr l1 s1 d1 l2 s2 d2 r nu (tl ++ own)) : Ap cn cr l1 s1 d1 l2 s2 d2 r nu tl :=
  ⟨ap.fn, ap.fc, ap.fa, ap.fb, ap.fr, fun p hp => ap.ft p (List.mem_append_left _ hp)⟩
section
variable {w : World} {s : Shared} {A₀ : Around} {base h₀ : Heap} {outer : List Env} {env : Env}
  {L : Addr} {m : Str → Option Value} {news : List (Addr × Obj)} {mean : ExcName → Option Value} {mg mb : Str → Option Value} {Q : Value → Shared → Prop} {E : Value → Shared → Prop}
theorem law_rest {fa : Addr} {cd : Value} {u mB : Str → Option Value} {vN : Option Value} {QF : Flow → Shared → Prop} {k1 k2 : Tok} {l1 s1 d1 l2 s2 d2 r nu : Addr} {oN oR : Obj} {vs1 vs2 rvs nus : List Value} {n1 n2 rn nn : Nat} {tl : List (Addr × Obj)} {rs : List R3}
    (ap : Ap (L + 1 + 1) (L + 1) l1 s1 d1 l2 s2 d2 r nu tl) (hoN : oN.data = .cell vN) (hoR : oR.data = .cell (some (.ref r)))
    (T : Top hd.view_39 loose mean mg mb h₀) (KX : (hd.heap_39 w.params).In h₀) (B : Below callerA base [] h₀) (F : Fr h₀ L s.heap (ovr STO u (m1 nu s2 s1 mB)))
    (N : News h₀ L s.heap ((L + 1 + 1, oN) :: (L + 1, oR) :: (l1, listOf vs1.toArray n1) :: (s1, instObj 175 d1) :: (d1, headD w k1 l1) :: (l2, listOf vs2.toArray n2) :: (s2, instObj 175 d2) :: (d2, headD w k2 l2) :: (r, listOf rvs.toArray rn) :: (nu, listOf nus.toArray nn) :: tl)) (hp1 : PairsIn tl vs1 (rs.map f1)) (hp2 : PairsIn tl vs2 (rs.map f2)) (hrs : RowsIn tl rvs rs) (hG : ∀ p ∈ rs, RowG p) (hlen : rs.length ≤ 100)
    (h : ∀ h' tk m', Fr h₀ L h' m' → QF (.ret (.bool true)) { s with heap := h', toks := tk }) :
    wpAny (model PySem.Challenge.rw_mr0247_01.row.toRowW.prog w) (Around.deeper callerA (lawEnv L fa cd)) (execs [lawStmt 3, lawStmt 4, lawStmt 5, lawStmt 6, lawStmt 7, lawStmt 8] (lawEnv L fa cd)) QF E s := by
  refine wpAny_execs_cons (st2_K ap hoN hoR T KX B F N hp1 hp2 hrs hG hlen ?_)
  intro h3 t3 F3 N3
  refine wpAny_execs_cons (st3_K ap hoN hoR T KX B F3 N3 hp1 hp2 hrs hG hlen ?_)
  intro h4 t4 F4 N4
  refine wpAny_execs_cons (st5_K ap hoN hoR T KX B F4 N4 hp1 hp2 hrs hG hlen ?_)
  intro h5 t5 u5 oN5 vN5 F5 hoN5 N5
  refine wpAny_execs_cons (st6_K ap hoN5 hoR T KX B F5 N5 hp1 hp2 hrs hG hlen ?_)
  intro h6 t6 F6 N6
  refine wpAny_execs_cons (st7_K ap hoN5 hoR T KX B F6 N6 hp1 hp2 hrs hG hlen ?_)
  intro h7 t7 D ys F7 N7 hq
  refine wpAny_execs_cons (st8_K ap hoN5 hoR T KX B F7 N7 hq hp1 hp2 hrs hG hlen ?_)
  intro h8 t8 m8 F8
  exact h _ _ _ F8
theorem fm_nat {x : Int} {d m : Int} (hm : 0 < m) : Int.fmod (Int.fdiv x d) m = ((Int.fmod (Int.fdiv x d) m).toNat : Int) := by
  have := Int.fmod_nonneg_of_pos (Int.fdiv x d) hm
  omega
theorem fm_lt {x : Int} {d : Int} {m : Nat} (hm : 0 < m) : (Int.fmod (Int.fdiv x d) (m : Int)).toNat < m := by
  have h1 := Int.fmod_nonneg_of_pos (Int.fdiv x d) (show (0 : Int) < (m : Int) by omega)
  have h2 := Int.fmod_lt_of_pos (Int.fdiv x d) (show (0 : Int) < (m : Int) by omega)
  omega
theorem law_iter {z : Int} {fa : Addr} {cd : Value} {mB : Str → Option Value} {vN : Option Value} {QF : Flow → Shared → Prop} {k1 k2 : Tok} {l1 s1 d1 l2 s2 d2 r nu rg : Addr} {oN oR : Obj} {nus : List Value} {ns : List Int} {A1 A2 A3 : Addr × Obj} {t₁ u₁ v₁ : Tok}
    (hr : IsRange s.heap rg 0 z 1 t₁ u₁ v₁) (hz : z = (ns.length : Int)) (hin : IntsAre nus ns) (hns : ns.length ≤ 17) (hoN : oN.data = .cell vN) (hoR : oR.data = .cell (some (.ref r)))
    (T : Top hd.view_39 loose mean mg mb h₀) (KX : (hd.heap_39 w.params).In h₀) (B : Below callerA base [] h₀) (F : Fr h₀ L s.heap (m1 nu s2 s1 mB))
    (N : News h₀ L s.heap ((nu, listOf nus.toArray 0) :: A1 :: A2 :: A3 :: (r, listOf ([] : List Value).toArray 0) :: (l2, listOf ([] : List Value).toArray 0) :: (s2, instObj 175 d2) :: (d2, headD w k2 l2) :: (l1, listOf ([] : List Value).toArray 0) :: (s1, instObj 175 d1) :: (d1, headD w k1 l1) :: (L + 1 + 1, oN) :: (L + 1, oR) :: []))
    (ho : @LT.lt Nat _ (L + 1) (L + 1 + 1) ∧ @LT.lt Nat _ (L + 1 + 1) (d1) ∧ @LT.lt Nat _ (d1) (s1) ∧ @LT.lt Nat _ (s1) (l1) ∧ @LT.lt Nat _ (l1) (d2) ∧ @LT.lt Nat _ (d2) (s2) ∧ @LT.lt Nat _ (s2) (l2) ∧ @LT.lt Nat _ (l2) (r) ∧ @LT.lt Nat _ (r) (A3.1) ∧ @LT.lt Nat _ (A3.1) (A2.1) ∧ @LT.lt Nat _ (A2.1) (A1.1) ∧ @LT.lt Nat _ (A1.1) (nu))
    (h : ∀ h' tk u' oN' oR' vN' r' rvs' rn' vs1' n1' vs2' n2' tl' rs', Fr h₀ L h' (ovr STO u' (m1 nu s2 s1 mB)) → News h₀ L h' ((L + 1 + 1, oN') :: (L + 1, oR') :: (l1, listOf vs1'.toArray n1') :: (s1, instObj 175 d1) :: (d1, headD w k1 l1) :: (l2, listOf vs2'.toArray n2') :: (s2, instObj 175 d2) :: (d2, headD w k2 l2) :: (r', listOf rvs'.toArray rn') :: (nu, listOf nus.toArray 0) :: tl') → rs'.length ≤ 100 → Ap (L + 1 + 1) (L + 1) l1 s1 d1 l2 s2 d2 r' nu tl' ∧ oN'.data = .cell vN' ∧ oR'.data = .cell (some (.ref r')) ∧ PairsIn tl' vs1' (rs'.map f1) ∧ PairsIn tl' vs2' (rs'.map f2) ∧ RowsIn tl' rvs' rs' ∧ (∀ p ∈ rs', RowG p) → QF .next { s with heap := h', toks := tk }) :
    wpAny (model PySem.Challenge.rw_mr0247_01.row.toRowW.prog w) (Around.deeper callerA (lawEnv L fa cd)) (pyIter (.ref rg)) (fun it s₂ => LoopAtV PySem.Challenge.rw_mr0247_01.row.toRowW.prog w (Around.deeper callerA (lawEnv L fa cd)) h₀ (lawEnv L fa cd) (Str.ofString "k") turnBody QF E it s₂) E s := by
  subst hz
  obtain ⟨o1, o2, o3, o4, o5, o6, o7, o8, o9, o10, o11, o12⟩ := ho
  have hap : Ap (L + 1 + 1) (L + 1) l1 s1 d1 l2 s2 d2 r nu [A1, A2, A3] := by
    refine ⟨?_, ?_, ?_, ?_, ?_, ?_⟩
    all_goals simp only [List.forall_mem_cons, List.not_mem_nil, false_imp_iff, implies_true, and_true]
    · refine ⟨?_, ?_, ?_, ?_, ?_, ?_, ?_, ?_, ?_⟩ <;> (refine neN ?_; omega)
    · refine ⟨?_, ?_, ?_, ?_, ?_, ?_, ?_, ?_, ?_⟩ <;> (refine neN ?_; omega)
    · refine ⟨?_, ?_, ?_, ?_, ?_, ?_, ?_, ?_, ?_⟩ <;> (refine neN ?_; omega)
    · refine ⟨?_, ?_, ?_, ?_, ?_, ?_, ?_, ?_, ?_⟩ <;> (refine neN ?_; omega)
    · refine ⟨?_, ?_, ?_, ?_, ?_, ?_, ?_, ?_, ?_⟩ <;> (refine neN ?_; omega)
    · refine ⟨⟨?_, ?_, ?_, ?_, ?_⟩, ⟨?_, ?_, ?_, ?_, ?_⟩, ⟨?_, ?_, ?_, ?_, ?_⟩⟩ <;> (refine neN ?_; omega)
  have hN0 : News h₀ L s.heap ((L + 1 + 1, oN) :: (L + 1, oR) :: (l1, listOf ([] : List Value).toArray 0) :: (s1, instObj 175 d1) :: (d1, headD w k1 l1) :: (l2, listOf ([] : List Value).toArray 0) :: (s2, instObj 175 d2) :: (d2, headD w k2 l2) :: (r, listOf ([] : List Value).toArray 0) :: (nu, listOf nus.toArray 0) :: [A1, A2, A3]) := by
    intro p hp
    refine N p ?_
    revert p
    exact (List.forall_mem_cons.mpr ⟨(.tail _ (.tail _ (.tail _ (.tail _ (.tail _ (.tail _ (.tail _ (.tail _ (.tail _ (.tail _ (.tail _ (.head _)))))))))))), (List.forall_mem_cons.mpr ⟨(.tail _ (.tail _ (.tail _ (.tail _ (.tail _ (.tail _ (.tail _ (.tail _ (.tail _ (.tail _ (.tail _ (.tail _ (.head _))))))))))))), (List.forall_mem_cons.mpr ⟨(.tail _ (.tail _ (.tail _ (.tail _ (.tail _ (.tail _ (.tail _ (.tail _ (.head _))))))))), (List.forall_mem_cons.mpr ⟨(.tail _ (.tail _ (.tail _ (.tail _ (.tail _ (.tail _ (.tail _ (.tail _ (.tail _ (.head _)))))))))), (List.forall_mem_cons.mpr ⟨(.tail _ (.tail _ (.tail _ (.tail _ (.tail _ (.tail _ (.tail _ (.tail _ (.tail _ (.tail _ (.head _))))))))))), (List.forall_mem_cons.mpr ⟨(.tail _ (.tail _ (.tail _ (.tail _ (.tail _ (.head _)))))), (List.forall_mem_cons.mpr ⟨(.tail _ (.tail _ (.tail _ (.tail _ (.tail _ (.tail _ (.head _))))))), (List.forall_mem_cons.mpr ⟨(.tail _ (.tail _ (.tail _ (.tail _ (.tail _ (.tail _ (.tail _ (.head _)))))))), (List.forall_mem_cons.mpr ⟨(.tail _ (.tail _ (.tail _ (.tail _ (.head _))))), (List.forall_mem_cons.mpr ⟨(.head _), (List.forall_mem_cons.mpr ⟨(.tail _ (.head _)), (List.forall_mem_cons.mpr ⟨(.tail _ (.tail _ (.head _))), (List.forall_mem_cons.mpr ⟨(.tail _ (.tail _ (.tail _ (.head _)))), (fun p hp => nomatch hp)⟩)⟩)⟩)⟩)⟩)⟩)⟩)⟩)⟩)⟩)⟩)⟩)⟩)
  have hF0 : Fr h₀ L s.heap (ovr STO (m1 nu s2 s1 mB) (m1 nu s2 s1 mB)) := ovr_fr F fun _ _ => rfl
  refine loopR (n := ns.length) rfl hr ?sm ?sz hF0 hN0 ⟨fun k m₂ nx₂ => ∃ u' oN' oR' vN' r' rvs' rn' vs1' n1' vs2' n2' tl' rs', m₂ = ovr STO u' (m1 nu s2 s1 mB) ∧ nx₂ = ((L + 1 + 1, oN') :: (L + 1, oR') :: (l1, listOf vs1'.toArray n1') :: (s1, instObj 175 d1) :: (d1, headD w k1 l1) :: (l2, listOf vs2'.toArray n2') :: (s2, instObj 175 d2) :: (d2, headD w k2 l2) :: (r', listOf rvs'.toArray rn') :: (nu, listOf nus.toArray 0) :: tl') ∧ rs'.length ≤ k ∧ Ap (L + 1 + 1) (L + 1) l1 s1 d1 l2 s2 d2 r' nu tl' ∧ oN'.data = .cell vN' ∧ oR'.data = .cell (some (.ref r')) ∧ PairsIn tl' vs1' (rs'.map f1) ∧ PairsIn tl' vs2' (rs'.map f2) ∧ RowsIn tl' rvs' rs' ∧ (∀ p ∈ rs', RowG p), ⟨_, _, _, _, _, [], 0, [], 0, [], 0, _, [], rfl, rfl, Nat.le_refl _, hap, hoN, hoR, .nil, .nil, .nil, (fun p hp => nomatch hp)⟩, ?turn, ?done⟩
  case sm => exact (rng100 (by omega)).1
  case sz => exact (rng100 (by omega)).2
  case done =>
    rintro m₂ nx h9 tk ⟨u', oN', oR', vN', r', rvs', rn', vs1', n1', vs2', n2', tl', rs', rfl, rfl, hl, hf⟩ F₁ N₁
    exact h _ _ _ _ _ _ _ _ _ _ _ _ _ _ _ F₁ N₁ (by omega) hf
  case turn =>
    rintro i t m₂ nx h9 tk own hin9 hoff hno ⟨u', oN', oR', vN', r', rvs', rn', vs1', n1', vs2', n2', tl', rs', rfl, rfl, hl, hap9, hoN9, hoR9, p1, p2, pr, hG⟩ F₁ N₁
    have hap8 : Ap (L + 1 + 1) (L + 1) l1 s1 d1 l2 s2 d2 r' nu (tl' ++ own) := hap9.own fun p hp => ⟨hoff p hp _ (.head _), hoff p hp _ (.tail _ (.head _)), hoff p hp _ (.tail _ (.tail _ (.head _))), hoff p hp _ (.tail _ (.tail _ (.tail _ (.tail _ (.tail _ (.head _)))))), hoff p hp _ (.tail _ (.tail _ (.tail _ (.tail _ (.tail _ (.tail _ (.tail _ (.tail _ (.head _)))))))))⟩
    obtain ⟨x, hx⟩ : ∃ x, ns[i]? = some x := ⟨ns[i]'hin9, List.getElem?_eq_getElem _⟩
    have e0 : (0 : Int) + (i : Int) * 1 = (i : Int) := by omega
    rw [e0] at F₁
    have hi := fm_nat (x := x) (d := 4) (m := 5) (by decide)
    have hj := fm_nat (x := x) (d := 20) (m := 3) (by decide)
    have hi5 := fm_lt (x := x) (d := 4) (m := 5) (by decide)
    have hj3 := fm_lt (x := x) (d := 20) (m := 3) (by decide)
    refine turn_K (z := Str.empty) (y := Str.empty) (nm := Str.empty) (wr := Str.empty) (vl := Str.empty) (tx := 0) (t' := 0) (t1 := 0) (t2 := 0) (t3 := 0) (cn := 0) (cr := 0) (ps := []) hap8 (fun p hp => (hno p hp).1) hoN9 hoR9 T KX B F₁ N₁ hin hin9 (by omega) hx hi5 hj3 hi hj p1 p2 pr hG (by omega) ?_
    intro h' tk' u2 oN2 oR2 vN2 r2 rvs2 rn2 vs12 n12 vs22 n22 tl2 rs2 F2 N2 q1 q2 q3 q4 q5 q6 q7 q8
    refine ⟨h', tk', _, _, ((L + 1 + 1, oN2) :: (L + 1, oR2) :: (l1, listOf vs12.toArray n12) :: (s1, instObj 175 d1) :: (d1, headD w k1 l1) :: (l2, listOf vs22.toArray n22) :: (s2, instObj 175 d2) :: (d2, headD w k2 l2) :: (r2, listOf rvs2.toArray rn2) :: (nu, listOf nus.toArray 0) :: (keepL tl2)), rfl, F2, N2, ?_, ?_, ?_, _, _, _, _, _, _, _, _, _, _, _, _, _, rfl, rfl, Nat.le_trans q7 (Nat.succ_le_succ hl), q8.cut.keepL, q1, q2, keep_pairs q3, keep_pairs q4, keep_rows q5, q6⟩
    · exact (List.forall_mem_cons.mpr ⟨(.head _), (List.forall_mem_cons.mpr ⟨(.tail _ (.head _)), (List.forall_mem_cons.mpr ⟨(.tail _ (.tail _ (.head _))), (List.forall_mem_cons.mpr ⟨(.tail _ (.tail _ (.tail _ (.head _)))), (List.forall_mem_cons.mpr ⟨(.tail _ (.tail _ (.tail _ (.tail _ (.head _))))), (List.forall_mem_cons.mpr ⟨(.tail _ (.tail _ (.tail _ (.tail _ (.tail _ (.head _)))))), (List.forall_mem_cons.mpr ⟨(.tail _ (.tail _ (.tail _ (.tail _ (.tail _ (.tail _ (.head _))))))), (List.forall_mem_cons.mpr ⟨(.tail _ (.tail _ (.tail _ (.tail _ (.tail _ (.tail _ (.tail _ (.head _)))))))), (List.forall_mem_cons.mpr ⟨(.tail _ (.tail _ (.tail _ (.tail _ (.tail _ (.tail _ (.tail _ (.tail _ (.head _))))))))), (List.forall_mem_cons.mpr ⟨(.tail _ (.tail _ (.tail _ (.tail _ (.tail _ (.tail _ (.tail _ (.tail _ (.tail _ (.head _)))))))))), (fun p hp => (.tail _ (.tail _ (.tail _ (.tail _ (.tail _ (.tail _ (.tail _ (.tail _ (.tail _ (.tail _ (List.mem_append_left _ (keep_cls hp).1))))))))))))⟩)⟩)⟩)⟩)⟩)⟩)⟩)⟩)⟩)⟩)
    · intro p hp
      exact (.tail _ (.tail _ (.tail _ (.tail _ (.tail _ (.tail _ (.tail _ (.tail _ (.tail _ (.tail _ (List.mem_append_right _ hp)))))))))))
    · intro p hp
      obtain ⟨z1, z2, z3, z4, z5⟩ := q8.ft p (List.mem_append_right _ hp)
      refine List.forall_mem_cons.mpr ⟨z1, List.forall_mem_cons.mpr ⟨z2, List.forall_mem_cons.mpr ⟨z3, List.forall_mem_cons.mpr ⟨hoff p hp _ (.tail _ (.tail _ (.tail _ (.head _)))), List.forall_mem_cons.mpr ⟨hoff p hp _ (.tail _ (.tail _ (.tail _ (.tail _ (.head _))))), List.forall_mem_cons.mpr ⟨z4, List.forall_mem_cons.mpr ⟨hoff p hp _ (.tail _ (.tail _ (.tail _ (.tail _ (.tail _ (.tail _ (.head _))))))), List.forall_mem_cons.mpr ⟨hoff p hp _ (.tail _ (.tail _ (.tail _ (.tail _ (.tail _ (.tail _ (.tail _ (.head _)))))))), List.forall_mem_cons.mpr ⟨z5, List.forall_mem_cons.mpr ⟨hoff p hp _ (.tail _ (.tail _ (.tail _ (.tail _ (.tail _ (.tail _ (.tail _ (.tail _ (.tail _ (.head _)))))))))), ?_⟩⟩⟩⟩⟩⟩⟩⟩⟩⟩
      intro b hb e
      obtain ⟨q, hq, rfl⟩ := List.mem_map.mp hb
      obtain ⟨hq1, hq2⟩ := keep_cls hq
      have g1 := (N2 p (.tail _ (.tail _ (.tail _ (.tail _ (.tail _ (.tail _ (.tail _ (.tail _ (.tail _ (.tail _ (List.mem_append_right _ hp)))))))))))).1
      have g2 := (N2 q (.tail _ (.tail _ (.tail _ (.tail _ (.tail _ (.tail _ (.tail _ (.tail _ (.tail _ (.tail _ (List.mem_append_left _ hq1)))))))))))).1
      rw [e, g2] at g1
      have e4 : q.2 = p.2 := Option.some.inj g1
      rcases hq2 with hq2 | hq2
      · exact (hno p hp).1 (e4 ▸ hq2)
      · exact (hno p hp).2 (e4 ▸ hq2)
end
end
end
end Mine
section
open PySem PySem.W PySem.W.X PyProof.Rows PySem.Spec PyProof.Rows.LCg PyProof.Rows.LCt
open Mine
local macro_rules | `(tactic| walk_at "pyIter ref") => `(tactic| ((with_reducible show wpAny _ _ (pyIter (Value.ref _)) (fun it s₂ => LoopAtV _ _ _ _ _ _ _ _ _ it s₂) _ _); k_dflt (refine' law_iter ?hr ?hz ?hin ?hns ?hoN ?hoR ?hT ?hX ?hB ?hF ?hN ?ho ?hQ)))
theorem PySem.Challenge.cw_mr0247_01_holds : PySem.Challenge.rw_mr0247_01.Holds := by
  refine hd ?_
  w_on
  k_fill
  w_strict (k_go0; (all_goals try k_fold))
  w_strict (repeat (first | (k_unfold; (try dsimp only)) | walk1 | (dsimp only; walk1)))
  case hF => k_asm
  case hN => k_asm
  case hr => assumption
  case hin => assumption
  case hT => k_asm
  case hX => k_asm
  case hB => k_asm
  case hz => rw [List.length_append]; rfl
  case hns =>
    rw [List.length_append, List.length_take]
    show min 8 _ + 9 ≤ 17
    omega
  case hoN => assumption
  case hoR => assumption
  case ho => refine ⟨?_, ?_, ?_, ?_, ?_, ?_, ?_, ?_, ?_, ?_, ?_, ?_⟩ <;> omega
  case hQ =>
    rintro h9 tk9 u9 oN9 oR9 vN9 r9 rvs9 rn9 vs19 n19 vs29 n29 tl9 rs9 F9 N9 hl9 ⟨hap9, hoN9, hoR9, p19, p29, pr9, hG9⟩
    dsimp only
    refine' law_rest hap9 hoN9 hoR9 ?hT ?hX ?hB F9 N9 p19 p29 pr9 hG9 hl9 ?hE
    case hT => k_asm
    case hX => k_asm
    case hB => k_asm
    case hE =>
      intro h8 tk8 m8 F8
      w_strict (repeat (first | (k_unfold; (try dsimp only)) | walk1 | (dsimp only; walk1)))
      k_end
      refine goodW_bool F8 (by assumption) (raisesW_false ?zr) ?zp
      case zr => wrow_none_raised
      case zp => wrow_post

end
