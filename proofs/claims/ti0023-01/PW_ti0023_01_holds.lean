import PyProof.Rows.All
import Wide.All
import OpenK.AllK
import Wide.FinOn
import PySem.Challenge.RW_ti0023_01
open PySem PySem.W PyProof.Rows PySem.Calls PySem.Spec
set_option Elab.async false
set_option maxRecDepth 100000
set_option maxHeartbeats 8000000
set_option linter.all false
namespace Mine
section
local macro_rules | `(tactic| refine $e) => `(tactic| (refine' $e; any_goals ((with_reducible change LeftO _ _ _ _ _ _ _ _); intro w; kernel_rfl)))
open_top hd for PySem.Challenge.rw_ti0023_01
end
end Mine
namespace Mine
local macro_rules | `(tactic| omega) => `(tactic| first | assumption | exact Nat.ne_of_lt (by assumption) | exact Nat.ne_of_gt (by assumption) | exact Nat.le_of_lt (by assumption) | lia | omega (config := {}))


structure Rm (A : Around) (n : Nat) : Prop where
  h : A.handled = none
  d : A.depth + n < 1000
  u : A.units + 100 * n + 100 < 9900
theorem Rm.le {A : Around} {n k : Nat} (r : Rm A n) (hk : k ≤ n) : Rm A k := ⟨r.h, by have := r.d; omega, by have := r.u; omega⟩

structure Wd (w : World) (h : Heap) : Prop where
  X : (hd.heap_39 w.params).In h
  T : ∃ p loose mean mg mb, Top p loose mean mg mb h
theorem Wd.keeps {w : World} {h h' : Heap} (W : Wd w h) (k : ∀ b o, h.get? b = some o → h'.get? b = some o) : Wd w h' :=
  ⟨W.X.keeps k, let ⟨p, l, m, mg, mb, T⟩ := W.T; ⟨p, l, m, mg, mb, T.keeps k⟩⟩

abbrev Mo (w : World) : Model := model PySem.Challenge.rw_ti0023_01.row.prog w

section
variable {prog : Program} {w : World} {A : Around} {s : Shared} {K : Frag} {p : Program} {loose : List Str} {mean : ExcName → Option Value} {mg mb : Str → Option Value}
  {Q : Value → Shared → Prop} {E : Value → Shared → Prop} {name qual : Str} {params : Arguments} {body : List Stmt} {scope : Scope} {dV kV doc pm cdv ct oc : Value} {an od : Option Addr} {osl : Array (Option Value)} {f : Addr} {args : List Value} {binds : List (Str × Value)}

/-- what a call hands back, all that stood before it kept -/
def Out (s : Shared) (P : Value → Shared → Prop) (v : Value) (s' : Shared) : Prop := P v s' ∧ Keeps s s'

/-- entering a plain def: the caller's whole heap is the base -/
theorem enterP (X : K.In s.heap) (T : Top p loose mean mg mb s.heap)
    (ho : K.lookup f = some ⟨oc, od, .func (fnX name qual params body scope [] dV kV doc pm an cdv ct), osl⟩) (hcd : codeIn K cdv qual = true) (hroom : A.depth < recursionLimit)
    (hbind : BindsTo s (fnX name qual params body scope [] dV kV doc pm an cdv ct) ⟨args, []⟩ binds) (hloc : ∀ y ∈ binds, scope.names.lookup y.1 = some .local)
    (hco : scope.isCoroutine = false) (hgen : scope.isGenerator = false) (hk : scope.kind = .function) (hcell : ∀ x ∈ scope.names, x.2 ≠ .cell)
    (h : ∀ L h₁ tk, Fr s.heap L h₁ (fun y => binds.reverse.lookup y) → News s.heap L h₁ [] →
      wpAny (model prog w) (A.deeper (envX qual scope L f cdv [])) (execs body (envX qual scope L f cdv []))
        (fun fl s' => Q (match fl with | .ret v => v | _ => .none) s') (fun _ _ => False) { s with heap := h₁, toks := tk }) :
    wpAny (model prog w) A (call (.ref f) args) Q E s := by
  refine wpAny_call (codeAny_call_def (fd := fnX name qual params body scope [] dV kV doc pm an cdv ct) (body := body) (binds := binds) hroom (X _ _ ho) rfl T.nolimit (codeRec_of X hcd) rfl hbind hcell hloc (fun h₁ hns hk₁ => ?_) hco hgen hk)
  exact wpAny_mono (h s.heap.objs.size h₁ _ ⟨hns, fun b o e => hk₁ b o e, Nat.le_refl _⟩ (fun _ hp => nomatch hp)) (fun fl s' hl => hl) fun _ _ y => y.elim

/-- using a call's own law where the walk stands -/
theorem use {M : Model} {t : Sem Value} {post : Value → Shared → Prop} {h₀ : Heap} {L : Addr} {m : Str → Option Value} {news : List (Addr × Obj)}
    (S : wpAny M A t (Out s post) E s) (F : Fr h₀ L s.heap m) (N : News h₀ L s.heap news)
    (h : ∀ v h' tk, Fr h₀ L h' m → News h₀ L h' news → (∀ b o, s.heap.get? b = some o → h'.get? b = some o) → post v { s with heap := h', toks := tk } → Q v { s with heap := h', toks := tk }) :
    wpAny M A t Q E s := by
  refine wpAny_mono S (fun v s' hs => ?_) fun _ _ e => e
  obtain ⟨hp, h', tk, rfl, hk⟩ := hs
  exact h v h' tk (F.keeps hk) (N.grown hk) hk hp
theorem useB {M : Model} {t : Sem Value} {b : Bool} {h₀ : Heap} {L : Addr} {m : Str → Option Value} {news : List (Addr × Obj)}
    (S : wpAny M A t (Out s fun v _ => v = .bool b) E s) (F : Fr h₀ L s.heap m) (N : News h₀ L s.heap news)
    (h : ∀ h' tk, Fr h₀ L h' m → News h₀ L h' news → Q (.bool b) { s with heap := h', toks := tk }) :
    wpAny M A t Q E s := use S F N fun _ h' tk F' N' _ e => by subst e; exact h h' tk F' N'
theorem useI {M : Model} {t : Sem Value} {i : Int} {h₀ : Heap} {L : Addr} {m : Str → Option Value} {news : List (Addr × Obj)}
    (S : wpAny M A t (Out s fun v _ => ∃ u, v = .int i u) E s) (F : Fr h₀ L s.heap m) (N : News h₀ L s.heap news)
    (h : ∀ u h' tk, Fr h₀ L h' m → News h₀ L h' news → Q (.int i u) { s with heap := h', toks := tk }) :
    wpAny M A t Q E s := use S F N fun _ h' tk F' N' _ e => by obtain ⟨u, rfl⟩ := e; exact h u h' tk F' N'
theorem useS {M : Model} {t : Sem Value} {x : Str} {h₀ : Heap} {L : Addr} {m : Str → Option Value} {news : List (Addr × Obj)}
    (S : wpAny M A t (Out s fun v _ => ∃ u, v = .str x u) E s) (F : Fr h₀ L s.heap m) (N : News h₀ L s.heap news)
    (h : ∀ u h' tk, Fr h₀ L h' m → News h₀ L h' news → Q (.str x u) { s with heap := h', toks := tk }) :
    wpAny M A t Q E s := use S F N fun _ h' tk F' N' _ e => by obtain ⟨u, rfl⟩ := e; exact h u h' tk F' N'
/-- the end of a walk -/
theorem endK {h' : Heap} {L : Addr} {m : Str → Option Value} {tk : Nat} {P : Value → Shared → Prop} {v : Value} (F : Fr s.heap L h' m) (hp : P v { s with heap := h', toks := tk }) : Out s P v { s with heap := h', toks := tk } :=
  ⟨hp, h', tk, rfl, F.keep⟩
/-- a new list handed back -/
abbrev lsO (vs : List Value) (n : Nat) : Obj := { cls := .type "list", data := .seq vs.toArray n }
abbrev tpO (vs : List Value) (n : Nat) : Obj := { cls := .type "tuple", data := .seq vs.toArray n }
def NewL (s : Shared) (P : List Value → Prop) (v : Value) (s' : Shared) : Prop := ∃ a vs n, P vs ∧ v = .ref a ∧ s.heap.get? a = none ∧ s'.heap.get? a = some (lsO vs n)
def NewT (s : Shared) (P : List Value → Prop) (v : Value) (s' : Shared) : Prop := ∃ a vs n, P vs ∧ v = .ref a ∧ s.heap.get? a = none ∧ s'.heap.get? a = some (tpO vs n)
def AllNe (d : Nat) : List (Addr × Obj) → Prop
  | [] => True
  | p :: r => @Ne Nat p.1 d ∧ AllNe d r
theorem allNe_of {d : Addr} : ∀ {l : List (Addr × Obj)}, (∀ p ∈ l, p.1 ≠ d) → AllNe d l
  | [], _ => trivial
  | p :: _, h => ⟨h p (.head _), allNe_of fun q hq => h q (.tail _ hq)⟩
theorem AllNe.all {d : Addr} : ∀ {l : List (Addr × Obj)}, AllNe d l → ∀ p ∈ l, p.1 ≠ d
  | [], _, _, h => nomatch h
  | _ :: _, h, p, hp => by
    rcases List.mem_cons.mp hp with rfl | hp
    · exact h.1
    · exact AllNe.all h.2 p hp
def AllLt (d : Nat) : List (Addr × Obj) → Prop
  | [] => True
  | p :: r => @LT.lt Nat _ p.1 d ∧ AllLt d r
theorem allLt_of {d : Nat} : ∀ {l : List (Addr × Obj)}, (∀ p ∈ l, @LT.lt Nat _ p.1 d) → AllLt d l
  | [], _ => trivial
  | p :: _, h => ⟨h p (.head _), allLt_of fun q hq => h q (.tail _ hq)⟩
theorem AllLt.all {d : Nat} : ∀ {l : List (Addr × Obj)}, AllLt d l → ∀ p ∈ l, p.1 ≠ d
  | [], _, _, h => nomatch h
  | _ :: _, h, p, hp => by
    rcases List.mem_cons.mp hp with rfl | hp
    · exact Nat.ne_of_lt h.1
    · exact AllLt.all h.2 p hp
theorem new_news {h₀ h' : Heap} {L a : Addr} {o : Obj} {m : Str → Option Value} {news : List (Addr × Obj)} (F : Fr h₀ L s.heap m) (N : News h₀ L s.heap news) (N' : News h₀ L h' news) (hn : s.heap.get? a = none) (ho : h'.get? a = some o) :
    News h₀ L h' ((a, o) :: news) ∧ AllNe a news := by
  refine ⟨fun p hp => ?_, allNe_of fun p hp e => ?_⟩
  · rcases List.mem_cons.mp hp with rfl | hp
    · refine ⟨ho, fun e => ?_, ?_⟩
      · obtain ⟨oL, _, _, hL, _⟩ := F.ns
        have e' : a = L := e
        rw [e'] at hn; rw [hn] at hL; cases hL
      · cases q : h₀.get? a with
        | none => rfl
        | some o' => have := F.keep _ _ q; rw [hn] at this; cases this
    · exact N' p hp
  · have := (N p hp).1; rw [e, hn] at this; cases this
theorem useL {M : Model} {t : Sem Value} {P : List Value → Prop} {h₀ : Heap} {L : Addr} {m : Str → Option Value} {news : List (Addr × Obj)}
    (S : wpAny M A t (Out s (NewL s P)) E s) (F : Fr h₀ L s.heap m) (N : News h₀ L s.heap news)
    (h : ∀ a vs n h' tk, P vs → Fr h₀ L h' m → News h₀ L h' ((a, lsO vs n) :: news) → AllNe a news → Q (.ref a) { s with heap := h', toks := tk }) :
    wpAny M A t Q E s := use S F N fun v h' tk F' N' _ e => by
  obtain ⟨a, vs, n, hp, rfl, hn, ho⟩ := e
  have := new_news F N N' hn ho
  exact h a vs n h' tk hp F' this.1 this.2
theorem useT {M : Model} {t : Sem Value} {P : List Value → Prop} {h₀ : Heap} {L : Addr} {m : Str → Option Value} {news : List (Addr × Obj)}
    (S : wpAny M A t (Out s (NewT s P)) E s) (F : Fr h₀ L s.heap m) (N : News h₀ L s.heap news)
    (h : ∀ a vs n h' tk, P vs → Fr h₀ L h' m → News h₀ L h' ((a, tpO vs n) :: news) → AllNe a news → Q (.ref a) { s with heap := h', toks := tk }) :
    wpAny M A t Q E s := use S F N fun v h' tk F' N' _ e => by
  obtain ⟨a, vs, n, hp, rfl, hn, ho⟩ := e
  have := new_news F N N' hn ho
  exact h a vs n h' tk hp F' this.1 this.2
theorem endL {h' : Heap} {L a : Addr} {m : Str → Option Value} {tk n : Nat} {P : List Value → Prop} {vs : List Value} {news : List (Addr × Obj)} (F : Fr s.heap L h' m) (N : News s.heap L h' news) (hm : (a, lsO vs n) ∈ news) (hp : P vs) :
    Out s (NewL s P) (.ref a) { s with heap := h', toks := tk } :=
  ⟨⟨a, vs, n, hp, rfl, N.fresh hm, N.get hm⟩, h', tk, rfl, F.keep⟩
theorem endT {h' : Heap} {L a : Addr} {m : Str → Option Value} {tk n : Nat} {P : List Value → Prop} {vs : List Value} {news : List (Addr × Obj)} (F : Fr s.heap L h' m) (N : News s.heap L h' news) (hm : (a, tpO vs n) ∈ news) (hp : P vs) :
    Out s (NewT s P) (.ref a) { s with heap := h', toks := tk } :=
  ⟨⟨a, vs, n, hp, rfl, N.fresh hm, N.get hm⟩, h', tk, rfl, F.keep⟩
end

theorem rmK {env : Env} {dp un k n : Nat} {fr : Option (List Env)} {gd : Option (List Code)} (hdp : dp + n < 1000) (hun : un + 100 * n + 100 < 9900) (hk : k + 1 ≤ n) : Rm (Around.deeper { depth := dp, frames := fr, guards := gd, units := un, handled := none } env) k :=
  ⟨rfl, by show dp + 1 + k < 1000; omega, by show un + 3 + 100 * k + 100 < 9900; omega⟩

/-- a place where the walk is to stand still -/
def Here (P : Prop) : Prop := P
theorem Here.out {P : Prop} (h : Here P) : P := h
theorem Here.in {P : Prop} (h : P) : Here P := h
theorem neE {d : Addr} : ∀ p ∈ ([] : List (Addr × Obj)), p.1 ≠ d := fun _ h => nomatch h
theorem neC {d a : Addr} {o : Obj} {r : List (Addr × Obj)} (h : a ≠ d) (hr : ∀ p ∈ r, p.1 ≠ d) : ∀ p ∈ (a, o) :: r, p.1 ≠ d := fun p hp => by
  rcases List.mem_cons.mp hp with rfl | hp
  · exact h
  · exact hr p hp
/-- the end, put by for the walk's while -/
theorem wpK {α : Type} {M : Model} {A : Around} {X : Sem α} {Q : α → Shared → Prop} {E : Value → Shared → Prop} {s : Shared} (h : ∀ K : α → Shared → Prop, (∀ v s', Q v s' → K v s') → wpAny M A X K E s) : wpAny M A X Q E s := h Q fun _ _ h => h
theorem wpKE {α : Type} {M : Model} {A : Around} {X : Sem α} {Q : α → Shared → Prop} {E : Value → Shared → Prop} {s : Shared} (h : ∀ (K : α → Shared → Prop) (E' : Value → Shared → Prop), (∀ v s', Q v s' → K v s') → wpAny M A X K E' s) : wpAny M A X Q E s := h Q E fun _ _ h => h
theorem ne1 {a L : Nat} (h : a < L) : @Ne Nat (L + 1) a := by omega
theorem ne2 {a L : Nat} (h : a < L) : @Ne Nat (L + 1 + 1) a := by omega
theorem ne3 {a L : Nat} (h : a < L) : @Ne Nat (L + 1 + 1 + 1) a := by omega
theorem AllNe.hd {d : Nat} {a : Addr} {o : Obj} {r : List (Addr × Obj)} (h : AllNe d ((a, o) :: r)) : @Ne Nat a d := h.1
theorem AllNe.tl {d : Nat} {p : Addr × Obj} {r : List (Addr × Obj)} (h : AllNe d (p :: r)) : AllNe d r := h.2
theorem AllLt.hd {d : Nat} {a : Addr} {o : Obj} {r : List (Addr × Obj)} (h : AllLt d ((a, o) :: r)) : @LT.lt Nat _ a d := h.1
theorem AllLt.tl {d : Nat} {p : Addr × Obj} {r : List (Addr × Obj)} (h : AllLt d (p :: r)) : AllLt d r := h.2
/-- the members at these places -/
theorem sub {α : Type} {S : List α} (is : List Nat) : ∀ p ∈ is.filterMap (fun i => S[i]?), p ∈ S := fun p hp => by
  obtain ⟨i, _, e⟩ := List.mem_filterMap.mp hp
  exact List.mem_of_getElem? e

end Mine
namespace Mine
theorem hasattr_kind : builtinKind "hasattr" = none := by decide +kernel
theorem hasattr_entry : entryFor table "hasattr" = some Builtin.«hasattr» := entryFor_of_tree (by kernel_rfl)
theorem hasattr_plain : plainId "hasattr" = true := by decide +kernel
theorem hasattr_args (a b : Value) : argsOk "hasattr" ⟨[a, b], []⟩ := by unfold argsOk; kernel_rfl
theorem lk_list_get : typeLookup (.type "list") "__getitem__" = pure (some (.builtin "list.__getitem__")) := by rw [typeLookup_type, builtinLookup_eq_fast]; kernel_rfl
theorem lk_str_get : typeLookup (.type "str") "__getitem__" = pure (some (.builtin "str.__getitem__")) := by rw [typeLookup_type, builtinLookup_eq_fast]; kernel_rfl
theorem ty_list_get : typeOf (.builtin "list.__getitem__") = pure (.type "method_descriptor") := by show builtinType _ = _; rw [builtinType_eq_fast]; kernel_rfl
theorem ty_str_get : typeOf (.builtin "str.__getitem__") = pure (.type "wrapper_descriptor") := by show builtinType _ = _; rw [builtinType_eq_fast]; kernel_rfl
theorem lk_md_get : typeLookup (.type "method_descriptor") "__get__" = pure (some (.builtin "method_descriptor.__get__")) := by rw [typeLookup_type, builtinLookup_eq_fast]; kernel_rfl
theorem lk_wd_get : typeLookup (.type "wrapper_descriptor") "__get__" = pure (some (.builtin "wrapper_descriptor.__get__")) := by rw [typeLookup_type, builtinLookup_eq_fast]; kernel_rfl
theorem lk_md_set : typeLookup (.type "method_descriptor") "__set__" = pure none := by rw [typeLookup_type, builtinLookup_eq_fast]; kernel_rfl
theorem lk_wd_set : typeLookup (.type "wrapper_descriptor") "__set__" = pure none := by rw [typeLookup_type, builtinLookup_eq_fast]; kernel_rfl
theorem lk_md_del : typeLookup (.type "method_descriptor") "__delete__" = pure none := by rw [typeLookup_type, builtinLookup_eq_fast]; kernel_rfl
theorem lk_wd_del : typeLookup (.type "wrapper_descriptor") "__delete__" = pure none := by rw [typeLookup_type, builtinLookup_eq_fast]; kernel_rfl
theorem list_not_module : isSubtype (.type "list") (.type "module") = pure false := by rw [isSubtype_type]; kernel_rfl
theorem md_entry : entryFor table "method_descriptor.__get__" = some Builtin.«method_descriptor.__get__» := entryFor_of_tree (by kernel_rfl)
theorem wd_entry : entryFor table "wrapper_descriptor.__get__" = some Builtin.«wrapper_descriptor.__get__» := entryFor_of_tree (by kernel_rfl)
theorem md_slot : Slot "method_descriptor" "__get__" "method_descriptor.__get__" :=
  .of (owner := "method_descriptor") (n := "__get__") (by rw [typeLookup_type, builtinLookup_eq_fast]; kernel_rfl) (by decide +kernel) (by decide +kernel) (by decide +kernel)
    (by first | exact .inl (by decide +kernel) | exact .inr (by decide +kernel)) (by rw [isSubtype_type]; kernel_rfl)
theorem wd_slot : Slot "wrapper_descriptor" "__get__" "wrapper_descriptor.__get__" :=
  .of (owner := "wrapper_descriptor") (n := "__get__") (by rw [typeLookup_type, builtinLookup_eq_fast]; kernel_rfl) (by decide +kernel) (by decide +kernel) (by decide +kernel)
    (by first | exact .inl (by decide +kernel) | exact .inr (by decide +kernel)) (by rw [isSubtype_type]; kernel_rfl)
theorem md_args (a b c : Value) : argsOk "method_descriptor.__get__" ⟨[a, b, c], []⟩ := by unfold argsOk; kernel_rfl
theorem wd_args (a b c : Value) : argsOk "wrapper_descriptor.__get__" ⟨[a, b, c], []⟩ := by unfold argsOk; kernel_rfl
theorem told_list : Manifest.toldItsClass.contains "list.__getitem__" = false := by decide +kernel
section
variable {prog : Program} {w : World} {A : Around} {E : Value → Shared → Prop} {h : Heap} {g : Array GenState} {d : Drawn} {t : Nat} {os : OsState} {a : Addr} {o : Obj}
theorem own_list : (".".intercalate ("list.__getitem__".cutAt '.').dropLast) = "list" := by decide +kernel
theorem own_str : (".".intercalate ("str.__getitem__".cutAt '.').dropLast) = "str" := by decide +kernel
theorem sub_list : isSubtype (.type "list") (.type (".".intercalate ("list.__getitem__".cutAt '.').dropLast)) = pure true := by rw [own_list, isSubtype_type]; kernel_rfl
theorem sub_str : isSubtype (.type "str") (.type (".".intercalate ("str.__getitem__".cutAt '.').dropLast)) = pure true := by rw [own_str, isSubtype_type]; kernel_rfl
theorem ha_list_md {R : Result → Shared → Prop} (hx : h.get? a = some o) (hc : o.cls = .type "list") 
  (hq : ∀ h' tk v, handedIn v = true → (∀ b o, h.get? b = some o → h'.get? b = some o) → R (.ok (.ret v)) ⟨h', g, d, tk, os⟩) :
    codeAny (model prog w) A (.call (.builtin "method_descriptor.__get__") ⟨[.builtin "list.__getitem__", .ref a, .type "list"], []⟩) R ⟨h, g, d, t, os⟩ := by
  have hT : (⟨h, g, d, t, os⟩ : Shared).TypeIs (.ref a) "list" := ⟨_, hx, hc⟩
  have f5 := ty_list_get
  have f8 := told_list
  have f9 := sub_list
  refine codeAny_call_builtin md_slot.plain md_entry (md_slot.check _ _ _ _ _ _ _ _ f5 (md_args _ _ _) ?_)
  repeat (any_goals (first | assumption | wp_step))
  exact hq _ _ _ rfl fun b o e => Heap.get?_push_of_some _ e
theorem ha_str_wd {R : Result → Shared → Prop} {x : Str} {u : Tok}
  (hq : ∀ h' tk v, handedIn v = true → (∀ b o, h.get? b = some o → h'.get? b = some o) → R (.ok (.ret v)) ⟨h', g, d, tk, os⟩) :
    codeAny (model prog w) A (.call (.builtin "wrapper_descriptor.__get__") ⟨[.builtin "str.__getitem__", .str x u, .type "str"], []⟩) R ⟨h, g, d, t, os⟩ := by
  have hT : (⟨h, g, d, t, os⟩ : Shared).TypeIs (.str x u) "str" := rfl
  have f5 := ty_str_get
  have f9 := sub_str
  refine codeAny_call_builtin wd_slot.plain wd_entry (wd_slot.check _ _ _ _ _ _ _ _ f5 (wd_args _ _ _) ?_)
  repeat (any_goals (first | assumption | wp_step))
  exact hq _ _ _ rfl fun b o e => Heap.get?_push_of_some _ e
theorem ha_list_entry {tk : Tok} {Q : Fin → Shared → Prop} {items : Array Value} {n : Nat} {sl : Array (Option Value)} (hx : h.get? a = some ⟨.type "list", none, .seq items n, sl⟩)
  (hq : ∀ h' tk v, handedIn v = true → (∀ b o, h.get? b = some o → h'.get? b = some o) → Q (.done (.ret v)) ⟨h', g, d, tk, os⟩) :
    wpAny (model prog w) A (Builtin.«object.__getattribute__» ⟨[.ref a, .str "__getitem__" tk], []⟩) Q E ⟨h, g, d, t, os⟩ := by
  have hT : (⟨h, g, d, t, os⟩ : Shared).TypeIs (.ref a) "list" := ⟨_, hx, rfl⟩
  have hT5 : (⟨h, g, d, t, os⟩ : Shared).TypeIs (.builtin "list.__getitem__") "method_descriptor" := ty_list_get
  have f4 := lk_list_get
  have f5 := ty_list_get
  have f6 := lk_md_get
  have f7 := lk_md_set
  have f8 := lk_md_del
  repeat (any_goals (first | assumption | wp_step))
  refine ha_list_md hx rfl ?_
  intro h' tk v hv hk
  exact wpAny_pure (hq _ _ _ hv hk)
theorem ha_str_entry {tk u : Tok} {Q : Fin → Shared → Prop} {x : Str}
  (hq : ∀ h' tk v, handedIn v = true → (∀ b o, h.get? b = some o → h'.get? b = some o) → Q (.done (.ret v)) ⟨h', g, d, tk, os⟩) :
    wpAny (model prog w) A (Builtin.«object.__getattribute__» ⟨[.str x u, .str "__getitem__" tk], []⟩) Q E ⟨h, g, d, t, os⟩ := by
  have hT : (⟨h, g, d, t, os⟩ : Shared).TypeIs (.str x u) "str" := rfl
  have hT5 : (⟨h, g, d, t, os⟩ : Shared).TypeIs (.builtin "str.__getitem__") "wrapper_descriptor" := ty_str_get
  have f4 := lk_str_get
  have f5 := ty_str_get
  have f6 := lk_wd_get
  have f7 := lk_wd_set
  have f8 := lk_wd_del
  repeat (any_goals (first | assumption | wp_step))
  refine ha_str_wd ?_
  intro h' tk v hv hk
  exact wpAny_pure (hq _ _ _ hv hk)
theorem ha_list_call {tk : Tok} {R : Result → Shared → Prop} {items : Array Value} {n : Nat} {sl : Array (Option Value)} (hx : h.get? a = some ⟨.type "list", none, .seq items n, sl⟩)
  (hq : ∀ h' tk v, handedIn v = true → (∀ b o, h.get? b = some o → h'.get? b = some o) → R (.ok (.ret v)) ⟨h', g, d, tk, os⟩) :
    codeAny (model prog w) A (.call (.builtin "list.__getattribute__") ⟨[.ref a, .str "__getitem__" tk], []⟩) R ⟨h, g, d, t, os⟩ :=
  codeAny_call_builtin F.slot_list_getattribute.plain F.entry_list_ga (F.slot_list_getattribute.check _ _ _ _ _ _ _ _ (show (⟨h, g, d, t, os⟩ : Shared).TypeIs (.ref a) "list" from ⟨_, hx, rfl⟩) (F.args_list_getattribute_2 _ _) (ha_list_entry hx hq))
theorem ha_str_call {tk u : Tok} {R : Result → Shared → Prop} {x : Str}
  (hq : ∀ h' tk v, handedIn v = true → (∀ b o, h.get? b = some o → h'.get? b = some o) → R (.ok (.ret v)) ⟨h', g, d, tk, os⟩) :
    codeAny (model prog w) A (.call (.builtin "object.__getattribute__") ⟨[.str x u, .str "__getitem__" tk], []⟩) R ⟨h, g, d, t, os⟩ :=
  codeAny_call_builtin F.slot_str_getattribute.plain F.entry_object_getattribute (F.slot_str_getattribute.check _ _ _ _ _ _ _ _ (show (⟨h, g, d, t, os⟩ : Shared).TypeIs (.str x u) "str" from rfl) (F.args_object_getattribute_2 _ _) (ha_str_entry hq))
theorem handedOut_of {M : Model} {A : Around} {E Q : Value → Shared → Prop} {s : Shared} {v : Value} (hv : handedIn v = true) (h : Q v s) : wpAny M A (handedOut v) Q E s := by
  exact handed_on hv h
theorem hasattr_list {s : Shared} {Q : Value → Shared → Prop} {l : Addr} {items : Array Value} {t : Tok} (hl : s.heap.PlainList l items)
  (h : ∀ h' tk, (∀ b o, s.heap.get? b = some o → h'.get? b = some o) → Q (.bool true) { s with heap := h', toks := tk }) :
  wpAny (model prog w) A (call (.builtin "hasattr") [.ref l, .str (Str.ofString "__getitem__") t]) Q E s := by
  obtain ⟨hh, g, dr, tk, os⟩ := s
  obtain ⟨n, ho⟩ := hl
  simp only at ho
  have e1 := lk_list_get
  have e2 := F.slot_list_getattribute.lookup
  have e4 := F.slot_list_getattribute.bind (.ref l)
  have e3 := list_not_module
  have hT : (⟨hh, g, dr, tk, os⟩ : Shared).TypeIs (.ref l) "list" := ⟨_, ho, rfl⟩
  refine call_function_entry hasattr_kind hasattr_plain hasattr_entry (hasattr_args _ _) ?_
  unfold Builtin.«hasattr»
  repeat (any_goals (first | assumption | wp_step))
  refine ha_list_call ho ?_
  intro h' tk' v hv hk
  repeat (any_goals (first | assumption | refine handedOut_of hv ?_ | wp_step))
  exact ⟨_, rfl, h _ _ hk⟩
theorem hasattr_str {s : Shared} {Q : Value → Shared → Prop} {x : Str} {u t : Tok}
  (h : ∀ h' tk, (∀ b o, s.heap.get? b = some o → h'.get? b = some o) → Q (.bool true) { s with heap := h', toks := tk }) :
  wpAny (model prog w) A (call (.builtin "hasattr") [.str x u, .str (Str.ofString "__getitem__") t]) Q E s := by
  obtain ⟨hh, g, dr, tk, os⟩ := s
  have e1 := lk_str_get
  have e2 := F.slot_str_getattribute.lookup
  have e4 := F.slot_str_getattribute.bind (.str x u)
  have hT : (⟨hh, g, dr, tk, os⟩ : Shared).TypeIs (.str x u) "str" := rfl
  refine call_function_entry hasattr_kind hasattr_plain hasattr_entry (hasattr_args _ _) ?_
  unfold Builtin.«hasattr»
  repeat (any_goals (first | assumption | wp_step))
  refine ha_str_call ?_
  intro h' tk' v hv hk
  repeat (any_goals (first | assumption | refine handedOut_of hv ?_ | wp_step))
  exact ⟨_, rfl, h _ _ hk⟩
end

end Mine
namespace Mine
local macro_rules | `(tactic| omega) => `(tactic| first | assumption | exact Nat.ne_of_lt (by assumption) | exact Nat.ne_of_gt (by assumption) | exact Nat.le_of_lt (by assumption) | lia | omega (config := {}))
theorem lt_spec {w : World} {A : Around} {s : Shared} {E : Value → Shared → Prop} {a b : Int} {ta tb : Tok} (R : Rm A 1) (W : Wd w s.heap) :
  wpAny (model PySem.Challenge.rw_ti0023_01.row.prog w) A (call (.ref 70) [.int a ta, .int b tb]) (Out s fun v _ => v = .bool (decide (a < b))) E s := by
  revert W; obtain ⟨hnd, dp, fr, gd, un⟩ := A; obtain ⟨rfl, hdp, hun⟩ := R; dsimp only at hdp hun
  intro W; have X := W.X; revert X; k_fill; intro X; obtain ⟨p, loose, mean, mg, mb, T⟩ := W.T
  refine enterP (binds := [(PySem.Str.ofString "a", .int a ta), (PySem.Str.ofString "b", .int b tb)]) X T (by k_is) (by k_is) (by show dp < 1000; omega) (BindsTo.of_eq rfl) (locs rfl) rfl rfl rfl (by decide) ?_
  intro L' h' tk' F' N'
  (try dsimp only [List.reverse_cons, List.reverse_nil, List.nil_append, List.cons_append] at F')
  k_steps
  all_goals (exact endK (by assumption) rfl)

theorem eq_str_spec {w : World} {A : Around} {s : Shared} {E : Value → Shared → Prop} {a b : Str} {ta tb : Tok} (R : Rm A 1) (W : Wd w s.heap) :
  wpAny (model PySem.Challenge.rw_ti0023_01.row.prog w) A (call (.ref 77) [.str a ta, .str b tb]) (Out s fun v _ => v = .bool (a == b)) E s := by
  revert W; obtain ⟨hnd, dp, fr, gd, un⟩ := A; obtain ⟨rfl, hdp, hun⟩ := R; dsimp only at hdp hun
  intro W; have X := W.X; revert X; k_fill; intro X; obtain ⟨p, loose, mean, mg, mb, T⟩ := W.T
  refine enterP (binds := [(PySem.Str.ofString "a", .str a ta), (PySem.Str.ofString "b", .str b tb)]) X T (by k_is) (by k_is) (by show dp < 1000; omega) (BindsTo.of_eq rfl) (locs rfl) rfl rfl rfl (by decide) ?_
  intro L' h' tk' F' N'
  (try dsimp only [List.reverse_cons, List.reverse_nil, List.nil_append, List.cons_append] at F')
  k_steps
  all_goals (exact endK (by assumption) rfl)

theorem eq_list_spec {w : World} {A : Around} {s : Shared} {E : Value → Shared → Prop} {a b : Addr} {va vb : List Value} {na nb : List Int} (R : Rm A 1) (W : Wd w s.heap)
  (ha : s.heap.IsList a va.toArray) (hb : s.heap.IsList b vb.toArray) (ia : IntsAre va na) (ib : IntsAre vb nb) :
  wpAny (model PySem.Challenge.rw_ti0023_01.row.prog w) A (call (.ref 77) [.ref a, .ref b]) (Out s fun v _ => v = .bool (decide (na = nb))) E s := by
  revert W; obtain ⟨hnd, dp, fr, gd, un⟩ := A; obtain ⟨rfl, hdp, hun⟩ := R; dsimp only at hdp hun
  intro W; have X := W.X; revert X; k_fill; intro X; obtain ⟨p, loose, mean, mg, mb, T⟩ := W.T
  refine enterP (binds := [(PySem.Str.ofString "a", .ref a), (PySem.Str.ofString "b", .ref b)]) X T (by k_is) (by k_is) (by show dp < 1000; omega) (BindsTo.of_eq rfl) (locs rfl) rfl rfl rfl (by decide) ?_
  intro L' h' tk' F' N'
  (try dsimp only [List.reverse_cons, List.reverse_nil, List.nil_append, List.cons_append] at F')
  k_steps
  all_goals (exact endK (by assumption) rfl)

theorem bits300 {a : Int} (h : a.natAbs < 2 ^ 300) : Builtin.Int.intBits a ≤ 300 := by
  unfold Builtin.Int.intBits
  split
  · omega
  · rename_i hz
    have : a.natAbs ≠ 0 := fun e => hz (by simp [Int.natAbs_eq_zero.mp e])
    have := (Nat.log2_lt this).mpr h
    omega
theorem lshift_at {prog : Program} {w : World} {A : Around} {E : Value → Shared → Prop} {s : Shared} {a n : Int} {t u : Tok} {Q : Value → Shared → Prop} (h0 : 0 ≤ n) (h1 : n ≤ 1000) (ha : 0 ≤ a ∧ a.natAbs < 2 ^ 300)
  (h : Q (.int (a * 2 ^ n.toNat) s.toks) { s with toks := s.toks + 1 }) : wpAny (model prog w) A (binaryOp .LShift (.int a t) (.int n u)) Q E s :=
  lshift_int h0 (by have := bits300 ha.2; omega) h
local macro_rules | `(tactic| walk_at "binaryOp LShift int int") => `(tactic| (refine lshift_at (by omega) (by omega) (by assumption) ?_))
theorem lshift_spec {w : World} {A : Around} {s : Shared} {E : Value → Shared → Prop} {a b : Int} {ta tb : Tok} (R : Rm A 1) (W : Wd w s.heap) (h0 : 0 ≤ b) (hb : b ≤ 32) (ha : 0 ≤ a ∧ a.natAbs < 2 ^ 300) :
  wpAny (model PySem.Challenge.rw_ti0023_01.row.prog w) A (call (.ref 84) [.int a ta, .int b tb]) (Out s fun v _ => ∃ u, v = .int (a * 2 ^ b.toNat) u) E s := by
  revert W; obtain ⟨hnd, dp, fr, gd, un⟩ := A; obtain ⟨rfl, hdp, hun⟩ := R; dsimp only at hdp hun
  intro W; have X := W.X; revert X; k_fill; intro X; obtain ⟨p, loose, mean, mg, mb, T⟩ := W.T
  refine enterP (binds := [(PySem.Str.ofString "a", .int a ta), (PySem.Str.ofString "b", .int b tb)]) X T (by k_is) (by k_is) (by show dp < 1000; omega) (BindsTo.of_eq rfl) (locs rfl) rfl rfl rfl (by decide) ?_
  intro L' h' tk' F' N'
  (try dsimp only [List.reverse_cons, List.reverse_nil, List.nil_append, List.cons_append] at F')
  k_steps
  all_goals (exact endK (by assumption) (by exact ⟨_, rfl⟩))

theorem or_spec {w : World} {A : Around} {s : Shared} {E : Value → Shared → Prop} {a b : Int} {ta tb : Tok} (R : Rm A 1) (W : Wd w s.heap) :
  wpAny (model PySem.Challenge.rw_ti0023_01.row.prog w) A (call (.ref 91) [.int a ta, .int b tb]) (Out s fun v _ => ∃ u, v = .int (Builtin.bitOr a b) u) E s := by
  revert W; obtain ⟨hnd, dp, fr, gd, un⟩ := A; obtain ⟨rfl, hdp, hun⟩ := R; dsimp only at hdp hun
  intro W; have X := W.X; revert X; k_fill; intro X; obtain ⟨p, loose, mean, mg, mb, T⟩ := W.T
  refine enterP (binds := [(PySem.Str.ofString "a", .int a ta), (PySem.Str.ofString "b", .int b tb)]) X T (by k_is) (by k_is) (by show dp < 1000; omega) (BindsTo.of_eq rfl) (locs rfl) rfl rfl rfl (by decide) ?_
  intro L' h' tk' F' N'
  (try dsimp only [List.reverse_cons, List.reverse_nil, List.nil_append, List.cons_append] at F')
  k_steps
  all_goals (exact endK (by assumption) (by exact ⟨_, rfl⟩))

theorem contains_int_spec {w : World} {A : Around} {s : Shared} {E : Value → Shared → Prop} {a : Addr} {va : List Value} {na : List Int} {x : Int} {t : Tok} (R : Rm A 1) (W : Wd w s.heap)
  (ha : s.heap.IsList a va.toArray) (ia : IntsAre va na) :
  wpAny (model PySem.Challenge.rw_ti0023_01.row.prog w) A (call (.ref 105) [.ref a, .int x t]) (Out s fun v _ => v = .bool (na.any (· == x))) E s := by
  revert W; obtain ⟨hnd, dp, fr, gd, un⟩ := A; obtain ⟨rfl, hdp, hun⟩ := R; dsimp only at hdp hun
  intro W; have X := W.X; revert X; k_fill; intro X; obtain ⟨p, loose, mean, mg, mb, T⟩ := W.T
  refine enterP (binds := [(PySem.Str.ofString "a", .ref a), (PySem.Str.ofString "b", .int x t)]) X T (by k_is) (by k_is) (by show dp < 1000; omega) (BindsTo.of_eq rfl) (locs rfl) rfl rfl rfl (by decide) ?_
  intro L' h' tk' F' N'
  (try dsimp only [List.reverse_cons, List.reverse_nil, List.nil_append, List.cons_append] at F')
  k_steps
  all_goals (exact endK (by assumption) rfl)


end Mine
namespace Mine
local macro_rules | `(tactic| omega) => `(tactic| first | assumption | exact Nat.ne_of_lt (by assumption) | exact Nat.ne_of_gt (by assumption) | exact Nat.le_of_lt (by assumption) | lia | omega (config := {}))
section
variable {prog : Program} {w : World} {A : Around} {E : Value → Shared → Prop} {s : Shared} {h₀ : Heap} {L : Addr} {m : Str → Option Value} {news : List (Addr × Obj)} {Q : Value → Shared → Prop}
theorem hasattr_listN {l : Addr} {items : Array Value} {t : Tok} (F : Fr h₀ L s.heap m) (N : News h₀ L s.heap news) (hl : s.heap.PlainList l items)
  (h : ∀ h' tk, Fr h₀ L h' m → News h₀ L h' news → Q (.bool true) { s with heap := h', toks := tk }) :
  wpAny (model prog w) A (call (.builtin "hasattr") [.ref l, .str (Str.ofString "__getitem__") t]) Q E s :=
  hasattr_list hl fun h' tk hk => h h' tk (F.keeps hk) (N.grown hk)
theorem hasattr_strN {x : Str} {t u : Tok} (F : Fr h₀ L s.heap m) (N : News h₀ L s.heap news)
  (h : ∀ h' tk, Fr h₀ L h' m → News h₀ L h' news → Q (.bool true) { s with heap := h', toks := tk }) :
  wpAny (model prog w) A (call (.builtin "hasattr") [.str x u, .str (Str.ofString "__getitem__") t]) Q E s :=
  hasattr_str fun h' tk hk => h h' tk (F.keeps hk) (N.grown hk)
theorem plain_news {h : Heap} {a : Addr} {items : Array Value} {n : Nat} (N : News h₀ L h news) (hm : (a, ({ cls := .type "list", data := .seq items n } : Obj)) ∈ news) : h.PlainList a items := ⟨n, (N _ hm).1⟩
theorem plain_base {h : Heap} {a : Addr} {items : Array Value} (F : Fr h₀ L h m) (x : h₀.PlainList a items) : h.PlainList a items := x.at fun o e => F.keep _ o e
end
local macro_rules | `(tactic| walk_at "call builtin:hasattr") => `(tactic| (k_here; first
  | (refine' hasattr_strN ?F ?N ?_; (case F => k_asm); (case N => k_asm); k_whole; intro h' tk' F' N'; (try k_sweep))
  | (refine' hasattr_listN ?F ?N ?l ?_; (case F => k_asm); (case N => k_asm); (case l => first | exact plain_base (by k_asm) (by assumption) | exact plain_news (by k_asm) (by k_mem)); k_whole; intro h' tk' F' N'; (try k_sweep))))
theorem concat_str_spec {w : World} {A : Around} {s : Shared} {E : Value → Shared → Prop} {a b : Str} {ta tb : Tok} (R : Rm A 1) (W : Wd w s.heap) (la : a.length < 1000) (lb : b.length < 1000) :
  wpAny (model PySem.Challenge.rw_ti0023_01.row.prog w) A (call (.ref 98) [.str a ta, .str b tb]) (Out s fun v _ => ∃ u, v = .str (a ++ b) u) E s := by
  revert W; obtain ⟨hnd, dp, fr, gd, un⟩ := A; obtain ⟨rfl, hdp, hun⟩ := R; dsimp only at hdp hun
  intro W; have X := W.X; revert X; k_fill; intro X; obtain ⟨p, loose, mean, mg, mb, T⟩ := W.T
  refine enterP (binds := [(PySem.Str.ofString "a", .str a ta), (PySem.Str.ofString "b", .str b tb)]) X T (by k_is) (by k_is) (by show dp < 1000; omega) (BindsTo.of_eq rfl) (locs rfl) rfl rfl rfl (by decide) ?_
  intro L' h' tk' F' N'
  (try dsimp only [List.reverse_cons, List.reverse_nil, List.nil_append, List.cons_append] at F')
  k_steps
  all_goals (exact endK (by assumption) (by exact ⟨_, rfl⟩))

theorem concat_list_spec {w : World} {A : Around} {s : Shared} {E : Value → Shared → Prop} {a b : Addr} {va vb : List Value} (R : Rm A 1) (W : Wd w s.heap)
  (ha : s.heap.PlainList a va.toArray) (hb : s.heap.PlainList b vb.toArray) (la : va.length < 1000) (lb : vb.length < 1000) :
  wpAny (model PySem.Challenge.rw_ti0023_01.row.prog w) A (call (.ref 98) [.ref a, .ref b]) (Out s (NewL s fun vs => vs = va ++ vb)) E s := by
  revert W; obtain ⟨hnd, dp, fr, gd, un⟩ := A; obtain ⟨rfl, hdp, hun⟩ := R; dsimp only at hdp hun
  intro W; have X := W.X; revert X; k_fill; intro X; obtain ⟨p, loose, mean, mg, mb, T⟩ := W.T
  have ia := ha.isList
  have ib := hb.isList
  refine enterP (binds := [(PySem.Str.ofString "a", .ref a), (PySem.Str.ofString "b", .ref b)]) X T (by k_is) (by k_is) (by show dp < 1000; omega) (BindsTo.of_eq rfl) (locs rfl) rfl rfl rfl (by decide) ?_
  intro L' h' tk' F' N'
  (try dsimp only [List.reverse_cons, List.reverse_nil, List.nil_append, List.cons_append] at F')
  k_steps
  all_goals (exact endL (by assumption) (by assumption) (by k_mem) rfl)

end Mine
namespace Mine
local macro_rules | `(tactic| omega) => `(tactic| first | assumption | exact Nat.ne_of_lt (by assumption) | exact Nat.ne_of_gt (by assumption) | exact Nat.le_of_lt (by assumption) | lia | omega (config := {}))
/-- the parts of the state that no turn touches -/
def SameS (s sh : Shared) : Prop := sh.gens = s.gens ∧ sh.drawn = s.drawn ∧ sh.os = s.os
theorem SameS.eq {s sh : Shared} {h : Heap} {k : Nat} (e : SameS s sh) : ({ sh with heap := h, toks := k } : Shared) = { s with heap := h, toks := k } := by
  obtain ⟨a, b, c⟩ := e
  rw [a, b, c]
/-- a turn's end: the iterator stands as it stood, the word holds -/
def LEnd (h₀ : Heap) (L : Addr) (I : Addr) (oI : Obj) (J : (Str → Option Value) → List (Addr × Obj) → Prop) (s₁ s₂ : Shared) : Prop :=
  ∃ h' tk m' news', s₂ = { s₁ with heap := h', toks := tk } ∧ Fr h₀ L h' m' ∧ News h₀ L h' ((I, oI) :: news') ∧ AllLt I news' ∧ J m' news'
def LPost (h₀ : Heap) (L : Addr) (I : Addr) (oI : Obj) (J : (Str → Option Value) → List (Addr × Obj) → Prop) (s₁ : Shared) (Q : Flow → Shared → Prop) (f : Flow) (s₂ : Shared) : Prop :=
  match f with
  | .ret v => Q (.ret v) s₂
  | .brk => Q .next s₂
  | _ => LEnd h₀ L I oI J s₁ s₂
theorem LPost.end {h₀ : Heap} {L I : Addr} {oI : Obj} {J : (Str → Option Value) → List (Addr × Obj) → Prop} {s₁ : Shared} {Q : Flow → Shared → Prop} {h' : Heap} {tk : Nat} {m' : Str → Option Value} {all : List (Addr × Obj)}
    (F : Fr h₀ L h' m') (N : News h₀ L h' all) (news' : List (Addr × Obj)) (sub : ∀ p ∈ (I, oI) :: news', p ∈ all) (hne : AllLt I news') (hJ : J m' news') : LPost h₀ L I oI J s₁ Q .next { s₁ with heap := h', toks := tk } :=
  ⟨h', tk, m', news', rfl, F, fun p hp => N p (sub p hp), hne, hJ⟩
theorem LPost.ret {h₀ : Heap} {L I : Addr} {oI : Obj} {J : (Str → Option Value) → List (Addr × Obj) → Prop} {s₁ s₂ : Shared} {Q : Flow → Shared → Prop} {v : Value} (h : Q (.ret v) s₂) : LPost h₀ L I oI J s₁ Q (.ret v) s₂ := h
theorem LPost.brk {h₀ : Heap} {L I : Addr} {oI : Obj} {J : (Str → Option Value) → List (Addr × Obj) → Prop} {s₁ s₂ : Shared} {Q : Flow → Shared → Prop} (h : Q .next s₂) : LPost h₀ L I oI J s₁ Q .brk s₂ := h
section
variable {prog : Program} {w : World} {A : Around} {s : Shared} {env : Env} {h₀ : Heap} {target : Expr} {body : List Stmt}
theorem forA {R : Result → Shared → Prop} {I : Addr} {fp : List Addr} {n : Nat} {P : Nat → Value → Prop} {St : Nat → Heap → Prop} {m : Str → Option Value} {news : List (Addr × Obj)}
    (W : Walks prog w A I fp [I] n P St) (hIo : ∀ i h, St i h → ∃ o, h.get? I = some o)
    (hLI : env.locals ≠ I) (hI0 : h₀.get? I = none)
    (J : Nat → (Str → Option Value) → List (Addr × Obj) → Prop)
    (hne : AllLt I news) (hst : St 0 s.heap) (F : Fr h₀ env.locals s.heap m) (N : News h₀ env.locals s.heap news) (h0 : J 0 m news)
    (ht : ∀ v, letOwnedTupleGo target (.ref I) v = pure ())
    (step : ∀ i v m₁ news₁ h tk oI, i < n → P i v → J i m₁ news₁ → AllLt I news₁ → Fr h₀ env.locals h m₁ → News h₀ env.locals h ((I, oI) :: news₁) →
      wpAny (model prog w) A (assign target env v) (fun _ s₂ => wpAny (model prog w) A (execs body env)
        (LPost h₀ env.locals I oI (J (i + 1)) { s with heap := h, toks := tk } fun f s' => R (.ok f) s') (fun _ _ => False) s₂) (fun _ _ => False) { s with heap := h, toks := tk })
    (hR : ∀ h' tk m' news', Fr h₀ env.locals h' m' → News h₀ env.locals h' news' → J n m' news' → R (.ok .next) { s with heap := h', toks := tk })
    (hfr2 : ∀ i h h' oI m' news', St (i + 1) h → h.get? I = some oI → Fr h₀ env.locals h' m' → News h₀ env.locals h' ((I, oI) :: news') → J (i + 1) m' news' → St (i + 1) h') :
    codeAny (model prog w) A (.forLoop target (.ref I) body [] env) R s := by
  refine codeAny_forLoop
    (fun k s' => ∃ h' tk m' news' i, s' = { s with heap := h', toks := tk } ∧ St i h' ∧ Fr h₀ env.locals h' m' ∧ News h₀ env.locals h' news' ∧ AllLt I news' ∧ J i m' news' ∧ i ≤ n ∧ k = n + 1 - i) ?_ (n + 1)
    ⟨s.heap, s.toks, m, news, 0, rfl, hst, F, N, hne, h0, Nat.zero_le _, rfl⟩ ht
  rintro k s' ⟨h', tk, m', news', i, rfl, hst', F', N', hnw', hJ, hi, rfl⟩
  have next : ∀ h₁ : Heap, (∀ b o, b ∉ [I] → h'.get? b = some o → h₁.get? b = some o) → Fr h₀ env.locals h₁ m' ∧ News h₀ env.locals h₁ news' := fun h₁ hk₁ =>
    ⟨⟨F'.ns.at' fun o e => hk₁ _ o (by simpa using hLI) e, fun b o e => hk₁ b o (fun hb => by rw [List.mem_singleton.mp hb, hI0] at e; cases e) (F'.keep b o e), F'.above⟩,
      fun p hp => ⟨hk₁ _ _ (by simpa using hnw'.all p hp) (N' p hp).1, (N' p hp).2⟩⟩
  by_cases hlt : i < n
  · refine W.item i _ _ _ hlt hst' fun v h₁ tk₁ hP hst₁ hk₁ => ?_
    obtain ⟨F₁, N₁⟩ := next h₁ hk₁
    obtain ⟨oI, hoI⟩ := hIo _ _ hst₁
    have N₁' : News h₀ env.locals h₁ ((I, oI) :: news') := fun p hp => by
      rcases List.mem_cons.mp hp with rfl | hp
      · exact ⟨hoI, hLI.symm, hI0⟩
      · exact N₁ p hp
    refine wpAny_mono (step i v m' news' h₁ tk₁ oI hlt hP hJ hnw' F₁ N₁') (fun _ s₂ h₂ => wpAny_mono h₂ (fun f s₃ h₃ => ?_) fun _ _ e => e.elim) fun _ _ e => e.elim
    have go : LEnd h₀ env.locals I oI (J (i + 1)) { s with heap := h₁, toks := tk₁ } s₃ → ∃ m_1, m_1 < n + 1 - i ∧ ∃ h'_1 tk_1 m'_1 news'_1 i_1, s₃ = { s with heap := h'_1, toks := tk_1 } ∧ St i_1 h'_1 ∧ Fr h₀ env.locals h'_1 m'_1 ∧ News h₀ env.locals h'_1 news'_1 ∧ AllLt I news'_1 ∧ J i_1 m'_1 news'_1 ∧ i_1 ≤ n ∧ m_1 = n + 1 - i_1 := by
      rintro ⟨h₃', tk₃, m₂, news₂, rfl, F₃, N₃, ha₃, hJ₃⟩
      exact ⟨n + 1 - (i + 1), by omega, h₃', tk₃, m₂, news₂, i + 1, rfl, hfr2 _ _ _ _ _ _ hst₁ hoI F₃ N₃ hJ₃, F₃, fun p hp => N₃ p (.tail _ hp), ha₃, hJ₃, hlt, rfl⟩
    cases f with
    | ret v => exact h₃
    | brk => exact h₃
    | cont => exact go h₃
    | next => exact go h₃
  · have hin : i = n := by omega
    subst hin
    refine W.done _ _ _ hst' fun h₁ tk₁ hk₁ => wpAny_execs_nil ?_
    obtain ⟨F₁, N₁⟩ := next h₁ hk₁
    exact hR h₁ tk₁ m' news' F₁ N₁ hJ

/-- the loop's own object is made, the loop goes -/
def LoopGo (prog : Program) (w : World) (A : Around) (target : Expr) (body : List Stmt) (env : Env) (Q : Flow → Shared → Prop) (x : Value) (s : Shared) : Prop :=
  wpAny (model prog w) A (pyIter x) (fun it s₂ => codeAny (model prog w) A (.forLoop target it body [] env) (fun r s' => match r with | .ok f => Q f s' | .error _ => False) s₂) (fun _ _ => False) s
theorem For_go {iter : Expr} {pos : Pos} {Q : Flow → Shared → Prop} {E : Value → Shared → Prop}
    (h : wpAny (model prog w) A (eval iter env) (LoopGo prog w A target body env Q) E s) (hs : ∀ x, foldedSetIterable iter env x = pure x := by intro _; rfl) :
    wpAny (model prog w) A (exec (.For target iter body [] pos) env) Q E s := by
  refine wpAny_For (wpAny_mono h (fun x s₁ h₁ => wpAny_mono h₁ (fun it s₂ h₂ => codeAny_mono h₂ fun r s' hr => ?_) fun _ _ e => e.elim) fun _ _ e => e) hs
  cases r with
  | ok f => exact hr
  | error e => exact hr.elim
theorem LoopGo.list {l : Addr} {vs : List Value} {Q : Flow → Shared → Prop} {m : Str → Option Value} {news : List (Addr × Obj)} (J : Nat → (Str → Option Value) → List (Addr × Obj) → Prop)
    (hh : A.handled = none) (F : Fr h₀ env.locals s.heap m) (N : News h₀ env.locals s.heap news) (ht : ∀ I v, letOwnedTupleGo target (.ref I) v = pure ())
    (h0 : J 0 m news) (hJ : ∀ i m' news', J i m' news' → LCg.SrcAt h₀ l vs.toArray news')
    (step : ∀ i v m₁ news₁ I (sh : Shared) oI, vs[i]? = some v → J i m₁ news₁ → AllLt I news₁ → Fr h₀ env.locals sh.heap m₁ → News h₀ env.locals sh.heap ((I, oI) :: news₁) →
      ∀ K : Flow → Shared → Prop, (∀ f s', LPost h₀ env.locals I oI (J (i + 1)) sh Q f s' → K f s') → SameS s sh →
      wpAny (model prog w) A (assign target env v) (fun _ s₂ => wpAny (model prog w) A (execs body env) K (fun _ _ => False) s₂) (fun _ _ => False) sh)
    (done : ∀ h' tk m' news', Fr h₀ env.locals h' m' → News h₀ env.locals h' news' → J vs.length m' news' → Q .next { s with heap := h', toks := tk }) :
    LoopGo prog w A target body env Q (.ref l) s := by
  have hls : s.heap.IsList l vs.toArray := (hJ 0 m news h0).list F.keep N
  obtain ⟨ol, hol, _⟩ := id hls
  have hne : l ≠ s.heap.objs.size := Nat.ne_of_lt (Heap.lt_size hol)
  refine wpAny_pyIter_list hls ?_
  have up : ∀ b o, s.heap.get? b = some o → (s.heap.push { cls := .type "list_iterator", data := .fields #[.ref l, .int 0 0] }).get? b = some o := fun b o e => Heap.get?_push_of_some _ e
  have W := Walks.list (prog := prog) (w := w) hh s.heap.objs.size l hne vs.toArray
  have hsz : vs.toArray.size = vs.length := by simp
  rw [hsz] at W
  refine forA (s := { s with heap := _ }) W (fun i h st => by obtain ⟨o, e, _⟩ := st.1; exact ⟨o, e⟩) (Nat.ne_of_lt F.ns.lt) (next_is_new F) J
    (allLt_of fun p hp => Heap.lt_size (N p hp).1) ⟨⟨_, Heap.get?_push_size _ rfl, rfl, rfl⟩, hls.push _⟩ (F.keeps up) (N.grown up) h0 (ht _)
    (fun i v m₁ news₁ h tk oI hi hP hj ha F₁ N₁ => step i v m₁ news₁ _ _ oI (by simpa using hP) hj ha F₁ N₁ _ (fun _ _ h => h) ⟨rfl, rfl, rfl⟩) done ?_
  intro i h h' oI m' news' st e F' N' hj
  exact ⟨by obtain ⟨o', q, r⟩ := st.1; rw [e] at q; cases q; exact ⟨oI, (N' _ (.head _)).1, r⟩, (hJ _ _ _ hj).list F'.keep fun p hp => N' p (.tail _ hp)⟩
theorem LoopGo.range {r : Addr} {a b : Int} {t u v : Tok} {n : Nat} {Q : Flow → Shared → Prop} {m : Str → Option Value} {news : List (Addr × Obj)} (J : Nat → (Str → Option Value) → List (Addr × Obj) → Prop)
    (hh : A.handled = none) (hr : IsRange s.heap r a b 1 t u v) (hsm : Builtin.Range.small a b 1 = true) (hn : Builtin.Range.rangeSize a b 1 = ((n : Nat) : Int))
    (F : Fr h₀ env.locals s.heap m) (N : News h₀ env.locals s.heap news) (ht : ∀ I v, letOwnedTupleGo target (.ref I) v = pure ())
    (h0 : J 0 m news)
    (step : ∀ (i : Nat) k m₁ news₁ I (sh : Shared) oI, i < n → J i m₁ news₁ → AllLt I news₁ → Fr h₀ env.locals sh.heap m₁ → News h₀ env.locals sh.heap ((I, oI) :: news₁) →
      ∀ K : Flow → Shared → Prop, (∀ f s', LPost h₀ env.locals I oI (J (i + 1)) sh Q f s' → K f s') → SameS s sh →
      wpAny (model prog w) A (assign target env (.int (a + (i : Int)) k)) (fun _ s₂ => wpAny (model prog w) A (execs body env) K (fun _ _ => False) s₂) (fun _ _ => False) sh)
    (done : ∀ h' tk m' news', Fr h₀ env.locals h' m' → News h₀ env.locals h' news' → J n m' news' → Q .next { s with heap := h', toks := tk }) :
    LoopGo prog w A target body env Q (.ref r) s := by
  refine wpAny_pyIter_range hr hsm ?_
  have up : ∀ o b o', s.heap.get? b = some o' → (s.heap.push o).get? b = some o' := fun o b o' e => Heap.get?_push_of_some _ e
  refine forA (s := { s with heap := _ }) (LCg.range_walks hh a n) (fun i h st => ⟨_, st⟩) (Nat.ne_of_lt F.ns.lt) (next_is_new F) J
    (allLt_of fun p hp => Heap.lt_size (N p hp).1) (by show IsRangeIter _ _ _ _ _; rw [hn]; simpa using Heap.get?_push_size _ rfl) (F.keeps (up _)) (N.grown (up _)) h0 (ht _)
    (fun i v m₁ news₁ h tk oI hi hP hj ha F₁ N₁ => by obtain ⟨k, rfl⟩ := hP; exact step i k m₁ news₁ _ _ oI hi hj ha F₁ N₁ _ (fun _ _ h => h) ⟨rfl, rfl, rfl⟩) done ?_
  intro i h h' oI m' news' st e F' N' hj
  have st' : h.get? _ = some _ := st
  show h'.get? _ = some _
  rw [(N' _ (.head _)).1, ← e]; exact st'
end

theorem know_eq {m : Str → Option Value} {x : Str} {v : Value} (e : m x = some v) : (fun y => if y = x then some v else m y) = m := by
  funext y
  by_cases h : y = x
  · subst h; simp [e]
  · simp [h]
section
variable {h₀ h : Heap} {L : Addr} {m : Str → Option Value} {x1 x2 x3 x4 x5 : Str} {v1 v2 v3 v4 v5 : Value}
theorem know (F : Fr h₀ L h m) (e : m x1 = some v1) : Fr h₀ L h (fun y => if y = x1 then some v1 else m y) := by rw [know_eq e]; exact F
theorem know2 (F : Fr h₀ L h m) (e1 : m x1 = some v1) (e2 : m x2 = some v2) : Fr h₀ L h (fun y => if y = x1 then some v1 else if y = x2 then some v2 else m y) := by
  have h2 := know_eq e2
  have : (fun y => if y = x1 then some v1 else if y = x2 then some v2 else m y) = fun y => if y = x1 then some v1 else (fun y => if y = x2 then some v2 else m y) y := rfl
  rw [this, h2]; exact know F e1
theorem know3 (F : Fr h₀ L h m) (e1 : m x1 = some v1) (e2 : m x2 = some v2) (e3 : m x3 = some v3) : Fr h₀ L h (fun y => if y = x1 then some v1 else if y = x2 then some v2 else if y = x3 then some v3 else m y) := by
  have h2 := know_eq e3
  have : (fun y => if y = x1 then some v1 else if y = x2 then some v2 else if y = x3 then some v3 else m y) = fun y => if y = x1 then some v1 else if y = x2 then some v2 else (fun y => if y = x3 then some v3 else m y) y := rfl
  rw [this, h2]; exact know2 F e1 e2
theorem know4 (F : Fr h₀ L h m) (e1 : m x1 = some v1) (e2 : m x2 = some v2) (e3 : m x3 = some v3) (e4 : m x4 = some v4) : Fr h₀ L h (fun y => if y = x1 then some v1 else if y = x2 then some v2 else if y = x3 then some v3 else if y = x4 then some v4 else m y) := by
  have h2 := know_eq e4
  have : (fun y => if y = x1 then some v1 else if y = x2 then some v2 else if y = x3 then some v3 else if y = x4 then some v4 else m y) = fun y => if y = x1 then some v1 else if y = x2 then some v2 else if y = x3 then some v3 else (fun y => if y = x4 then some v4 else m y) y := rfl
  rw [this, h2]; exact know3 F e1 e2 e3
theorem know5 (F : Fr h₀ L h m) (e1 : m x1 = some v1) (e2 : m x2 = some v2) (e3 : m x3 = some v3) (e4 : m x4 = some v4) (e5 : m x5 = some v5) : Fr h₀ L h (fun y => if y = x1 then some v1 else if y = x2 then some v2 else if y = x3 then some v3 else if y = x4 then some v4 else if y = x5 then some v5 else m y) := by
  have h2 := know_eq e5
  have : (fun y => if y = x1 then some v1 else if y = x2 then some v2 else if y = x3 then some v3 else if y = x4 then some v4 else if y = x5 then some v5 else m y) = fun y => if y = x1 then some v1 else if y = x2 then some v2 else if y = x3 then some v3 else if y = x4 then some v4 else (fun y => if y = x5 then some v5 else m y) y := rfl
  rw [this, h2]; exact know4 F e1 e2 e3 e4
end
theorem drop_of_get {α : Type} {l : List α} {i : Nat} {x : α} (h : l[i]? = some x) : l.drop i = x :: l.drop (i + 1) := by
  obtain ⟨hi, rfl⟩ := List.getElem?_eq_some_iff.mp h
  exact List.drop_eq_getElem_cons hi

end Mine
namespace Mine
local macro_rules | `(tactic| omega) => `(tactic| first | assumption | exact Nat.ne_of_lt (by assumption) | exact Nat.ne_of_gt (by assumption) | exact Nat.le_of_lt (by assumption) | lia | omega (config := {}))
/-- item by item -/
inductive LR {α : Type} (R : α → Value → Prop) : List α → List Value → Prop
  | nil : LR R [] []
  | cons {a : α} {v : Value} {as : List α} {vs : List Value} : R a v → LR R as vs → LR R (a :: as) (v :: vs)
namespace LR
variable {α β : Type} {R : α → Value → Prop}
theorem length {as : List α} {vs : List Value} (h : LR R as vs) : vs.length = as.length := by
  induction h with
  | nil => rfl
  | cons _ _ ih => simp [ih]
theorem append {as bs : List α} {vs us : List Value} (h : LR R as vs) (k : LR R bs us) : LR R (as ++ bs) (vs ++ us) := by
  induction h with
  | nil => exact k
  | cons h _ ih => exact .cons h ih
theorem snoc {as : List α} {a : α} {vs : List Value} {v : Value} (h : LR R as vs) (k : R a v) : LR R (as ++ [a]) (vs ++ [v]) := h.append (.cons k .nil)
theorem get {as : List α} {vs : List Value} (h : LR R as vs) : ∀ (i : Nat) (v : Value), vs[i]? = some v → ∃ a, as[i]? = some a ∧ R a v := by
  induction h with
  | nil => intro i v e; simp at e
  | cons h _ ih =>
    intro i v e
    cases i with
    | zero => simp at e; subst e; exact ⟨_, rfl, h⟩
    | succ i => simpa using ih i v (by simpa using e)
theorem mono {S : α → Value → Prop} {as : List α} {vs : List Value} (h : LR R as vs) (k : ∀ a v, R a v → S a v) : LR S as vs := by
  induction h with
  | nil => exact .nil
  | cons h _ ih => exact .cons (k _ _ h) ih
end LR
abbrev IntV (k : Int) (v : Value) : Prop := ∃ t, v = .int k t
abbrev BoolV (b : Bool) (v : Value) : Prop := v = .bool b
abbrev StrV (x : Str) (v : Value) : Prop := ∃ t, v = .str x t
theorem LR.ints {ns : List Int} {vs : List Value} (h : LR IntV ns vs) : IntsAre vs ns := by
  induction h with
  | nil => exact .nil
  | cons h _ ih => obtain ⟨t, rfl⟩ := h; exact .cons _ _ ih
theorem LR.ofInts {ns : List Int} {vs : List Value} (h : IntsAre vs ns) : LR IntV ns vs := by
  induction h with
  | nil => exact .nil
  | cons n t _ ih => exact .cons ⟨t, rfl⟩ ih
theorem LR.bools {bs : List Bool} {vs : List Value} (h : LR BoolV bs vs) : vs = bs.map Value.bool := by
  induction h with
  | nil => rfl
  | cons h _ ih => rw [h, ih]; rfl

/-- the end of a turn of a comprehension that makes one value and keeps the ledger -/
def CEnd (h₀ : Heap) (L : Addr) (m : Str → Option Value) (s₁ : Shared) (I : Addr) (oI : Obj) (C : Addr) (oC : Obj) (D : Addr) (ys : List Value) (news : List (Addr × Obj)) (Y : Value → Prop) (y : Value) (s₂ : Shared) : Prop :=
  Y y ∧ ∃ h' tk, s₂ = { s₁ with heap := h', toks := tk } ∧ Fr h₀ L h' m ∧ News h₀ L h' ((I, oI) :: (C, oC) :: (D, LCg.lst ys) :: news)
theorem CEnd.intro {h₀ : Heap} {L I C D : Addr} {m : Str → Option Value} {s₁ : Shared} {oI oC : Obj} {ys : List Value} {Y : Value → Prop} {y : Value} {h' : Heap} {tk : Nat} {all news : List (Addr × Obj)}
    (F : Fr h₀ L h' m) (N : News h₀ L h' all) (sub : ∀ p ∈ (I, oI) :: (C, oC) :: (D, LCg.lst ys) :: news, p ∈ all) (hy : Y y) : CEnd h₀ L m s₁ I oI C oC D ys news Y y { s₁ with heap := h', toks := tk } :=
  ⟨hy, h', tk, rfl, F, fun p hp => N p (sub p hp)⟩
def Apart3 (I C D : Addr) : Prop := (@Ne Nat I C) ∧ (@Ne Nat I D) ∧ (@Ne Nat C D)
section
variable {prog : Program} {w : World} {A : Around} {h₀ : Heap} {L : Addr} {m : Str → Option Value} {env : Env} {elt ct : Expr} {x : Str} {scope : Scope} {cl : List (Str × Addr)} {s : Shared} {S : List (Addr × Obj) → Prop} {P : Nat → Value → Prop} {Fin : List Value → List (Addr × Obj) → Prop} {news : List (Addr × Obj)}
theorem rest_map {α β : Type} (g : α → Tok → Value) {R' : β → Value → Prop} {as : List α} (f : α → β) (hS : S news) (hP : ∀ i v, i < as.length → P i v → ∃ a, as[i]? = some a ∧ ∃ t, v = g a t)
    (turn : ∀ a t I oI C oC D m₂ ys (sh : Shared) (E' : Value → Shared → Prop), a ∈ as → LCg.NsObj oC m₂ → m₂ x = some (g a t) → Fr h₀ L sh.heap m → News h₀ L sh.heap ((I, oI) :: (C, oC) :: (D, LCg.lst ys) :: news) → LCg.Off3 I C D news → Apart3 I C D →
      ∀ K : Value → Shared → Prop, (∀ y s', CEnd h₀ L m sh I oI C oC D ys news (R' (f a)) y s' → K y s') →
      wpAny (model prog w) A (eval elt (compEnvC scope cl C env)) K E' sh)
    (fin : ∀ ys, LR R' (as.map f) ys → Fin ys news) : LCg.CompRest prog w A h₀ L m env elt x scope cl s S P Fin as.length 0 [] news := by
  have key : ∀ (j i : Nat) (ys : List Value), i + j = as.length → LR R' ((as.take i).map f) ys → LCg.CompRest prog w A h₀ L m env elt x scope cl s S P Fin j i ys news := by
    intro j
    induction j with
    | zero =>
      intro i ys hi hy
      have e : i = as.length := by omega
      subst e
      rw [List.take_length] at hy
      exact LCg.CompRest.zero (fin ys hy)
    | succ j ih =>
      intro i ys hi hy
      refine LCg.CompRest.succ ?_
      intro v I oI C oC D m₂ h tk E' hv hC hx F N off ne
      obtain ⟨a, ha, t, rfl⟩ := hP i v (by omega) hv
      refine wpAny_mono (turn a t I oI C oC D m₂ ys _ E' (List.mem_of_getElem? ha) hC hx F N off ne _ fun _ _ h => h) (fun y s₂ hq => ?_) fun _ _ e => e
      obtain ⟨hy', h', tk', e, F', N'⟩ := hq
      refine ⟨h', tk', news, e, F', N', off, hS, ?_⟩
      refine ih (i + 1) _ (by omega) ?_
      rw [List.take_add_one, ha]
      simpa using hy.snoc hy'
  exact key as.length 0 [] (by omega) (by simp only [List.take_zero, List.map_nil]; exact .nil)

/-- what a test leaves -/
def TEnd (h₀ : Heap) (L : Addr) (m : Str → Option Value) (s₁ : Shared) (I : Addr) (oI : Obj) (C : Addr) (oC : Obj) (D : Addr) (ys : List Value) (news : List (Addr × Obj)) (b : Bool) (ok : Bool) (s₂ : Shared) : Prop :=
  ok = b ∧ ∃ h' tk, s₂ = { s₁ with heap := h', toks := tk } ∧ Fr h₀ L h' m ∧ News h₀ L h' ((I, oI) :: (C, oC) :: (D, LCg.lst ys) :: news)
theorem TEnd.intro {h₀ : Heap} {L I C D : Addr} {m : Str → Option Value} {s₁ : Shared} {oI oC : Obj} {ys : List Value} {b ok : Bool} {h' : Heap} {tk : Nat} {all news : List (Addr × Obj)}
    (F : Fr h₀ L h' m) (N : News h₀ L h' all) (sub : ∀ p ∈ (I, oI) :: (C, oC) :: (D, LCg.lst ys) :: news, p ∈ all) (hy : ok = b) : TEnd h₀ L m s₁ I oI C oC D ys news b ok { s₁ with heap := h', toks := tk } :=
  ⟨hy, h', tk, rfl, F, fun p hp => N p (sub p hp)⟩
theorem restT {α β : Type} (g : α → Tok → Value) {R' : β → Value → Prop} {as : List α} (p : α → Bool) (f : α → β) (hS : S news) (hP : ∀ i v, i < as.length → P i v → ∃ a, as[i]? = some a ∧ ∃ t, v = g a t)
    (test : ∀ a t I oI C oC D m₂ ys (sh : Shared) (E' : Value → Shared → Prop), a ∈ as → LCg.NsObj oC m₂ → m₂ x = some (g a t) → Fr h₀ L sh.heap m → News h₀ L sh.heap ((I, oI) :: (C, oC) :: (D, LCg.lst ys) :: news) → LCg.Off3 I C D news → Apart3 I C D →
      ∀ K : Bool → Shared → Prop, (∀ y s', TEnd h₀ L m sh I oI C oC D ys news (p a) y s' → K y s') →
      wpAny (model prog w) A (isTrue ct (compEnvC scope cl C env) (eval ct (compEnvC scope cl C env))) K E' sh)
    (turn : ∀ a t I oI C oC D m₂ ys (sh : Shared) (E' : Value → Shared → Prop), a ∈ as → LCg.NsObj oC m₂ → m₂ x = some (g a t) → Fr h₀ L sh.heap m → News h₀ L sh.heap ((I, oI) :: (C, oC) :: (D, LCg.lst ys) :: news) → LCg.Off3 I C D news → Apart3 I C D →
      ∀ K : Value → Shared → Prop, (∀ y s', CEnd h₀ L m sh I oI C oC D ys news (R' (f a)) y s' → K y s') →
      wpAny (model prog w) A (eval elt (compEnvC scope cl C env)) K E' sh)
    (fin : ∀ ys, LR R' ((as.filter p).map f) ys → Fin ys news) : LCt.CompRestT prog w A h₀ L m env ct elt x scope cl s S P Fin as.length 0 [] news := by
  have key : ∀ (j i : Nat) (ys : List Value), i + j = as.length → LR R' (((as.take i).filter p).map f) ys → LCt.CompRestT prog w A h₀ L m env ct elt x scope cl s S P Fin j i ys news := by
    intro j
    induction j with
    | zero =>
      intro i ys hi hy
      have e : i = as.length := by omega
      subst e
      rw [List.take_length] at hy
      exact LCt.CompRestT.zero (fin ys hy)
    | succ j ih =>
      intro i ys hi hy
      refine LCt.CompRestT.succ ?_
      intro v I oI C oC D m₂ h tk E' hv hC hx F N off ne
      obtain ⟨a, ha, t, rfl⟩ := hP i v (by omega) hv
      refine wpAny_mono (test a t I oI C oC D m₂ ys _ E' (List.mem_of_getElem? ha) hC hx F N off ne _ fun _ _ h => h) (fun ok s₂ hq => ?_) fun _ _ e => e
      obtain ⟨hok, h', tk', rfl, F', N'⟩ := hq
      subst hok
      cases hpa : p a with
      | true =>
        simp only [if_true]
        refine wpAny_mono (turn a t I oI C oC D m₂ ys _ E' (List.mem_of_getElem? ha) hC hx F' N' off ne _ fun _ _ h => h) (fun y s₃ hq => ?_) fun _ _ e => e
        obtain ⟨hy', h₂, tk₂, e, F₂, N₂⟩ := hq
        refine ⟨h₂, tk₂, news, e, F₂, N₂, off, hS, ?_⟩
        refine ih (i + 1) _ (by omega) ?_
        rw [List.take_add_one, ha]
        simpa [List.filter_append, hpa] using hy.snoc hy'
      | false =>
        simp only [Bool.false_eq_true, if_false]
        refine ⟨h', tk', news, rfl, F', N', off, hS, ?_⟩
        refine ih (i + 1) _ (by omega) ?_
        rw [List.take_add_one, ha]
        simpa [List.filter_append, hpa] using hy
  exact key as.length 0 [] (by omega) (by simp only [List.take_zero, List.filter_nil, List.map_nil]; exact .nil)
end

end Mine
namespace Mine
local macro_rules | `(tactic| omega) => `(tactic| first | assumption | exact Nat.ne_of_lt (by assumption) | exact Nat.ne_of_gt (by assumption) | exact Nat.le_of_lt (by assumption) | lia | omega (config := {}))
def findIn (x y : Str) (lo hi : Int) : Option Nat := (Builtin.Str.occurrences x y (max 0 lo).toNat (min (max 0 hi).toNat x.length) 1).head?
def findV (x y : Str) (lo hi : Int) : Int := match findIn x y lo hi with | some k => (k : Int) | none => -1
def ellLoop (got : Str) (hi : Int) : Int → List Str → Bool
  | _, [] => true
  | lo, w :: r => match findIn got w lo hi with
    | some k => ellLoop got hi ((k : Int) + w.length) r
    | none => false
def ellDots (f : Str) (mid : List Str) (g got : Str) : Bool :=
  (decide (f.length = 0) || Txt.startswith got f) && (decide (g.length = 0) || Txt.endswith got g) && decide ((f.length : Int) ≤ (got.length : Int) - g.length) &&
  ellLoop got ((got.length : Int) - g.length) f.length ((if f.length = 0 then [f] else []) ++ mid ++ (if g.length = 0 then [g] else []))
theorem ell_fin {f g b : Str} {mid : List Str} (h1 : f.length = 0 ∨ Txt.startswith b f = true) (h2 : g.length = 0 ∨ Txt.endswith b g = true) (h3 : (f.length : Int) ≤ (b.length : Int) - g.length) :
    ellDots f mid g b = ellLoop b ((b.length : Int) - g.length) f.length ((if f.length = 0 then [f] else []) ++ mid ++ (if g.length = 0 then [g] else [])) := by
  unfold ellDots
  have e1 : (decide (f.length = 0) || Txt.startswith b f) = true := by rcases h1 with h | h <;> simp [h]
  have e2 : (decide (g.length = 0) || Txt.endswith b g) = true := by rcases h2 with h | h <;> simp [h]
  rw [e1, e2, decide_eq_true h3]
  simp
abbrev dots : Str := Str.ofString "..."
def Dotless (p : Str) : Prop := 46 ∉ p.cps.toList
def sg (b k : Nat) : Str := ⟨#[b + k]⟩
def sgs (b : Nat) : List Str := (List.range 8).map (sg b)
theorem sg_len (b k : Nat) : (sg b k).length = 1 := rfl
theorem sg_dotless {b k : Nat} (h : 48 ≤ b) : Dotless (sg b k) := by
  unfold Dotless sg
  simp
  omega
def strOf (b : Nat) (r : List Nat) : Str := ⟨(r.map (b + ·)).toArray⟩
theorem strOf_len (b : Nat) (r : List Nat) : (strOf b r).length = r.length := by simp [strOf, Str.length]
def subq : List Nat → List Nat → Bool
  | [], _ => true
  | _ :: _, [] => false
  | k :: ks, x :: xs => if x = k then subq ks xs else subq (k :: ks) xs

open PySem.Builtin PySem.Builtin.Str PySem.StrLaws in
def occGo (s sub : Str) (hi : Nat) : List Nat → Nat → Nat → List Nat
  | [], _, _ => []
  | i :: l, free, lim => if ((0 < lim ∧ free ≤ i) ∧ i + sub.length ≤ hi) ∧ subAt s sub i = true then i :: occGo s sub hi l (i + sub.length) (lim - 1) else occGo s sub hi l free lim
open PySem.Builtin PySem.Builtin.Str PySem.StrLaws in
theorem occ_go (s sub : Str) (lo hi limit : Nat) : occurrences s sub lo hi limit = occGo s sub hi (List.range' lo (hi + 1 - lo)) lo limit := by
  have key : ∀ (l : List Nat) (acc : Array Nat) (free : Nat), (forIn l (acc, free) (occBody s sub hi limit)).run.fst.toList = acc.toList ++ occGo s sub hi l free (limit - acc.size) := by
    intro l
    induction l with
    | nil => intro acc free; show acc.toList = acc.toList ++ []; rw [List.append_nil]
    | cons i l ih =>
      intro acc free
      rw [List.forIn_cons]
      unfold occBody
      by_cases hc : ((acc.size < limit ∧ free ≤ i) ∧ i + sub.length ≤ hi) ∧ subAt s sub i = true
      · rw [if_pos hc]
        have h2 : ((0 < limit - acc.size ∧ free ≤ i) ∧ i + sub.length ≤ hi) ∧ subAt s sub i = true := ⟨⟨⟨by omega, hc.1.1.2⟩, hc.1.2⟩, hc.2⟩
        show (forIn l (acc.push i, i + sub.length) (occBody s sub hi limit)).run.fst.toList = _
        rw [ih]
        show _ = acc.toList ++ (if _ then _ else _)
        rw [if_pos h2, Array.toList_push, Array.size_push, List.append_assoc, show limit - (acc.size + 1) = limit - acc.size - 1 by omega]
        rfl
      · rw [if_neg hc]
        have h2 : ¬ (((0 < limit - acc.size ∧ free ≤ i) ∧ i + sub.length ≤ hi) ∧ subAt s sub i = true) := fun h => hc ⟨⟨⟨by omega, h.1.1.2⟩, h.1.2⟩, h.2⟩
        show (forIn l (acc, free) (occBody s sub hi limit)).run.fst.toList = _
        rw [ih]
        show _ = acc.toList ++ (if _ then _ else _)
        rw [if_neg h2]
  rw [occ_eq, key]
  simp
open PySem.Builtin.Str in
theorem go_mem {s sub : Str} {hi : Nat} : ∀ {l : List Nat} {free lim i : Nat}, i ∈ occGo s sub hi l free lim → i ∈ l ∧ i + sub.length ≤ hi ∧ subAt s sub i = true := by
  intro l
  induction l with
  | nil => intro free lim i h; cases h
  | cons a l ih =>
    intro free lim i h
    unfold occGo at h
    split at h
    · rename_i hc
      rcases List.mem_cons.mp h with rfl | h
      · exact ⟨.head _, hc.1.2, hc.2⟩
      · exact ⟨.tail _ (ih h).1, (ih h).2⟩
    · exact ⟨.tail _ (ih h).1, (ih h).2⟩
theorem findIn_leP {x y : Str} {lo hi : Int} {k : Nat} (h : findIn x y lo hi = some k) : k ≤ x.length := by
  unfold findIn at h
  rw [occ_go] at h
  have := go_mem (List.mem_of_head? h)
  have h2 := Nat.min_le_right (max 0 hi).toNat x.length
  omega
/-- the first place -/
def idx (k : Nat) : List Nat → Option Nat
  | [] => none
  | x :: xs => if x = k then some 0 else (idx k xs).map (· + 1)
theorem subq_nil (l : List Nat) : subq [] l = true := by cases l <;> rfl
theorem subq_idx (k : Nat) (ks : List Nat) : ∀ l : List Nat, subq (k :: ks) l = match idx k l with | some i => subq ks (l.drop (i + 1)) | none => false := by
  intro l
  induction l with
  | nil => rfl
  | cons x l ih =>
    show (if x = k then subq ks l else subq (k :: ks) l) = match (if x = k then some 0 else (idx k l).map (· + 1)) with | some i => subq ks ((x :: l).drop (i + 1)) | none => false
    by_cases h : x = k
    · rw [if_pos h, if_pos h]; rfl
    · rw [if_neg h, if_neg h, ih]
      cases idx k l <;> rfl
open PySem.Builtin.Str PySem.StrLaws in
theorem sub_sg {b k i : Nat} {r : List Nat} : (i + (sg b k).length ≤ (strOf b r).length ∧ subAt (strOf b r) (sg b k) i = true) ↔ r[i]? = some k := by
  unfold sg
  rw [subAt_one]
  simp only [strOf, List.getElem?_map]
  constructor
  · intro h
    cases hr : r[i]? with
    | none => rw [hr] at h; cases h
    | some c => rw [hr] at h; simp at h; rw [h]
  · intro h
    rw [h]; rfl
open PySem.Builtin.Str in
theorem go_sg {b k : Nat} {r : List Nat} {hi : Nat} (hh : hi ≤ r.length) : ∀ (m lo free : Nat), lo + m = hi → free ≤ lo → (occGo (strOf b r) (sg b k) hi (List.range' lo (m + 1)) free 1).head? = (idx k ((r.drop lo).take m)).map (lo + ·) := by
  intro m
  induction m with
  | zero =>
    intro lo free h1 h2
    show (if _ then _ else _ : List Nat).head? = _
    rw [if_neg]
    · rfl
    · rintro ⟨⟨_, h⟩, _⟩
      rw [sg_len] at h; omega
  | succ m ih =>
    intro lo free h1 h2
    have hlo : lo < r.length := by omega
    rw [List.drop_eq_getElem_cons hlo, List.take_succ_cons]
    show (if ((0 < 1 ∧ free ≤ lo) ∧ lo + (sg b k).length ≤ hi) ∧ subAt (strOf b r) (sg b k) lo = true then lo :: _ else _ : List Nat).head? = Option.map _ (if r[lo] = k then some 0 else (idx k _).map (· + 1))
    have e : (subAt (strOf b r) (sg b k) lo = true) ↔ r[lo] = k := by
      have := @sub_sg b k lo r
      rw [List.getElem?_eq_getElem hlo, Option.some.injEq] at this
      rw [← this]
      exact ⟨fun h => ⟨by rw [sg_len, strOf_len]; omega, h⟩, fun h => h.2⟩
    by_cases hk : r[lo] = k
    · rw [if_pos ⟨⟨⟨by decide, h2⟩, by rw [sg_len]; omega⟩, e.mpr hk⟩, if_pos hk]
      rfl
    · rw [if_neg (fun h => hk (e.mp h.2)), if_neg hk, ih (lo + 1) free (by omega) (by omega), Option.map_map]
      congr 1
      funext i
      show lo + 1 + i = lo + (i + 1)
      omega
theorem findIn_sg {b k : Nat} {r : List Nat} {lo hi : Nat} (hh : hi ≤ r.length) : findIn (strOf b r) (sg b k) (lo : Int) (hi : Int) = (idx k ((r.take hi).drop lo)).map (lo + ·) := by
  unfold findIn
  rw [show (max 0 (lo : Int)).toNat = lo by omega, show min (max 0 (hi : Int)).toNat (strOf b r).length = hi by rw [strOf_len]; omega, occ_go]
  by_cases h : lo ≤ hi
  · rw [show hi + 1 - lo = (hi - lo) + 1 by omega, go_sg hh (hi - lo) lo lo (by omega) (Nat.le_refl _), List.drop_take]
  · rw [show hi + 1 - lo = 0 by omega, List.drop_of_length_le (by rw [List.length_take]; omega)]
    rfl
open PySem.Builtin.Str in
theorem findIn_nil {x : Str} {lo hi : Nat} (h1 : lo ≤ hi) (h2 : hi ≤ x.length) : findIn x (Str.ofString "") (lo : Int) (hi : Int) = some lo := by
  have e0 : (Str.ofString "").length = 0 := by decide
  have e1 : subAt x (Str.ofString "") lo = true := by
    rw [PySem.StrLaws.subAt_eq, e0]
    rfl
  unfold findIn
  rw [show (max 0 (lo : Int)).toNat = lo by omega, show min (max 0 (hi : Int)).toNat x.length = hi by omega, occ_go, show hi + 1 - lo = (hi - lo) + 1 by omega]
  show (if _ then lo :: _ else _ : List Nat).head? = _
  rw [if_pos ⟨⟨⟨by decide, Nat.le_refl _⟩, by rw [e0]; omega⟩, e1⟩]
  rfl
theorem ellLoop_sg {b : Nat} {r : List Nat} {hi : Nat} (hh : hi ≤ r.length) : ∀ (ks : List Nat) (lo : Nat), ellLoop (strOf b r) (hi : Int) (lo : Int) (ks.map (sg b)) = subq ks ((r.take hi).drop lo) := by
  intro ks
  induction ks with
  | nil => intro lo; rw [List.map_nil, ellLoop, subq_nil]
  | cons k ks ih =>
    intro lo
    rw [List.map_cons, ellLoop]
    show (match findIn (strOf b r) (sg b k) (lo : Int) (hi : Int) with | some j => ellLoop (strOf b r) (hi : Int) ((j : Int) + (sg b k).length) (ks.map (sg b)) | none => false) = _
    rw [findIn_sg hh, subq_idx]
    cases idx k ((r.take hi).drop lo) with
    | none => rfl
    | some i =>
      show ellLoop (strOf b r) (hi : Int) (((lo + i : Nat) : Int) + ((sg b k).length : Nat)) (ks.map (sg b)) = _
      rw [sg_len, show ((lo + i : Nat) : Int) + ((1 : Nat) : Int) = ((lo + i + 1 : Nat) : Int) by omega, ih]
      show subq ks _ = subq ks (List.drop (i + 1) (List.drop lo (List.take hi r)))
      rw [List.drop_drop, show lo + i + 1 = lo + (i + 1) by omega]
theorem ellLoop_sgE {b : Nat} {r : List Nat} : ∀ (ks : List Nat) (lo : Nat), lo ≤ r.length → ellLoop (strOf b r) (r.length : Int) (lo : Int) (ks.map (sg b) ++ [Str.ofString ""]) = subq ks (r.drop lo) := by
  intro ks
  induction ks with
  | nil =>
    intro lo h
    rw [List.map_nil, List.nil_append, ellLoop, findIn_nil h (by rw [strOf_len]; exact Nat.le_refl _), subq_nil]
    show ellLoop _ _ _ [] = true
    rw [ellLoop]
  | cons k ks ih =>
    intro lo h
    rw [List.map_cons, List.cons_append, ellLoop]
    show (match findIn (strOf b r) (sg b k) (lo : Int) (r.length : Int) with | some j => ellLoop (strOf b r) (r.length : Int) ((j : Int) + (sg b k).length) (ks.map (sg b) ++ [Str.ofString ""]) | none => false) = _
    rw [findIn_sg (Nat.le_refl _), List.take_length, subq_idx]
    cases hi : idx k (r.drop lo) with
    | none => rfl
    | some i =>
      have hlt : ∀ (l : List Nat) (i : Nat), idx k l = some i → i < l.length := by
        intro l
        induction l with
        | nil => intro i h; cases h
        | cons x l ih =>
          intro i h
          have h' : (if x = k then some 0 else (idx k l).map (· + 1)) = some i := h
          split at h'
          · cases h'; simp
          · cases hj : idx k l with
            | none => rw [hj] at h'; cases h'
            | some j => rw [hj] at h'; cases h'; have := ih j hj; simp; omega
      have := hlt _ _ hi
      rw [List.length_drop] at this
      show ellLoop (strOf b r) (r.length : Int) (((lo + i : Nat) : Int) + ((sg b k).length : Nat)) (ks.map (sg b) ++ [Str.ofString ""]) = _
      rw [sg_len, show ((lo + i : Nat) : Int) + ((1 : Nat) : Int) = ((lo + i + 1 : Nat) : Int) by omega, ih _ (by omega)]
      show subq ks _ = subq ks (List.drop (i + 1) (List.drop lo r))
      rw [List.drop_drop, show lo + i + 1 = lo + (i + 1) by omega]
theorem ell_subqP {b : Nat} {rk r : List Nat} : ellDots (Str.ofString "") (rk.map (sg b)) (Str.ofString "") (strOf b r) = subq rk r := by
  have e0 : (Str.ofString "").length = 0 := by decide
  rw [ell_fin (f := Str.ofString "") (g := Str.ofString "") (mid := rk.map (sg b)) (b := strOf b r) (.inl e0) (.inl e0) (by rw [e0]; omega)]
  rw [if_pos e0, e0, strOf_len, show (r.length : Int) - ((0 : Nat) : Int) = (r.length : Int) by omega, List.append_assoc, List.singleton_append, ellLoop, findIn_nil (Nat.zero_le _) (by rw [strOf_len]; exact Nat.le_refl _)]
  show ellLoop (strOf b r) (r.length : Int) (((0 : Nat) : Int) + ((Str.ofString "").length : Nat)) (rk.map (sg b) ++ [Str.ofString ""]) = _
  rw [e0, show ((0 : Nat) : Int) + ((0 : Nat) : Int) = ((0 : Nat) : Int) by omega, ellLoop_sgE rk 0 (Nat.zero_le _), List.drop_zero]

theorem strOf_inj {b : Nat} {r r' : List Nat} (h : strOf b r = strOf b r') : r = r' := by
  have h2 : (r.map (b + ·)).toArray.toList = (r'.map (b + ·)).toArray.toList := congrArg (fun x : Str => x.cps.toList) h
  simp only at h2
  induction r generalizing r' with
  | nil => cases r' with
    | nil => rfl
    | cons _ _ => cases h2
  | cons a r ih => cases r' with
    | nil => cases h2
    | cons c r' =>
      simp only [List.map_cons, List.cons.injEq] at h2
      rw [ih (congrArg (fun l : List Nat => (⟨l.toArray⟩ : Str)) h2.2) h2.2, show a = c by omega]
theorem strOf_eqP {b : Nat} {r r' : List Nat} : (strOf b r == strOf b r') = decide (r = r') := by
  by_cases h : r = r'
  · subst h; simp
  · rw [decide_eq_false h]
    exact beq_eq_false_iff_ne.mpr fun e => h (strOf_inj e)
theorem str_ext {x y : Str} (h : x.cps.toList = y.cps.toList) : x = y := Str.ext' (Array.toList_inj.mp h)
theorem app_cps (x y : Str) : (x ++ y).cps.toList = x.cps.toList ++ y.cps.toList := by
  show (x.cps ++ y.cps).toList = _
  simp
theorem empty_cps : (Str.ofString "").cps.toList = [] := by decide
theorem dots_cps : dots.cps.toList = [46, 46, 46] := by decide
theorem dots_len : dots.length = 3 := by decide
theorem join_cons (x p q : Str) (r : List Str) : Str.join x (p :: q :: r) = p ++ x ++ Str.join x (q :: r) := rfl
theorem join_signsP {b : Nat} {r : List Nat} : Str.join (Str.ofString "") (r.map (sg b)) = strOf b r := by
  induction r with
  | nil => rfl
  | cons a r ih =>
    cases r with
    | nil => rfl
    | cons c r =>
      show Str.join _ (sg b a :: sg b c :: r.map (sg b)) = _
      rw [join_cons]
      apply str_ext
      rw [app_cps, app_cps, empty_cps]
      show (sg b a).cps.toList ++ [] ++ (Str.join (Str.ofString "") ((c :: r).map (sg b))).cps.toList = _
      rw [ih]
      rfl
theorem join_lenP {ps : List Str} {B : Nat} (hb : ∀ p ∈ ps, p.length ≤ B) : (Str.join dots ps).length ≤ ps.length * (B + 3) := by
  induction ps with
  | nil => exact Nat.zero_le _
  | cons p ps ih =>
    cases ps with
    | nil =>
      show p.length ≤ 1 * (B + 3)
      have := hb p (.head _); omega
    | cons q r =>
      have h1 := ih fun x hx => hb x (.tail _ hx)
      have h2 := hb p (.head _)
      rw [join_cons]
      have e : ∀ x y : Str, (x ++ y).length = x.length + y.length := fun x y => by
        show (x.cps ++ y.cps).size = _
        simp [Str.length]
      rw [e, e, dots_len, List.length_cons, Nat.add_mul]
      omega
theorem concat_rightP {x : Str} : x ++ dots = Str.join dots [x, Str.ofString ""] := by
  rw [join_cons]
  apply str_ext
  rw [app_cps (x ++ dots)]
  show _ = _ ++ (Str.ofString "").cps.toList
  rw [empty_cps, List.append_nil]
theorem concat_leftP {x : Str} : dots ++ x = Str.join dots [Str.ofString "", x] := by
  rw [join_cons]
  apply str_ext
  rw [app_cps, app_cps, app_cps, empty_cps]
  rfl
theorem item_strOfP {b r0 : Nat} {r : List Nat} : Txt.item (strOf b (r0 :: r)) 0 = sg b r0 := by
  unfold Txt.item Txt.charAt
  rw [PySem.StrLaws.seqIndex_nonneg (by decide) (by rw [strOf_len]; simp)]
  rfl
theorem item_strOfLP {b r0 z : Nat} {mid : List Nat} : Txt.item (strOf b (r0 :: (mid ++ [z]))) (-1) = sg b z := by
  unfold Txt.item Txt.charAt
  rw [PySem.StrLaws.seqIndex_neg (by decide) (by rw [strOf_len]; simp; omega), strOf_len]
  have e : (-1 + (((r0 :: (mid ++ [z])).length : Nat) : Int)).toNat = mid.length + 1 := by simp; omega
  rw [e]
  unfold strOf sg
  simp
theorem slice_takeP {b k : Nat} {r : List Nat} (h : k ≤ r.length) : Txt.slice (strOf b r) none (some (k : Int)) = strOf b (r.take k) := by
  have h2 : (strOf b r).cps.toList.length = r.length := by simp [strOf]
  have := eq_of_beq (slice_closes_to (x := strOf b r) (j := (k : Int)) (by omega))
  rw [this]
  apply str_ext
  simp [strOf, List.map_take]
theorem slice_midP {b r0 z : Nat} {mid : List Nat} : Txt.slice (strOf b (r0 :: (mid ++ [z]))) (some 1) (some (-1)) = strOf b mid := by
  have hl : (strOf b (r0 :: (mid ++ [z]))).length = mid.length + 2 := by rw [strOf_len]; simp
  have e : Txt.slice (strOf b (r0 :: (mid ++ [z]))) (some 1) (some (-1)) = Txt.slice (strOf b (r0 :: (mid ++ [z]))) (some 1) (some ((mid.length + 1 : Nat) : Int)) := by
    show PySem.StrLaws.sliceText _ _ _ = PySem.StrLaws.sliceText _ _ _
    unfold PySem.StrLaws.sliceText
    have e2 : Builtin.Str.strSliceIndices (some 1) (some (-1)) 1 (strOf b (r0 :: (mid ++ [z]))).length = Builtin.Str.strSliceIndices (some 1) (some ((mid.length + 1 : Nat) : Int)) 1 (strOf b (r0 :: (mid ++ [z]))).length := by
      rw [hl]
      unfold Builtin.Str.strSliceIndices
      dsimp only
      rw [if_pos (show (-1 : Int) < 0 by decide), if_neg (show ¬ ((mid.length + 1 : Nat) : Int) < 0 by omega), show (-1 : Int) + ((mid.length + 2 : Nat) : Int) = ((mid.length + 1 : Nat) : Int) by omega]
    rw [e2]
  have h2 : (strOf b (r0 :: (mid ++ [z]))).cps.toList.length = mid.length + 2 := by simp [strOf]
  rw [e, eq_of_beq (slice_closes (x := strOf b (r0 :: (mid ++ [z]))) (i := 1) (j := ((mid.length + 1 : Nat) : Int)) (by omega))]
  apply str_ext
  have e3 : (((mid.length + 1 : Nat) : Int) - 1).toNat = mid.length := by omega
  rw [e3]
  simp [strOf]
theorem mul_sgP {b r0 k : Nat} : Txt.mul (sg b r0) (k : Int) = strOf b (List.replicate k r0) := by
  have key : ∀ (k : Nat) (acc : Array Nat), ((List.replicate k (sg b r0).cps).foldl (· ++ ·) acc).toList = acc.toList ++ List.replicate k (b + r0) := by
    intro k
    induction k with
    | zero => intro acc; simp
    | succ k ih =>
      intro acc
      rw [List.replicate_succ, List.foldl_cons, ih]
      show (acc ++ #[b + r0]).toList ++ _ = _
      rw [List.replicate_succ]
      simp
  unfold Txt.mul
  split
  · have : k = 0 := by omega
    subst this; rfl
  · split
    · rename_i h1 h2
      have : k = 1 := by simp [sg, Str.length] at h2; omega
      subst this; rfl
    · apply str_ext
      rw [Int.toNat_natCast]
      show ((List.replicate k (sg b r0).cps).foldl (· ++ ·) #[]).toList = _
      rw [key]
      simp [strOf]
open PySem.Builtin.Str PySem.StrLaws in
theorem starts_sg {b k a : Nat} {r : List Nat} : Txt.startswith (strOf b (a :: r)) (sg b k) = decide (a = k) := by
  unfold Txt.startswith
  have := @sub_sg b k 0 (a :: r)
  rw [List.getElem?_cons_zero, Option.some.injEq] at this
  rw [Bool.eq_iff_iff, decide_eq_true_eq, ← this, Bool.and_eq_true, decide_eq_true_eq]
theorem starts_nil {b k : Nat} : Txt.startswith (strOf b []) (sg b k) = false := by
  unfold Txt.startswith
  rw [sg_len, strOf_len]; rfl
open PySem.Builtin.Str PySem.StrLaws in
theorem ends_sg {b k z : Nat} {r : List Nat} : Txt.endswith (strOf b (r ++ [z])) (sg b k) = decide (z = k) := by
  unfold Txt.endswith
  have hl : (strOf b (r ++ [z])).length - (sg b k).length = r.length := by rw [strOf_len, sg_len]; simp
  rw [hl]
  have := @sub_sg b k r.length (r ++ [z])
  rw [List.getElem?_concat_length, Option.some.injEq] at this
  rw [Bool.eq_iff_iff, decide_eq_true_eq, ← this, Bool.and_eq_true, decide_eq_true_eq, strOf_len, sg_len]
  simp
theorem subq_len : ∀ {ks l : List Nat}, subq ks l = true → ks.length ≤ l.length
  | [], l, _ => Nat.zero_le _
  | _ :: _, [], h => by cases h
  | k :: ks, x :: xs, h => by
    have h' : (if x = k then subq ks xs else subq (k :: ks) xs) = true := h
    split at h'
    · have := subq_len h'; simp; omega
    · have := subq_len h'; simp at this ⊢; omega
theorem subq_same : ∀ {ks l : List Nat}, ks.length = l.length → subq ks l = decide (ks = l)
  | [], [], _ => rfl
  | [], _ :: _, h => by cases h
  | _ :: _, [], h => by cases h
  | k :: ks, x :: xs, h => by
    show (if x = k then subq ks xs else subq (k :: ks) xs) = _
    have hl : ks.length = xs.length := by simpa using h
    by_cases hx : x = k
    · subst hx
      rw [if_pos rfl, subq_same hl]
      simp
    · rw [if_neg hx, decide_eq_false (by intro e; cases e; exact hx rfl)]
      cases hs : subq (k :: ks) xs with
      | false => rfl
      | true => have := subq_len hs; simp at this; omega
/-- a whole ask with one sign at each end -/
theorem ell_ends {b a z : Nat} {ks r : List Nat} {x0 xz : Nat} {mid : List Nat} (hr : r = x0 :: (mid ++ [xz])) : ellDots (sg b a) (ks.map (sg b)) (sg b z) (strOf b r) = (decide (x0 = a) && decide (xz = z) && subq ks mid) := by
  unfold ellDots
  rw [sg_len, sg_len, strOf_len]
  have e1 : Txt.startswith (strOf b r) (sg b a) = decide (x0 = a) := by rw [hr]; exact starts_sg
  have e2 : Txt.endswith (strOf b r) (sg b z) = decide (xz = z) := by rw [hr, ← List.cons_append]; exact ends_sg
  have hl : r.length = mid.length + 2 := by rw [hr]; simp
  rw [e1, e2, if_neg (by decide), if_neg (by decide), List.nil_append, List.append_nil, show (r.length : Int) - ((1 : Nat) : Int) = ((mid.length + 1 : Nat) : Int) by omega, ellLoop_sg (by omega)]
  have e3 : (r.take (mid.length + 1)).drop 1 = mid := by rw [hr]; simp
  rw [e3, show decide (((1 : Nat) : Int) ≤ ((mid.length + 1 : Nat) : Int)) = true from decide_eq_true (by omega)]
  simp
theorem ell_sameP {b : Nat} {r r' : List Nat} {f g : Str} {mid : List Str} (h : r.map (sg b) = f :: (mid ++ [g])) (hl : r.length = r'.length) : ellDots f mid g (strOf b r') = decide (r = r') := by
  cases r with
  | nil => cases h
  | cons a r =>
    rcases List.eq_nil_or_concat r with rfl | ⟨ks, z, rfl⟩
    · have := congrArg List.length h
      simp at this
    · rw [List.concat_eq_append] at h hl ⊢
      rw [List.map_cons, List.map_append, List.map_cons, List.map_nil] at h
      injection h with h1 h2
      have h3 := List.append_inj' h2 rfl
      obtain ⟨h4, h5⟩ := h3
      injection h5 with h6 _
      subst h1 h4 h6
      cases r' with
      | nil => cases hl
      | cons x0 r' =>
        rcases List.eq_nil_or_concat r' with rfl | ⟨ms, xz, rfl⟩
        · simp at hl
        · rw [List.concat_eq_append] at hl ⊢
          rw [ell_ends rfl, subq_same (by simpa using hl)]
          by_cases e1 : x0 = a
          · by_cases e2 : xz = z
            · subst e1 e2
              simp
            · have : ¬ (a :: (ks ++ [z]) = x0 :: (ms ++ [xz])) := fun e => by
                injection e with _ e
                have := (List.append_inj' e rfl).2
                injection this with e3 _
                exact e2 e3.symm
              simp [e2, this]
          · have : ¬ (a :: (ks ++ [z]) = x0 :: (ms ++ [xz])) := fun e => by
              injection e with e3 _
              exact e1 e3.symm
            rw [decide_eq_false this, decide_eq_false e1]
            rfl

open PySem.Builtin PySem.Builtin.Str PySem.StrLaws in
theorem occ_dotlessP {x : Str} (h : Dotless x) : (Builtin.Str.occurrences x dots 0 x.length 1).isEmpty = true := by
  cases he : (Builtin.Str.occurrences x dots 0 x.length 1).isEmpty with
  | true => rfl
  | false =>
    have h1 : (!(Builtin.Str.occurrences x dots 0 x.length 1).isEmpty) = true := by rw [he]; rfl
    obtain ⟨i, h2, h3⟩ := (found_iff x dots).mp h1
    rw [subAt_eq, dots_len, dots_cps] at h3
    have h4 := eq_of_beq h3
    have : (46 : Nat) ∈ (x.cps.toList.drop i).take 3 := by rw [h4]; exact .head _
    exact absurd (List.mem_of_mem_drop (List.mem_of_mem_take this)) h
theorem len_app (x y : Str) : (x ++ y).length = x.length + y.length := by
  show (x.cps ++ y.cps).size = _
  simp [Str.length]
open PySem.Builtin PySem.Builtin.Str PySem.StrLaws in
theorem occ_joinP {ps : List Str} (h : 2 ≤ ps.length) : (Builtin.Str.occurrences (Str.join dots ps) dots 0 (Str.join dots ps).length 1).isEmpty = false := by
  match ps, h with
  | p :: q :: r, _ =>
    have h1 := (found_iff (Str.join dots (p :: q :: r)) dots).mpr ⟨p.length, by
      rw [join_cons, len_app, len_app]; omega, by
      rw [subAt_eq, join_cons, app_cps, app_cps]
      have e : p.cps.toList.length = p.length := by simp [Str.length]
      rw [List.append_assoc, ← e, List.drop_left, dots_len, dots_cps]
      rfl⟩
    simpa using h1
theorem ell_front {b a x0 : Nat} {r : List Nat} : ellDots (sg b a) [] (Str.ofString "") (strOf b (x0 :: r)) = decide (x0 = a) := by
  have e0 : (Str.ofString "").length = 0 := by decide
  unfold ellDots
  rw [sg_len, e0, strOf_len, starts_sg, if_neg (by decide), if_pos rfl, List.nil_append, List.nil_append, List.length_cons]
  rw [show (((r.length + 1 : Nat) : Int)) - ((0 : Nat) : Int) = ((r.length + 1 : Nat) : Int) by omega, ellLoop, findIn_nil (by omega) (by rw [strOf_len]; simp)]
  have e1 : decide (((1 : Nat) : Int) ≤ ((r.length + 1 : Nat) : Int)) = true := decide_eq_true (by omega)
  rw [e1]
  show (_ && _ && true && ellLoop _ _ _ []) = _
  rw [ellLoop]
  simp
theorem ell_back {b a z : Nat} {r : List Nat} : ellDots (Str.ofString "") [] (sg b a) (strOf b (r ++ [z])) = decide (z = a) := by
  have e0 : (Str.ofString "").length = 0 := by decide
  unfold ellDots
  rw [sg_len, e0, strOf_len, ends_sg, if_pos rfl, if_neg (by decide), List.append_nil, List.append_nil, List.length_append, List.length_singleton]
  rw [show (((r.length + 1 : Nat) : Int)) - ((1 : Nat) : Int) = ((r.length : Nat) : Int) by omega, ellLoop, findIn_nil (Nat.zero_le _) (by rw [strOf_len]; simp)]
  have e1 : decide (((0 : Nat) : Int) ≤ ((r.length : Nat) : Int)) = true := decide_eq_true (by omega)
  rw [e1]
  show (_ && _ && true && ellLoop _ _ _ []) = _
  rw [ellLoop]
  simp
theorem subq_one (k : Nat) : ∀ l : List Nat, subq [k] l = l.any (· == k)
  | [] => rfl
  | x :: xs => by
    show (if x = k then subq [] xs else subq [k] xs) = (x == k || xs.any (· == k))
    by_cases h : x = k
    · subst h; rw [if_pos rfl, subq_nil]; simp
    · rw [if_neg h, subq_one k xs, beq_eq_false_iff_ne.mpr h]; rfl
theorem alone_pureP {b n r0 z : Nat} {r mid : List Nat} (hr : r.length = n) (hn : n = 5 ∨ n = 6) (hrm : r = r0 :: (mid ++ [z])) (hnd : r.Nodup) :
    r.filter (fun k => ellDots (sg b k) [] (Str.ofString "") (strOf b r)) = [r0] ∧
    r.filter (fun k => ellDots (Str.ofString "") [] (sg b k) (strOf b r)) = [z] ∧
    r.filter (fun k => ellDots (sg b r0) [sg b k] (sg b z) (strOf b r)) = mid ∧
    (List.range (n + 1)).filter (fun k => strOf b (r.take k) == strOf b r) = [n] ∧
    (List.range 4).filter (fun k => ellDots (sg b r0) [] (sg b r0) (strOf b (List.replicate k r0))) = [2, 3] ∧
    (List.range 4).filter (fun k => ellDots (Str.ofString "") [sg b r0, sg b r0] (Str.ofString "") (strOf b (List.replicate k r0))) = [2, 3] := by
  have hnd2 := hnd
  rw [hrm, List.nodup_cons, List.nodup_append] at hnd2
  obtain ⟨hn0, hnm, -, hnz⟩ := hnd2
  have n0 : ∀ k ∈ mid ++ [z], r0 ≠ k := fun k hk e => hn0 (e ▸ hk)
  refine ⟨?_, ?_, ?_, ?_, ?_, ?_⟩
  · have e : (fun k => ellDots (sg b k) [] (Str.ofString "") (strOf b r)) = fun k => decide (r0 = k) := by
      funext k; rw [hrm]; exact ell_front
    rw [e, hrm, List.filter_cons_of_pos (by simp)]
    congr 1
    rw [List.filter_eq_nil_iff]
    intro k hk
    simpa using n0 k hk
  · have e : (fun k => ellDots (Str.ofString "") [] (sg b k) (strOf b r)) = fun k => decide (z = k) := by
      funext k; rw [hrm, ← List.cons_append]; exact ell_back
    rw [e, hrm, ← List.cons_append, List.filter_append]
    have h1 : (r0 :: mid).filter (fun k => decide (z = k)) = [] := by
      rw [List.filter_eq_nil_iff]
      intro k hk
      rcases List.mem_cons.mp hk with rfl | hk
      · simpa using fun e : z = k => n0 z (List.mem_append_right _ (.head _)) e.symm
      · simpa using fun e : z = k => hnz k hk z (.head _) e.symm
    rw [h1]
    simp
  · have e : (fun k => ellDots (sg b r0) [sg b k] (sg b z) (strOf b r)) = fun k => mid.any (· == k) := by
      funext k
      have := @ell_ends b r0 z [k] r r0 z mid hrm
      rw [List.map_cons, List.map_nil] at this
      rw [this, subq_one]
      simp
    rw [e, hrm, List.filter_cons_of_neg, List.filter_append, List.filter_eq_self.mpr, List.filter_cons_of_neg]
    · simp
    · simp
      intro x
      exact hnz z x z (.head _) rfl
    · intro x hx
      rw [List.any_eq_true]
      exact ⟨x, hx, by simp⟩
    · simp
      intro x
      exact n0 r0 (List.mem_append_left _ x) rfl
  · have e : ∀ k ∈ List.range (n + 1), (strOf b (r.take k) == strOf b r) = (k == n) := fun k hk => by
      have hk := List.mem_range.mp hk
      rw [strOf_eqP]
      by_cases h : k = n
      · subst h
        rw [List.take_of_length_le (by omega)]
        simp
      · rw [beq_eq_false_iff_ne.mpr h]
        apply decide_eq_false
        intro e
        have := congrArg List.length e
        rw [List.length_take] at this
        omega
    rw [List.filter_congr e]
    rcases hn with rfl | rfl <;> decide
  · have e : ∀ k ∈ List.range 4, ellDots (sg b r0) [] (sg b r0) (strOf b (List.replicate k r0)) = decide (2 ≤ k) := fun k hk => by
      have hk := List.mem_range.mp hk
      rcases (by omega : k = 0 ∨ k = 1 ∨ k = 2 ∨ k = 3) with rfl | rfl | rfl | rfl
      · unfold ellDots
        rw [show List.replicate 0 r0 = [] from rfl, starts_nil, sg_len]
        rfl
      · unfold ellDots
        rw [sg_len, strOf_len]
        simp
      · exact (@ell_ends b r0 r0 [] [r0, r0] r0 r0 [] rfl).trans (by simp [subq_nil])
      · exact (@ell_ends b r0 r0 [] [r0, r0, r0] r0 r0 [r0] rfl).trans (by simp [subq_nil])
    rw [List.filter_congr e]
    decide
  · have e : ∀ k ∈ List.range 4, ellDots (Str.ofString "") [sg b r0, sg b r0] (Str.ofString "") (strOf b (List.replicate k r0)) = decide (2 ≤ k) := fun k hk => by
      have hk := List.mem_range.mp hk
      have := @ell_subqP b [r0, r0] (List.replicate k r0)
      rw [List.map_cons, List.map_cons, List.map_nil] at this
      rw [this]
      rcases (by omega : k = 0 ∨ k = 1 ∨ k = 2 ∨ k = 3) with rfl | rfl | rfl | rfl <;> simp [List.replicate, subq]
    rw [List.filter_congr e]
    decide

open PySem.Builtin PySem.Builtin.Str PySem.StrLaws
theorem dots_at {x : Str} {i : Nat} : subAt x dots i = ((x.cps.toList.drop i).take 3 == [46, 46, 46]) := by rw [subAt_eq, dots_len, dots_cps]
theorem go_skip {x : Str} {hi k : Nat} : ∀ (P : List Nat) (off free lim : Nat) (T : List Nat), x.cps.toList.drop off = P ++ T → 46 ∉ P → occGo x dots hi (List.range' off (P.length + k)) free lim = occGo x dots hi (List.range' (off + P.length) k) free lim := by
  intro P
  induction P with
  | nil => intro off free lim T _ _; rw [List.length_nil, Nat.zero_add, Nat.add_zero]
  | cons c P ih =>
    intro off free lim T hd hp
    have hc : c ≠ 46 := fun e => hp (by rw [e]; exact .head _)
    rw [List.length_cons, show P.length + 1 + k = (P.length + k) + 1 by omega, List.range'_succ]
    show (if _ then _ else _ : List Nat) = _
    rw [if_neg, ih (off + 1) free lim T ?_ (fun h => hp (.tail _ h)), show off + 1 + P.length = off + (P.length + 1) by omega]
    · rw [← List.drop_drop, hd]; rfl
    · rintro ⟨_, h⟩
      rw [dots_at, hd] at h
      have h2 := eq_of_beq h
      have h3 : c = 46 := by
        have := congrArg (fun l : List Nat => l.head?) h2
        simpa using this
      exact hc h3
theorem go_skip2 {x : Str} {hi k : Nat} : ∀ (m i lim : Nat), occGo x dots hi (List.range' i (m + k)) (i + m) lim = occGo x dots hi (List.range' (i + m) k) (i + m) lim := by
  intro m
  induction m with
  | zero => intro i lim; rw [Nat.zero_add, Nat.add_zero]
  | succ m ih =>
    intro i lim
    rw [show m + 1 + k = (m + k) + 1 by omega, List.range'_succ]
    show (if _ then _ else _ : List Nat) = _
    rw [if_neg (by rintro ⟨⟨⟨_, h⟩, _⟩, _⟩; omega)]
    have := ih (i + 1) lim
    rw [show i + 1 + m = i + (m + 1) by omega] at this
    exact this
def cutsOf : Nat → List Str → List Nat
  | _, [] => []
  | _, [_] => []
  | off, p :: q :: r => (off + p.length) :: cutsOf (off + p.length + 3) (q :: r)
theorem go_cuts {x : Str} : ∀ (ps : List Str) (off free lim : Nat), ps ≠ [] → x.cps.toList.drop off = (Str.join dots ps).cps.toList → off ≤ x.length → (∀ p ∈ ps, Dotless p) → free ≤ off → ps.length ≤ lim →
    occGo x dots x.length (List.range' off (x.length + 1 - off)) free lim = cutsOf off ps := by
  intro ps
  induction ps with
  | nil => intro _ _ _ h; exact absurd rfl h
  | cons p ps ih =>
    intro off free lim _ hd ho hp hf hl
    have hpl : p.cps.toList.length = p.length := by simp [Str.length]
    have hxl : x.cps.toList.length = x.length := by simp [Str.length]
    cases ps with
    | nil =>
      have hd' : x.cps.toList.drop off = p.cps.toList ++ [] := by rw [hd, List.append_nil]; rfl
      have hlen := congrArg List.length hd'
      rw [List.length_drop, List.length_append, hpl, hxl] at hlen
      simp at hlen
      have hs := go_skip (x := x) (hi := x.length) (k := 1) p.cps.toList off free lim [] hd' (hp p (.head _))
      rw [hpl] at hs
      rw [show x.length + 1 - off = p.length + 1 by omega, hs]
      show (if _ then _ else _ : List Nat) = []
      rw [if_neg (by rintro ⟨⟨_, h⟩, _⟩; rw [dots_len] at h; omega)]
      rfl
    | cons q r =>
      have hj : x.cps.toList.drop off = p.cps.toList ++ ([46, 46, 46] ++ (Str.join dots (q :: r)).cps.toList) := by
        rw [hd, join_cons, app_cps, app_cps, dots_cps, List.append_assoc]
      have hlen := congrArg List.length hj
      rw [List.length_drop, List.length_append, List.length_append, hpl, hxl] at hlen
      simp only [List.length_cons, List.length_nil] at hlen
      have hs := go_skip (x := x) (hi := x.length) (k := 1 + (2 + (x.length + 1 - (off + p.length + 3)))) p.cps.toList off free lim _ hj (hp p (.head _))
      rw [hpl] at hs
      rw [show x.length + 1 - off = p.length + (1 + (2 + (x.length + 1 - (off + p.length + 3)))) by omega, hs, Nat.add_comm 1, List.range'_succ]
      have hd2 : x.cps.toList.drop (off + p.length) = [46, 46, 46] ++ (Str.join dots (q :: r)).cps.toList := by
        rw [← List.drop_drop, hj, ← hpl, List.drop_left]
      have hd3 : x.cps.toList.drop (off + p.length + 3) = (Str.join dots (q :: r)).cps.toList := by
        rw [← List.drop_drop, hd2]; rfl
      show (if _ then _ else _ : List Nat) = _
      rw [if_pos ⟨⟨⟨by simp at hl; omega, by omega⟩, by rw [dots_len]; omega⟩, by rw [dots_at, hd2]; rfl⟩]
      show (off + p.length) :: _ = (off + p.length) :: cutsOf (off + p.length + 3) (q :: r)
      congr 1
      rw [dots_len]
      have hk := go_skip2 (x := x) (hi := x.length) (k := x.length + 1 - (off + p.length + 3)) 2 (off + p.length + 1) (lim - 1)
      rw [show off + p.length + 1 + 2 = off + p.length + 3 by omega] at hk
      rw [hk]
      exact ih (off + p.length + 3) (off + p.length + 3) (lim - 1) (by simp) hd3 (by omega) (fun y hy => hp y (.tail _ hy)) (Nat.le_refl _) (by simp at hl ⊢; omega)
theorem parts_cuts {x : Str} : ∀ (ps : List Str) (off : Nat), ps ≠ [] → x.cps.toList.drop off = (Str.join dots ps).cps.toList → partsFrom x 3 off (cutsOf off ps) = ps := by
  intro ps
  induction ps with
  | nil => intro _ h; exact absurd rfl h
  | cons p ps ih =>
    intro off _ hd
    have hpl : p.cps.toList.length = p.length := by simp [Str.length]
    have hxl : x.cps.toList.length = x.length := by simp [Str.length]
    cases ps with
    | nil =>
      show [strSub x off x.length] = [p]
      congr 1
      apply str_ext
      rw [strSub_toList, hd]
      show (p.cps.toList).take (x.length - off) = p.cps.toList
      have hlen := congrArg List.length hd
      rw [List.length_drop, hxl] at hlen
      have : (Str.join dots [p]).cps.toList.length = p.length := hpl
      rw [List.take_of_length_le (by omega)]
    | cons q r =>
      have hj : x.cps.toList.drop off = p.cps.toList ++ ([46, 46, 46] ++ (Str.join dots (q :: r)).cps.toList) := by
        rw [hd, join_cons, app_cps, app_cps, dots_cps, List.append_assoc]
      have hd3 : x.cps.toList.drop (off + p.length + 3) = (Str.join dots (q :: r)).cps.toList := by
        rw [← List.drop_drop, ← List.drop_drop, hj, ← hpl, List.drop_left]; rfl
      show strSub x off (off + p.length) :: partsFrom x 3 (off + p.length + 3) (cutsOf (off + p.length + 3) (q :: r)) = _
      rw [ih (off + p.length + 3) (by simp) hd3]
      congr 1
      apply str_ext
      rw [strSub_toList, hj, show off + p.length - off = p.length by omega, ← hpl, List.take_left]
theorem join_cnt : ∀ (ps : List Str), ps.length ≤ (Str.join dots ps).length + 1 := by
  intro ps
  induction ps with
  | nil => exact Nat.zero_le _
  | cons p ps ih =>
    cases ps with
    | nil => simp
    | cons q r =>
      rw [join_cons, len_app, len_app, dots_len, List.length_cons]
      omega
theorem split_joinP {ps : List Str} (h : 2 ≤ ps.length) (hd : ∀ p ∈ ps, Dotless p) : Txt.split (Str.join dots ps) dots = ps := by
  have hne : ps ≠ [] := by intro e; rw [e] at h; simp at h
  have hlen : 3 ≤ (Str.join dots ps).length := by
    match ps, h with
    | p :: q :: r, _ => rw [join_cons, len_app, len_app, dots_len]; omega
  unfold Txt.split
  have hk : decide (Builtin.Str.strKind (Str.join dots ps) < Builtin.Str.strKind dots) = false := by
    apply decide_eq_false
    have h1 : Builtin.Str.strKind dots = 1 := by decide +kernel
    rw [h1]
    unfold Builtin.Str.strKind
    split
    · decide
    · split <;> decide
  rw [hk, show decide ((Str.join dots ps).length < dots.length) = false from decide_eq_false (by rw [dots_len]; omega), if_neg (by decide)]
  have hocc : occurrences (Str.join dots ps) dots 0 (Str.join dots ps).length ((Str.join dots ps).length + 1) = cutsOf 0 ps := by
    rw [occ_go]
    exact go_cuts ps 0 0 _ hne rfl (Nat.zero_le _) hd (Nat.le_refl _) (join_cnt ps)
  rw [hocc, partsBetween_eq, dots_len, parts_cuts ps 0 hne rfl]
  match ps, h with
  | p :: q :: r, _ => rfl

end Mine
namespace Mine
local macro_rules | `(tactic| omega) => `(tactic| first | assumption | exact Nat.ne_of_lt (by assumption) | exact Nat.ne_of_gt (by assumption) | exact Nat.le_of_lt (by assumption) | lia | omega (config := {}))
section
variable {prog : Program} {w : World} {A : Around} {E : Value → Shared → Prop} {s : Shared} {h₀ : Heap} {L : Addr} {m : Str → Option Value} {news news' : List (Addr × Obj)} {Q : Value → Shared → Prop}
theorem strs_LR : ∀ (l : List (Str × Tok)), LR StrV (l.map (·.1)) (strValues l)
  | [] => .nil
  | p :: r => .cons ⟨p.2, rfl⟩ (strs_LR r)
theorem LR.two {f g : Str} {mid : List Str} {vs : List Value} (h : LR StrV (f :: (mid ++ [g])) vs) : ∃ t1 vm t2, vs = .str f t1 :: (vm ++ [.str g t2]) ∧ LR StrV mid vm := by
  cases h with
  | cons h1 h2 =>
    obtain ⟨t1, rfl⟩ := h1
    have key : ∀ (mid : List Str) (vs : List Value), LR StrV (mid ++ [g]) vs → ∃ vm t2, vs = vm ++ [.str g t2] ∧ LR StrV mid vm := by
      intro mid
      induction mid with
      | nil =>
        intro vs h
        cases h with
        | cons h1 h2 => obtain ⟨t2, rfl⟩ := h1; cases h2; exact ⟨[], t2, rfl, .nil⟩
      | cons a r ih =>
        intro vs h
        cases h with
        | cons h1 h2 => obtain ⟨vm, t2, rfl, k⟩ := ih _ h2; exact ⟨_ :: vm, t2, rfl, .cons h1 k⟩
    obtain ⟨vm, t2, rfl, k⟩ := key _ _ h2
    exact ⟨t1, vm, t2, rfl, k⟩
theorem split_two {x f g : Str} {mid : List Str} {t u : Tok} (F : Fr h₀ L s.heap m) (N : News h₀ L s.heap news) (hs : Txt.split x (Str.ofString "...") = f :: (mid ++ [g])) (hx : x.length < 1000)
    (h : ∀ l t1 vm t2 h' tk, LR StrV mid vm → Fr h₀ L h' m → News h₀ L h' ((l, lsO (.str f t1 :: (vm ++ [.str g t2])) 0) :: news) → AllNe l news → Q (.ref l) { s with heap := h', toks := tk }) :
    wpAny (model prog w) A (call (.builtin "str.split") [.str x t, .str (Str.ofString "...") u]) Q E s := by
  refine splitN1 F N (by decide +kernel) (fun l h' k hl F' N' => ?_) (by rw [sizeLine_eq]; omega)
  have hLR := strs_LR l
  rw [hl, hs] at hLR
  obtain ⟨t1, vm, t2, e, hm⟩ := hLR.two
  rw [e] at N'
  exact h _ t1 vm t2 h' k hm F' N' (allNe_of fun p hp => Nat.ne_of_lt (Heap.lt_size (N p hp).1))
theorem truthy_strK {x : Str} {t : Tok} {Q : Bool → Shared → Prop} (hx : x.length < 1000) (h : ∀ tk, Q (decide (x.length ≠ 0)) { s with toks := tk }) : wpAny (model prog w) A (truthy (.str x t)) Q E s := by
  refine P.truthy_str (by omega) ?_
  have : ((x.length : Int) != 0) = decide (x.length ≠ 0) := by
    by_cases e : x.length = 0
    · simp [e]
    · simp only [ne_eq, e, not_false_eq_true, decide_true]
      exact bne_iff_ne.mpr (by omega)
  rw [this]
  exact h _
open PySem.Builtin PySem.Builtin.Str in
theorem gives_find4 (x y : Str) (i j : Int) (hi : 0 ≤ i) (hj : 0 ≤ j) (t u v v' : Tok) : Gives (Builtin.«str.find» ⟨[.str x t, .str y u, .int i v, .int j v'], []⟩) (.int (findV x y i j)) := by
  show Gives (match Builtin.Str.occurrences x y (max 0 (if i < 0 then i + x.length else i)).toNat (min (max 0 (if j < 0 then j + x.length else j)).toNat x.length) 1 with | k :: _ => retInt k | [] => (do rule "str.find.not-found"; retInt (-1))) _
  rw [if_neg (by omega), if_neg (by omega)]
  unfold findV findIn
  cases Builtin.Str.occurrences x y (max 0 i).toNat (min (max 0 j).toNat x.length) 1 with
  | nil => exact .rule (.of_eq rfl)
  | cons k _ => exact .of_eq rfl
theorem find4 {x y : Str} {i j : Int} {t u v v' : Tok} (hi : 0 ≤ i) (hj : 0 ≤ j) (hq : ∀ tk t', Q (.int (findV x y i j) t') { s with toks := tk }) :
    wpAny (model prog w) A (call (.builtin "str.find") [.str x t, .str y u, .int i v, .int j v']) Q E s :=
  call_gives F.slot_str_find (typeIs_str _ _ _) F.entry_str_find (F.args_str_find_4 _ _ _ _) (gives_find4 x y i j hi hj t u v v') (hq _ _)
theorem upd_mem {d : Addr} {o o' : Obj} (U : Upd d o o' news news') : (d, o) ∈ news := by
  obtain ⟨pre, post, e, _⟩ := U.split
  rw [e]; simp
theorem len_K {l : Addr} {its : List Value} {n : Nat} {Q : Value → Shared → Prop} (hl : s.heap.IsList l its.toArray) (hn : its.length = n) (hfit : n < 10000) (h : ∀ t tk, Q (.int n t) { s with toks := tk }) :
    wpAny (model prog w) A (call (.builtin "len") [.ref l]) Q E s := by
  refine len_list hl (by rw [List.size_toArray]; omega) ?_
  rw [List.size_toArray, hn]
  exact h _ _
theorem item_neg {value slice : Expr} {l : Addr} {its : List Value} {k : Int} {u : Tok} {x : Value} {Q : Value → Shared → Prop} (hl : s.heap.IsList l its.toArray)
    (h0 : k < 0) (h1 : -(its.length : Int) ≤ k) (hfit : its.length < 10000) (hx : its[(k + its.length).toNat]? = some x) (h : Q x s)
    (hs : subscripted slice false (.ref l) (.int k u) = operate [.ref l, .int k u] (getItem (.ref l) (.int k u)) := by with_unfolding_all rfl) (hg : ∀ r, letTemporaryGo value (.ref l) r = pure () := by intro _; with_unfolding_all rfl) :
    wpAny (model prog w) A (subscriptTail value slice (.ref l) (.int k u)) Q E s :=
  subscriptTail_builtin hl.typeIs slot_list_getitem.lookup (wpAny_getItem_list_neg hl h0 (by simpa using h1) (by omega) (by simpa using hx) h) hs hg
theorem delItem_K {D : Addr} {its its' : List Value} {n : Nat} {i : Int} {u : Tok} {k : Nat} {Q : Unit → Shared → Prop} (F : Fr h₀ L s.heap m) (N : News h₀ L s.heap news)
    (hfit : Builtin.List.listFitsIndex i = true) (hk : seqIndex? i its.length = some k) (he : its.eraseIdx k = its') (hl : its.length < 10000)
    (U : Upd D (lsO its n) (lsO its' (n + 1)) news news')
    (h : ∀ h', Fr h₀ L h' m → News h₀ L h' news' → Q () { s with heap := h' }) :
    wpAny (model prog w) A (delItem (.ref D) (.int i u)) Q E s := by
  have hm := upd_mem U
  obtain ⟨pre, post, e1, e2, h1, h2⟩ := U.split
  subst e1 e2
  refine delItem_at (N.get hm) hfit (by simpa using hk) (fun h' hs ho' => ?_) (by rw [sizeLine_eq, List.size_toArray]; omega)
  refine h h' (F.change hs (N _ hm).2.1 (N _ hm).2.2) (N.setAt h1 h2 hs ?_)
  rw [ho', ← he]
theorem item_last1 {value slice : Expr} {l : Addr} {vm : List Value} {u : Tok} {x : Value} {Q : Value → Shared → Prop} (hl : s.heap.IsList l (vm ++ [x]).toArray) (hfit : vm.length < 5000) (h : Q x s)
    (hs : subscripted slice false (.ref l) (.int (-1) u) = operate [.ref l, .int (-1) u] (getItem (.ref l) (.int (-1) u)) := by with_unfolding_all rfl) (hg : ∀ r, letTemporaryGo value (.ref l) r = pure () := by intro _; with_unfolding_all rfl) :
    wpAny (model prog w) A (subscriptTail value slice (.ref l) (.int (-1) u)) Q E s := by
  refine item_neg hl (by decide) ?_ ?_ ?_ h hs hg
  · simp only [List.length_append, List.length_cons, List.length_nil]; omega
  · simp only [List.length_append, List.length_cons, List.length_nil]; omega
  · have : (-1 + ((vm ++ [x]).length : Int)).toNat = vm.length := by simp only [List.length_append, List.length_cons, List.length_nil]; omega
    rw [this]; simp
theorem item_last2 {value slice : Expr} {l : Addr} {vm : List Value} {u : Tok} {x y : Value} {Q : Value → Shared → Prop} (hl : s.heap.IsList l (y :: (vm ++ [x])).toArray) (hfit : vm.length < 4000) (h : Q x s)
    (hs : subscripted slice false (.ref l) (.int (-1) u) = operate [.ref l, .int (-1) u] (getItem (.ref l) (.int (-1) u)) := by with_unfolding_all rfl) (hg : ∀ r, letTemporaryGo value (.ref l) r = pure () := by intro _; with_unfolding_all rfl) :
    wpAny (model prog w) A (subscriptTail value slice (.ref l) (.int (-1) u)) Q E s :=
  item_last1 (vm := y :: vm) hl (by simp only [List.length_cons]; omega) h hs hg
theorem del_first {D : Addr} {its : List Value} {x : Value} {n : Nat} {u : Tok} {Q : Unit → Shared → Prop} (F : Fr h₀ L s.heap m) (N : News h₀ L s.heap news) (hl : its.length < 5000)
    (U : Upd D (lsO (x :: its) n) (lsO its (n + 1)) news news') (h : ∀ h', Fr h₀ L h' m → News h₀ L h' news' → Q () { s with heap := h' }) :
    wpAny (model prog w) A (delItem (.ref D) (.int 0 u)) Q E s :=
  delItem_K (k := 0) F N (by decide) (by simp [seqIndex?]) rfl (by simp only [List.length_cons]; omega) U h
theorem del_last1 {D : Addr} {vm : List Value} {x : Value} {n : Nat} {u : Tok} {Q : Unit → Shared → Prop} (F : Fr h₀ L s.heap m) (N : News h₀ L s.heap news) (hl : vm.length < 5000)
    (U : Upd D (lsO (vm ++ [x]) n) (lsO vm (n + 1)) news news') (h : ∀ h', Fr h₀ L h' m → News h₀ L h' news' → Q () { s with heap := h' }) :
    wpAny (model prog w) A (delItem (.ref D) (.int (-1) u)) Q E s :=
  have e : (vm ++ [x]).length = vm.length + 1 := by simp
  delItem_K (k := vm.length) F N (by decide) (by rw [e, seqIndex_neg (by decide) (by omega)]; congr 1; omega) (by rw [List.eraseIdx_append_of_length_le (Nat.le_refl _)]; simp) (by omega) U h
theorem del_last2 {D : Addr} {vm : List Value} {x y : Value} {n : Nat} {u : Tok} {Q : Unit → Shared → Prop} (F : Fr h₀ L s.heap m) (N : News h₀ L s.heap news) (hl : vm.length < 4000)
    (U : Upd D (lsO (y :: (vm ++ [x])) n) (lsO (y :: vm) (n + 1)) news news') (h : ∀ h', Fr h₀ L h' m → News h₀ L h' news' → Q () { s with heap := h' }) :
    wpAny (model prog w) A (delItem (.ref D) (.int (-1) u)) Q E s :=
  del_last1 (vm := y :: vm) F N (by simp only [List.length_cons]; omega) U h
end
local macro_rules | `(tactic| walk_at "call builtin:str.split") => `(tactic| (k_here; refine Here.out ?_))
local macro_rules | `(tactic| walk_at "truthy str") => `(tactic| (k_here; refine' truthy_strK ?hx ?_; (case hx => first | assumption | omega); intro tk'))
local macro_rules | `(tactic| walk_at "exec For Name Name cons nil") => `(tactic| (k_here; k_dflt (refine For_go ?_)))
local macro_rules | `(tactic| walk_at "call builtin:len") => `(tactic| (k_here; (with_reducible show wpAny _ _ (call (Value.builtin "len") [Value.ref _]) _ _ _); refine' len_K ?l ?n ?f ?_; (case l => is_list); (case n => ((simp only [List.length_cons, List.length_append, List.length_nil]); exact rfl)); (case f => omega); k_whole; intro t' tk'))
local macro_rules | `(tactic| walk_at "subscriptTail Name UnaryOp ref int") => `(tactic| (k_here; first | (refine' item_last1 ?l ?f ?_; (case l => is_list); (case f => omega); k_whole) | (refine' item_last2 ?l ?f ?_; (case l => is_list); (case f => omega); k_whole)))
local macro_rules | `(tactic| walk_at "delItem ref int") => `(tactic| (k_here; first
  | (refine' del_first ?F ?N ?f ?U ?_; (case F => k_asm); (case N => k_asm); (case U => k_upd); (case f => ((try simp only [List.length_cons, List.length_append, List.length_nil]); omega)); k_whole; intro h' F' N'; (try k_sweep))
  | (refine' del_last1 ?F ?N ?f ?U ?_; (case F => k_asm); (case N => k_asm); (case U => k_upd); (case f => omega); k_whole; intro h' F' N'; (try k_sweep))
  | (refine' del_last2 ?F ?N ?f ?U ?_; (case F => k_asm); (case N => k_asm); (case U => k_upd); (case f => omega); k_whole; intro h' F' N'; (try k_sweep))))
theorem ell_false1 {f g b : Str} {mid : List Str} (hf : 0 < f.length) (h : Txt.startswith b f = false) : false = ellDots f mid g b := by
  unfold ellDots
  rw [h, show decide (f.length = 0) = false from decide_eq_false (by omega)]
  simp
theorem ell_false2 {f g b : Str} {mid : List Str} (hg : 0 < g.length) (h : Txt.endswith b g = false) : false = ellDots f mid g b := by
  unfold ellDots
  rw [h, show decide (g.length = 0) = false from decide_eq_false (by omega)]
  simp
theorem ell_false3 {f g b : Str} {mid : List Str} (h : (b.length : Int) - g.length < f.length) : false = ellDots f mid g b := by
  unfold ellDots
  rw [show decide ((f.length : Int) ≤ (b.length : Int) - g.length) = false from decide_eq_false (by omega)]
  simp
theorem findV_of {x y : Str} {lo hi : Int} : (findV x y lo hi < 0 ∧ findIn x y lo hi = none) ∨ (∃ k : Nat, findV x y lo hi = (k : Int) ∧ findIn x y lo hi = some k) := by
  unfold findV
  cases findIn x y lo hi with
  | none => exact .inl ⟨by decide, rfl⟩
  | some k => exact .inr ⟨k, rfl, rfl⟩
theorem findIn_le {x y : Str} {lo hi : Int} {k : Nat} (h : findIn x y lo hi = some k) : k ≤ x.length := by
  exact findIn_leP h
local macro_rules | `(tactic| walk_at "call builtin:str.find") => `(tactic| (k_here; refine' find4 ?a ?b ?_; (case a => first | assumption | omega); (case b => first | assumption | omega); intro tk' t'))
/-- both ways of a statement meet in one word -/
theorem stmtCut {M : Model} {A : Around} {X : Sem Flow} {Q : Flow → Shared → Prop} {E : Value → Shared → Prop} {s : Shared} {h₀ : Heap} {L : Addr} (J : (Str → Option Value) → List (Addr × Obj) → Prop)
    (h1 : ∀ K : Flow → Shared → Prop, (∀ h' tk m' news', Fr h₀ L h' m' → News h₀ L h' news' → J m' news' → K .next { s with heap := h', toks := tk }) → (∀ v s', Q (.ret v) s' → K (.ret v) s') → wpAny M A X K E s)
    (h2 : ∀ h' tk m' news', Fr h₀ L h' m' → News h₀ L h' news' → J m' news' → Q .next { s with heap := h', toks := tk }) : wpAny M A X Q E s := h1 Q h2 fun _ _ h => h
/-- the words and the marks, on the way -/
inductive EJ (f g b : Str) (tb : Tok) (l1 : Addr) (hi : Int) (ws : List Str) (P : Prop) (ex : List Value) (m' : Str → Option Value) : List (Addr × Obj) → Prop
  | mk (tl te : Tok) (us : List Value) (n : Nat) (e1 : m' (Str.ofString "startpos") = some (.int (f.length : Int) tl)) (e2 : m' (Str.ofString "endpos") = some (.int hi te)) (e3 : m' (Str.ofString "got") = some (.str b tb)) (e4 : m' (Str.ofString "ws") = some (.ref l1)) (hu : LR StrV ws us) (hp : P) :
    EJ f g b tb l1 hi ws P ex m' [(l1, lsO (us ++ ex) n)]
inductive EL (b : Str) (tb : Tok) (l1 : Addr) (hi lo0 : Int) (ws : List Str) (us : List Value) (n : Nat) (i : Nat) (m' : Str → Option Value) : List (Addr × Obj) → Prop
  | mk (lo : Int) (tl te : Tok) (e1 : m' (Str.ofString "startpos") = some (.int lo tl)) (e2 : m' (Str.ofString "endpos") = some (.int hi te)) (e3 : m' (Str.ofString "got") = some (.str b tb)) (h1 : 0 ≤ lo) (h2 : lo ≤ 3000) (h3 : ellLoop b hi lo (ws.drop i) = ellLoop b hi lo0 ws) :
    EL b tb l1 hi lo0 ws us n i m' [(l1, lsO us n)]
section
local macro_rules | `(tactic| walk_at "exec If") => `(tactic| (k_here; refine Here.out ?_))
theorem ell_dots {w : World} {A : Around} {s : Shared} {E : Value → Shared → Prop} {a b : Str} {ta tb : Tok} (R : Rm A 1) (W : Wd w s.heap) (la : a.length < 1000) (lb : b.length < 1000)
    {f g : Str} {mid : List Str} (hdot : (Builtin.Str.occurrences a (Str.ofString "...") 0 a.length 1).isEmpty = false) (hs : Txt.split a (Str.ofString "...") = f :: (mid ++ [g])) (lf : f.length < 1000) (lg : g.length < 1000) (lm : mid.length < 1000) (lw : ∀ x ∈ mid, x.length < 1000) :
  wpAny (model PySem.Challenge.rw_ti0023_01.row.prog w) A (call (.ref 21) [.str a ta, .str b tb]) (Out s fun v _ => v = .bool (ellDots f mid g b)) E s := by
  revert W; obtain ⟨hnd, dp, fr, gd, un⟩ := A; obtain ⟨rfl, hdp, hun⟩ := R; dsimp only at hdp hun
  intro W; have X := W.X; revert X; k_fill; intro X; obtain ⟨p, loose, mean, mg, mb, T⟩ := W.T
  refine enterP (binds := [(PySem.Str.ofString "want", .str a ta), (PySem.Str.ofString "got", .str b tb)]) X T (by k_is) (by k_is) (by show dp < 1000; omega) (BindsTo.of_eq rfl) (locs rfl) rfl rfl rfl (by decide) ?_
  intro L' h' tk' F' N'
  (try dsimp only [List.reverse_cons, List.reverse_nil, List.nil_append, List.cons_append] at F')
  refine wpK ?_
  intro K0 hK0
  k_steps
  refine Here.in (PySem.wpAny_If ?_)
  k_steps
  refine Here.in ?_
  refine split_two F' N' hs la ?_
  intro l1 t1 vm t2 h1 tk1 hLR F1 N1 hne1
  clear N' F'
  have hlen := hLR.length
  k_steps
  refine Here.in ?_
  (rename Fr _ _ _ _ => F2); (rename News _ _ _ _ => N2)
  refine stmtCut (h₀ := s.heap) (L := L') (EJ f g b tb l1 (b.length : Int) ((if f.length = 0 then [f] else []) ++ mid) (f.length = 0 ∨ Txt.startswith b f = true) [.str g t2]) ?_ ?_
  · intro K hK hR
    refine PySem.wpAny_If ?_
    rcases Nat.eq_zero_or_pos f.length with hf | hf
    · k_steps
      refine hK _ _ _ _ (by assumption) (fun p hp => N2 p (by first | exact hp | exact .tail _ hp)) (.mk _ _ (.str f t1 :: vm) _ (by rw [hf]; rfl) rfl rfl rfl (by rw [if_pos hf]; exact .cons ⟨_, rfl⟩ hLR) (.inl hf))
    · k_steps
      refine Here.in (PySem.wpAny_If ?_)
      k_steps
      · (rename News _ _ _ _ => N5)
        refine hK _ _ _ _ (by assumption) (fun p hp => N5 p (.tail _ hp)) (.mk _ _ vm _ rfl rfl rfl rfl (by rw [if_neg (Nat.ne_of_gt hf)]; exact hLR) (.inr (by assumption)))
      · refine hR _ _ ?_
        (refine hK0 _ _ ?_); exact endK (by assumption) (congrArg Value.bool (ell_false1 hf (by assumption)))
  · intro h3 tk3 m' news' F3 N3 hJ
    clear F2 N2
    obtain ⟨tl, te, us, n1, e1, e2, e3, e4, hu, hpf⟩ := hJ
    have F4 := know4 F3 e1 e2 e3 e4
    have hul : us.length < 4000 := by
      rw [hu.length, List.length_append]
      split <;> simp <;> omega
    clear F3
    k_steps
    refine Here.in ?_
    (rename Fr _ _ _ _ => F2); (rename News _ _ _ _ => N2)
    refine stmtCut (h₀ := s.heap) (L := L') (EJ f g b tb l1 ((b.length : Int) - g.length) ((if f.length = 0 then [f] else []) ++ mid ++ (if g.length = 0 then [g] else [])) (g.length = 0 ∨ Txt.endswith b g = true) []) ?_ ?_
    · intro K hK hR
      refine PySem.wpAny_If ?_
      rcases Nat.eq_zero_or_pos g.length with hg | hg
      · k_steps
        refine hK _ _ _ _ (by assumption) (fun p hp => N2 p (by simpa using hp)) (.mk _ _ (us ++ [.str g t2]) _ rfl (by rw [show (b.length : Int) - (g.length : Int) = b.length by omega]; rfl) rfl rfl (by rw [if_pos hg]; exact hu.append (.cons ⟨_, rfl⟩ .nil)) (.inl hg))
      · k_steps
        refine Here.in (PySem.wpAny_If ?_)
        k_steps
        · (rename News _ _ _ _ => N5)
          refine hK _ _ _ _ (by assumption) (fun p hp => N5 p (by simpa using hp)) (.mk _ _ us _ rfl rfl rfl rfl (by rw [if_neg (Nat.ne_of_gt hg), List.append_nil]; exact hu) (.inr (by assumption)))
        · refine hR _ _ ?_
          (refine hK0 _ _ ?_); exact endK (by assumption) (congrArg Value.bool (ell_false2 hg (by assumption)))
    · intro h5 tk5 m' news' F3 N3 hJ
      clear F2 N2
      obtain ⟨tl, te, us2, n2, e1, e2, e3, e4, hu2, hpg⟩ := hJ
      have F4 := know4 F3 e1 e2 e3 e4
      rw [List.append_nil] at N3
      clear F3
      k_steps
      refine Here.in (PySem.wpAny_If ?_)
      k_steps
      · (refine hK0 _ _ ?_); exact endK (by assumption) (congrArg Value.bool (ell_false3 (by omega)))
      (rename Fr _ _ _ _ => F2); (rename News _ _ _ _ => N2)
      rename ¬ _ => hle
      have hfin := ell_fin (mid := mid) hpf hpg (by omega)
      have hWl : ∀ x ∈ ((if f.length = 0 then [f] else []) ++ mid ++ (if g.length = 0 then [g] else [])), x.length < 1000 := by
        intro x hx
        rcases List.mem_append.mp hx with hx | hx
        · rcases List.mem_append.mp hx with hx | hx
          · split at hx
            · rw [List.mem_singleton.mp hx]; exact lf
            · exact nomatch hx
          · exact lw x hx
        · split at hx
          · rw [List.mem_singleton.mp hx]; exact lg
          · exact nomatch hx
      generalize ((if f.length = 0 then [f] else []) ++ mid ++ (if g.length = 0 then [g] else [])) = ws at *
      refine LoopGo.list (l := l1) (vs := us2) (h₀ := s.heap) (news := [(l1, lsO us2 n2)]) (EL b tb l1 ((b.length : Int) - g.length) (f.length : Int) ws us2 n2) rfl F2 N2 (fun _ _ => rfl) (.mk _ _ _ rfl rfl rfl (by omega) (by omega) rfl) ?_ ?_ ?_
      · rintro i m' n' ⟨⟩; exact .inr ⟨_, .head _, rfl, _, rfl⟩
      · intro i v m₁ news₁ I sh oI hv hJ hne F3 N3 K hK eS
        obtain ⟨lo, tl, te, e1, e2, e3, h1, h2, h3⟩ := hJ
        obtain ⟨x, hx, tx, rfl⟩ := hu2.get i v hv
        have lx : x.length < 1000 := hWl x (List.mem_of_getElem? hx)
        have F4 := know3 F3 e1 e2 e3
        clear F2 N2 F3
        rw [drop_of_get hx] at h3
        rcases findV_of (x := b) (y := x) (lo := lo) (hi := (b.length : Int) - g.length) with ⟨h4, h5⟩ | ⟨k, h4, h5⟩
        · have hv : false = ellDots f mid g b := by rw [hfin, ← h3, ellLoop, h5]
          k_steps
          refine Here.in (PySem.wpAny_If ?_)
          k_steps
          (refine hK _ _ ?_); refine LPost.ret ?_
          (refine hK0 _ _ ?_)
          rw [eS.eq]
          exact endK (by assumption) (congrArg Value.bool hv)
        · have h6 := findIn_le h5
          k_steps
          refine Here.in (PySem.wpAny_If ?_)
          k_steps
          (refine hK _ _ ?_); exact LPost.end (by assumption) (by assumption) [(l1, lsO us2 n2)] (by kcf_all) hne (.mk _ _ _ rfl rfl rfl (by omega) (by omega) (by rw [← h3, ellLoop, h5, h4]))
      · intro h' tk' m' n' F4 N4 hJ
        obtain ⟨lo, tl, te, e1, e2, e3, h1, h2, h3⟩ := hJ
        rw [hu2.length, List.drop_length] at h3
        have hv : true = ellDots f mid g b := by rw [hfin, ← h3, ellLoop]
        k_steps
        (refine hK0 _ _ ?_); exact endK (by assumption) (congrArg Value.bool hv)
end
theorem ell_plain {w : World} {A : Around} {s : Shared} {E : Value → Shared → Prop} {a b : Str} {ta tb : Tok} (R : Rm A 1) (W : Wd w s.heap)
    (hdot : (Builtin.Str.occurrences a (Str.ofString "...") 0 a.length 1).isEmpty = true) :
  wpAny (model PySem.Challenge.rw_ti0023_01.row.prog w) A (call (.ref 21) [.str a ta, .str b tb]) (Out s fun v _ => v = .bool (a == b)) E s := by
  revert W; obtain ⟨hnd, dp, fr, gd, un⟩ := A; obtain ⟨rfl, hdp, hun⟩ := R; dsimp only at hdp hun
  intro W; have X := W.X; revert X; k_fill; intro X; obtain ⟨p, loose, mean, mg, mb, T⟩ := W.T
  refine enterP (binds := [(PySem.Str.ofString "want", .str a ta), (PySem.Str.ofString "got", .str b tb)]) X T (by k_is) (by k_is) (by show dp < 1000; omega) (BindsTo.of_eq rfl) (locs rfl) rfl rfl rfl (by decide) ?_
  intro L' h' tk' F' N'
  (try dsimp only [List.reverse_cons, List.reverse_nil, List.nil_append, List.cons_append] at F')
  k_steps
  all_goals (exact endK (by assumption) rfl)

end Mine
namespace Mine
local macro_rules | `(tactic| omega) => `(tactic| first | assumption | exact Nat.ne_of_lt (by assumption) | exact Nat.ne_of_gt (by assumption) | exact Nat.le_of_lt (by assumption) | lia | omega (config := {}))
theorem split_join {ps : List Str} (h : 2 ≤ ps.length) (hd : ∀ p ∈ ps, Dotless p) : Txt.split (Str.join dots ps) dots = ps := by
  exact split_joinP h hd
theorem occ_join {ps : List Str} (h : 2 ≤ ps.length) : (Builtin.Str.occurrences (Str.join dots ps) dots 0 (Str.join dots ps).length 1).isEmpty = false := by
  exact occ_joinP h
theorem occ_dotless {x : Str} (h : Dotless x) : (Builtin.Str.occurrences x dots 0 x.length 1).isEmpty = true := by
  exact occ_dotlessP h
theorem join_len {ps : List Str} {B : Nat} (hb : ∀ p ∈ ps, p.length ≤ B) : (Str.join dots ps).length ≤ ps.length * (B + 3) := by
  exact join_lenP hb

end Mine
namespace Mine
local macro_rules | `(tactic| omega) => `(tactic| first | assumption | exact Nat.ne_of_lt (by assumption) | exact Nat.ne_of_gt (by assumption) | exact Nat.le_of_lt (by assumption) | lia | omega (config := {}))
namespace LR
variable {α : Type} {R : α → Value → Prop}
theorem item {as : List α} {vs : List Value} (h : LR R as vs) : ∀ (i : Nat) (a : α), as[i]? = some a → ∃ v, vs[i]? = some v ∧ R a v := by
  induction h with
  | nil => intro i v e; simp at e
  | cons h _ ih =>
    intro i v e
    cases i with
    | zero => simp at e; subst e; exact ⟨_, rfl, h⟩
    | succ i => simpa using ih i v (by simpa using e)
theorem strsAre {xs : List Str} {vs : List Value} (h : LR StrV xs vs) : StrsAre vs xs := by
  induction h with
  | nil => exact .nil
  | cons h _ ih => obtain ⟨t, rfl⟩ := h; exact .cons _ _ ih
theorem map {β : Type} {S : β → Value → Prop} {f : α → β} {as : List α} {vs : List Value} (h : LR R as vs) (k : ∀ a v, R a v → S (f a) v) : LR S (as.map f) vs := by
  induction h with
  | nil => exact .nil
  | cons h _ ih => exact .cons (k _ _ h) ih
end LR
section
variable {prog : Program} {w : World} {A : Around} {E : Value → Shared → Prop} {s : Shared} {h₀ : Heap} {L : Addr} {m : Str → Option Value} {news news' : List (Addr × Obj)} {Q : Value → Shared → Prop}
theorem add_K {l b : Addr} {vs ws : List Value} (F : Fr h₀ L s.heap m) (N : News h₀ L s.heap news) (hl : s.heap.IsList l vs.toArray) (hb : s.heap.IsList b ws.toArray) (lv : vs.length < 10000) (lw : ws.length < 10000)
    (h : ∀ a h', Fr h₀ L h' m → News h₀ L h' ((a, lsO (vs ++ ws) 0) :: news) → (∀ p ∈ news, p.1 < a) → Q (.ref a) { s with heap := h' }) :
    wpAny (model prog w) A (binaryOp .Add (.ref l) (.ref b)) Q E s :=
  add_lists F N hl hb (fun h' F' N' => h _ h' F' N' fun p hp => Heap.lt_size (N p hp).1) (by rw [sizeLine_eq]; omega)
theorem join_K {l : Addr} {x : Str} {t : Tok} {vs : List Value} {ys : List Str} (hl : s.heap.IsList l vs.toArray) (hv : LR StrV ys vs) (hy : ∀ y ∈ ys, y.length ≤ 1000) (hn : ys.length < 1000) (hx : x.length ≤ 10)
    (h : ∀ t' k, Q (.str (Str.join x ys) t') { s with toks := k }) : wpAny (model prog w) A (call (.builtin "str.join") [.str x t, .ref l]) Q E s := by
  refine join_list hl (by simpa using hv.strsAre) ?_ (fun t' k => by unfold Txt.join; rw [StrLaws.glued_eq_join]; exact h t' k)
  have := StrLaws.sumLen_le ys hy
  have h2 : ys.length * x.length ≤ ys.length * 10 := Nat.mul_le_mul_left _ hx
  omega
theorem item_LR {α : Type} {R : α → Value → Prop} {as : List α} {value slice : Expr} {l : Addr} {vs : List Value} {k : Nat} {a : α} {u : Tok} (hl : s.heap.IsList l vs.toArray) (hv : LR R as vs) (hk : as[k]? = some a) (hn : as.length < 10000)
    (h : ∀ v, R a v → Q v s)
    (hs : subscripted slice false (.ref l) (.int (k : Int) u) = operate [.ref l, .int (k : Int) u] (getItem (.ref l) (.int (k : Int) u)) := by with_unfolding_all rfl) (hg : ∀ r, letTemporaryGo value (.ref l) r = pure () := by intro _; with_unfolding_all rfl) :
    wpAny (model prog w) A (subscriptTail value slice (.ref l) (.int (k : Int) u)) Q E s := by
  obtain ⟨v, e, hR⟩ := hv.item k a hk
  have hlt : k < as.length := (List.getElem?_eq_some_iff.mp hk).1
  exact item_listL hl (by omega) (by omega) (by simpa using e) (h v hR) hs hg
end
theorem sgs_get {b k : Nat} (h : k < 8) : (sgs b)[k]? = some (sg b k) := by
  unfold sgs
  simp [h]

end Mine
namespace Mine
local macro_rules | `(tactic| omega) => `(tactic| first | assumption | exact Nat.ne_of_lt (by assumption) | exact Nat.ne_of_gt (by assumption) | exact Nat.le_of_lt (by assumption) | lia | omega (config := {}))
section
variable {prog : Program} {w : World} {A : Around} {s : Shared} {K : Frag} {p : Program} {loose : List Str} {mean : ExcName → Option Value} {mg mb : Str → Option Value}
  {Q : Value → Shared → Prop} {E : Value → Shared → Prop} {name qual : Str} {params : Arguments} {body : List Stmt} {scope : Scope} {dV kV doc pm cdv ct oc : Value} {an od : Option Addr} {osl : Array (Option Value)} {f : Addr} {args : List Value} {binds : List (Str × Value)}
/-- entering a def that has cells: the caller's whole heap is the base -/
theorem enterC (X : K.In s.heap) (T : Top p loose mean mg mb s.heap)
    (ho : K.lookup f = some ⟨oc, od, .func (fnX name qual params body scope [] dV kV doc pm an cdv ct), osl⟩) (hcd : codeIn K cdv qual = true) (hroom : A.depth < recursionLimit)
    (hbind : BindsTo s (fnX name qual params body scope [] dV kV doc pm an cdv ct) ⟨args, []⟩ binds)
    (hkind : (binds.all fun y => scope.names.lookup y.1 == some .local || scope.names.lookup y.1 == some .cell) = true)
    (hnd : ((cellsFrom 0 scope.names []).map (·.1)).Nodup)
    (hco : scope.isCoroutine = false) (hgen : scope.isGenerator = false) (hk : scope.kind = .function)
    (h : ∀ L h₁ tk cells, Fr s.heap L h₁ (bindL (envOfC qual scope L f cdv).kindOf binds fun _ => none) → News s.heap L h₁ cells →
      CellsAre (bindC (envOfC qual scope L f cdv).kindOf binds fun _ => none) (cellsFrom (L + 1) scope.names []) cells →
      wpAny (model prog w) (A.deeper (envOfC qual scope L f cdv)) (execs body (envOfC qual scope L f cdv))
        (fun fl s' => Q (match fl with | .ret v => v | _ => .none) s') (fun _ _ => False) { s with heap := h₁, toks := tk }) :
    wpAny (model prog w) A (call (.ref f) args) Q E s := by
  refine wpAny_call (codeAny_call_function hroom (X _ _ ho) rfl hco hgen rfl (codeRec_of X hcd) (hbind _ _ _ _ ?_))
  refine wpAny_newFunctionEnv_cells hk (kindsX hkind _) fun env' he s' x => ?_
  subst he
  refine ⟨T.nolimit.keeps x.toInCall.keep, codeAny_func ?_⟩
  obtain ⟨h₁, tk, rfl, _⟩ := x.done
  have hk₁ := x.toInCall.keep
  obtain ⟨cells, NC, Y⟩ := Cl.news (h₀ := s.heap) (Nat.le_refl _) fun n c hm => ⟨x.cell n c (lookup_of_mem_nodup (cellsFrom_names scope.names 0 (s.heap.objs.size + 1) [] [] rfl ▸ hnd) hm), x.above n c hm⟩
  exact wpAny_mono (h s.heap.objs.size h₁ tk cells ⟨x.toInCall.ns, hk₁, Nat.le_refl _⟩ NC Y) (fun fl s' hl => hl) fun _ _ y => y.elim
end
local macro_rules | `(tactic| walk_at "eval ListComp") => `(tactic| (k_here; refine Here.out ?_))
local macro_rules | `(tactic| walk_at "CompSrc") => `(tactic| (k_here; refine Here.out ?_))
local macro_rules | `(tactic| walk_at "binaryOp Add ref ref") => `(tactic| (k_here; refine' add_K ?F ?N ?l ?b ?v ?w ?_; (case F => k_asm); (case N => k_asm); (case l => first | is_list | exact News.isList (by k_asm) (by k_mem)); (case b => first | is_list | exact News.isList (by k_asm) (by k_mem)); (case v => ((try simp only [List.length_cons, List.length_append, List.length_nil]); omega)); (case w => ((try simp only [List.length_cons, List.length_append, List.length_nil]); omega)); k_whole; intro a' h' F' N' l1; (try k_lt l1)))
local macro_rules | `(tactic| walk_at "call ref") => `(tactic| (k_here; refine Here.out ?_))
/-- the signs asked for, dots about and between -/
def wantOf (b : Nat) (rk : List Nat) : List Str := Str.ofString "" :: (rk.map (sg b) ++ [Str.ofString ""])
theorem wantOf_dotless {b : Nat} (hb : 48 ≤ b) (rk : List Nat) : ∀ p ∈ wantOf b rk, Dotless p := by
  intro p hp
  simp only [wantOf, List.mem_cons, List.mem_append, List.mem_map, List.not_mem_nil, or_false] at hp
  have h0 : Dotless (Str.ofString "") := by unfold Dotless; decide
  rcases hp with rfl | ⟨k, _, rfl⟩ | rfl
  · exact h0
  · exact sg_dotless hb
  · exact h0
theorem wantOf_len {b : Nat} (rk : List Nat) : ∀ p ∈ wantOf b rk, p.length ≤ 1 := by
  intro p hp
  simp only [wantOf, List.mem_cons, List.mem_append, List.mem_map, List.not_mem_nil, or_false] at hp
  have h0 : (Str.ofString "").length ≤ 1 := by decide
  rcases hp with rfl | ⟨k, _, rfl⟩ | rfl
  · exact h0
  · rw [sg_len]; omega
  · exact h0
theorem found_spec {w : World} {A : Around} {s : Shared} {E : Value → Shared → Prop} {b : Nat} {sa ra : Addr} {sv rv : List Value} {rk : List Nat} {x : Str} {tx : Tok} (R : Rm A 3) (W : Wd w s.heap) (hb : 48 ≤ b)
    (hs : s.heap.IsList sa sv.toArray) (hsv : LR StrV (sgs b) sv) (hr : s.heap.IsList ra rv.toArray) (hrv : LR (fun (k : Nat) v => IntV k v) rk rv) (hrk : ∀ k ∈ rk, k < 8) (hrl : rk.length < 10) (lx : x.length < 1000) :
  wpAny (model PySem.Challenge.rw_ti0023_01.row.prog w) A (call (.ref 127) [.ref sa, .ref ra, .str x tx]) (Out s fun v _ => v = .bool (ellDots (Str.ofString "") (rk.map (sg b)) (Str.ofString "") x)) E s := by
  revert W; obtain ⟨hnd, dp, fr, gd, un⟩ := A; obtain ⟨rfl, hdp, hun⟩ := R; dsimp only at hdp hun
  intro W; have X := W.X; revert X; k_fill; intro X; obtain ⟨p, loose, mean, mg, mb, T⟩ := W.T
  refine enterC (binds := [(Str.ofString "signs", .ref sa), (Str.ofString "ranks", .ref ra), (Str.ofString "text", .str x tx)]) X T (by k_is) (by k_is) (by show dp < 1000; omega) (BindsTo.of_eq rfl) rfl (by decide) rfl rfl rfl ?_
  intro L' h' tk' cells F' N' Y'
  k_cells Y'
  (try simp only [List.cons_append, List.nil_append] at N')
  k_steps
  refine Here.in ?_
  (rename News _ _ _ _ => N1); (rename Fr _ _ _ _ => F1)
  refine LCg.ListComp_U (F₀ := F1) (by with_unfolding_all rfl) (by decide) (by rfl) (by decide) (by rfl) ?_
  k_steps
  refine Here.in ?_
  (rename News _ _ _ _ => N2); (rename Fr _ _ _ _ => F2)
  refine LCg.CompSrc.base rfl F2 N2 hr (by rw [sizeLine_eq, List.size_toArray, hrv.length]; omega) ?_
  intro g'
  rw [show rv.toArray.size = rk.length by rw [List.size_toArray, hrv.length]]
  refine rest_map (g := fun (k : Nat) t => .int (k : Int) t) (R' := StrV) (as := rk) (sg b) (Or.inl hr) (fun i v _ hv => hrv.get i v (by simpa using hv)) ?_ ?_
  · intro k t I oI C oC D m₂ ys sh E' hk hC hx F N off ne K hK
    have hk8 := hrk k hk
    k_steps
    refine item_LR (by exact hs.at fun o e => F.keep _ _ e) hsv (sgs_get hk8) (by simp [sgs]) ?_
    intro v hv
    (refine hK _ _ ?_); exact CEnd.intro F N (fun p hp => hp) hv
  · intro ys hys
    have hyl : ys.length = rk.length := by rw [hys.length, List.length_map]
    k_steps
    (rename News _ _ _ _ => N3)
    refine join_K (News.isList N3 (.head _)) (ys := wantOf b rk) (show LR StrV _ (Value.str _ _ :: (ys ++ [_])) from .cons ⟨_, rfl⟩ (hys.append (.cons ⟨_, rfl⟩ .nil))) (fun y hy => Nat.le_trans (wantOf_len rk y hy) (by decide)) (by simp only [wantOf, List.length_cons, List.length_append, List.length_map, List.length_nil]; omega) (by decide) ?_
    intro tj kj
    k_steps
    refine Here.in ?_
    (rename News _ _ _ _ => N4); (rename Fr _ _ _ _ => F4)
    have hw2 : 2 ≤ (wantOf b rk).length := by simp only [wantOf, List.length_cons, List.length_append, List.length_map, List.length_nil]; omega
    have hjl := join_len (wantOf_len (b := b) rk)
    have hwl : (wantOf b rk).length = rk.length + 2 := by simp only [wantOf, List.length_cons, List.length_append, List.length_map, List.length_nil]
    rw [hwl] at hjl
    refine useB (ell_dots (rmK hdp hun (by decide)) (W.keeps F4.keep) (by show (Str.join dots (wantOf b rk)).length < 1000; omega) lx (occ_join hw2) (split_join hw2 (wantOf_dotless hb rk)) (by decide) (by decide) (by rw [List.length_map]; omega) (fun y hy => ?_)) F4 N4 ?_
    · obtain ⟨k, _, rfl⟩ := List.mem_map.mp hy
      rw [sg_len]; omega
    intro h5 tk5 F5 N5
    k_steps
    exact endK (by assumption) rfl

end Mine
namespace Mine
local macro_rules | `(tactic| omega) => `(tactic| first | assumption | exact Nat.ne_of_lt (by assumption) | exact Nat.ne_of_gt (by assumption) | exact Nat.le_of_lt (by assumption) | lia | omega (config := {}))
theorem ell_subq {b : Nat} {rk r : List Nat} : ellDots (Str.ofString "") (rk.map (sg b)) (Str.ofString "") (strOf b r) = subq rk r := by
  exact ell_subqP
theorem ell_same {b : Nat} {r r' : List Nat} {f g : Str} {mid : List Str} (h : r.map (sg b) = f :: (mid ++ [g])) (hl : r.length = r'.length) : ellDots f mid g (strOf b r') = decide (r = r') := by
  exact ell_sameP h hl
theorem strOf_eq {b : Nat} {r r' : List Nat} : (strOf b r == strOf b r') = decide (r = r') := by
  exact strOf_eqP
theorem join_signs {b : Nat} {r : List Nat} : Str.join (Str.ofString "") (r.map (sg b)) = strOf b r := by
  exact join_signsP
theorem split2 {α : Type} {l : List α} (h : 2 ≤ l.length) : ∃ f mid g, l = f :: (mid ++ [g]) := by
  match l, h with
  | f :: t, h =>
    have ht : t ≠ [] := by intro e; subst e; simp at h
    exact ⟨f, t.dropLast, t.getLast ht, by rw [List.dropLast_concat_getLast ht]⟩
theorem signs_strOf {b : Nat} {r : List Nat} : PyProof.Rows.signs (strOf b r) = r.map (sg b) := by
  simp [PyProof.Rows.signs, strOf, sg, Function.comp_def]
theorem joinS_K {prog : Program} {w : World} {A : Around} {E : Value → Shared → Prop} {s : Shared} {h₀ : Heap} {L : Addr} {m : Str → Option Value} {news : List (Addr × Obj)} {Q : Value → Shared → Prop} {b : Nat} {r : List Nat} {x : Str} {t u : Tok}
    (hh : A.handled = none) (F : Fr h₀ L s.heap m) (N : News h₀ L s.heap news) (hr : r.length < 1000) (hx : x.length ≤ 10)
    (h : ∀ h' k t', Fr h₀ L h' m → News h₀ L h' news → Q (.str (Str.join x (r.map (sg b))) t') { s with heap := h', toks := k }) :
    wpAny (model prog w) A (call (.builtin "str.join") [.str x t, .str (strOf b r) u]) Q E s := by
  refine PySem.SC.joinStr hh ?_ fun h' k t' hk => ?_
  · rw [signs_strOf]
    refine joinOk_of ?_
    have := StrLaws.sumLen_le (B := 1) (r.map (sg b)) (fun y hy => by obtain ⟨k, _, rfl⟩ := List.mem_map.mp hy; exact Nat.le_refl _)
    have h2 : r.length * x.length ≤ r.length * 10 := Nat.mul_le_mul_left _ hx
    rw [List.length_map] at *
    omega
  · rw [signs_strOf]
    unfold Txt.join; rw [StrLaws.glued_eq_join]
    exact h h' k t' (F.keeps hk) (N.grown hk)
theorem LR.drop {α : Type} {R : α → Value → Prop} {as : List α} {vs : List Value} (h : LR R as vs) : ∀ k, LR R (as.drop k) (vs.drop k) := by
  induction h with
  | nil => intro k; simp only [List.drop_nil]; exact .nil
  | cons h t ih =>
    intro k
    cases k with
    | zero => exact .cons h t
    | succ k => exact ih k
theorem LR.take {α : Type} {R : α → Value → Prop} {as : List α} {vs : List Value} (h : LR R as vs) : ∀ k, LR R (as.take k) (vs.take k) := by
  induction h with
  | nil => intro k; simp only [List.take_nil]; exact .nil
  | cons h t ih =>
    intro k
    cases k with
    | zero => exact .nil
    | succ k => exact .cons h (ih k)
theorem item_strOf {b r0 : Nat} {r : List Nat} : Txt.item (strOf b (r0 :: r)) 0 = sg b r0 := by
  exact item_strOfP
theorem concat_right {x : Str} : x ++ dots = Str.join dots [x, Str.ofString ""] := by
  exact concat_rightP
theorem concat_left {x : Str} : dots ++ x = Str.join dots [Str.ofString "", x] := by
  exact concat_leftP
theorem signAt_strOf {b : Nat} {r : List Nat} {i : Nat} {v : Value} (h : SignAt (strOf b r) i v) : ∃ k, r[i]? = some k ∧ StrV (sg b k) v := by
  obtain ⟨c, u, hc, rfl⟩ := h
  simp only [strOf, List.getElem?_toArray, List.getElem?_map] at hc
  cases hk : r[i]? with
  | none => rw [hk] at hc; cases hc
  | some k => rw [hk] at hc; simp at hc; subst hc; exact ⟨k, rfl, u, rfl⟩
theorem item_strOfL {b r0 z : Nat} {mid : List Nat} : Txt.item (strOf b (r0 :: (mid ++ [z]))) (-1) = sg b z := by
  exact item_strOfLP
theorem slice_take {b k : Nat} {r : List Nat} (h : k ≤ r.length) : Txt.slice (strOf b r) none (some (k : Int)) = strOf b (r.take k) := by
  exact slice_takeP h
theorem slice_mid {b r0 z : Nat} {mid : List Nat} : Txt.slice (strOf b (r0 :: (mid ++ [z]))) (some 1) (some (-1)) = strOf b mid := by
  exact slice_midP
theorem strOf_dotless {b : Nat} {r : List Nat} (hb : 48 ≤ b) : Dotless (strOf b r) := by
  unfold Dotless strOf
  simp only [List.mem_map, not_exists, not_and]
  intro x _ e
  omega

end Mine
namespace Mine
local macro_rules | `(tactic| omega) => `(tactic| first | assumption | exact Nat.ne_of_lt (by assumption) | exact Nat.ne_of_gt (by assumption) | exact Nat.le_of_lt (by assumption) | lia | omega (config := {}))
theorem in_boolsK {prog : Program} {w : World} {A : Around} {E : Value → Shared → Prop} {s : Shared} {l : Addr} {bs : List Bool} {b : Bool} {Q : Value → Shared → Prop} (hl : s.heap.IsList l (bs.map Value.bool).toArray)
    (h : Q (.bool (bs.any (· == b))) s) : wpAny (model prog w) A (compareOp .In (.bool b) (.ref l)) Q E s := by
  refine PySem.SeqAt.in_listAt (fun y => match y with | .bool c => c == b | _ => false) hl (fun y hy => ?_) ?_
  · obtain ⟨c, _, rfl⟩ := List.mem_map.mp (List.mem_toArray.mp hy)
    exact PySem.SeqAt.EqAt.bool_bool c b
  · rw [show (bs.map Value.bool).toArray.any (fun y => match y with | .bool c => c == b | _ => false) = bs.any (· == b) by simp [List.any_map, Function.comp_def]]
    exact h
section
local macro_rules | `(tactic| walk_at "compareOp In bool ref") => `(tactic| (k_here; refine Here.out ?_))
theorem contains_bool_spec {w : World} {A : Around} {s : Shared} {E : Value → Shared → Prop} {a : Addr} {bs : List Bool} {b : Bool} (R : Rm A 1) (W : Wd w s.heap)
  (ha : s.heap.IsList a (bs.map Value.bool).toArray) :
  wpAny (model PySem.Challenge.rw_ti0023_01.row.prog w) A (call (.ref 105) [.ref a, .bool b]) (Out s fun v _ => v = .bool (bs.any (· == b))) E s := by
  revert W; obtain ⟨hnd, dp, fr, gd, un⟩ := A; obtain ⟨rfl, hdp, hun⟩ := R; dsimp only at hdp hun
  intro W; have X := W.X; revert X; k_fill; intro X; obtain ⟨p, loose, mean, mg, mb, T⟩ := W.T
  refine enterP (binds := [(PySem.Str.ofString "a", .ref a), (PySem.Str.ofString "b", .bool b)]) X T (by k_is) (by k_is) (by show dp < 1000; omega) (BindsTo.of_eq rfl) (locs rfl) rfl rfl rfl (by decide) ?_
  intro L' h' tk' F' N'
  (try dsimp only [List.reverse_cons, List.reverse_nil, List.nil_append, List.cons_append] at F')
  k_steps
  refine Here.in ?_
  (rename Fr _ _ _ _ => F2)
  refine in_boolsK (ha.at fun o e => F2.keep _ _ e) ?_
  k_steps
  exact endK (by assumption) rfl
end
theorem l8n : ∀ q ∈ ([] : List Nat), q < 8 := fun _ h => nomatch h
theorem l8c {a : Nat} {l : List Nat} (h : a < 8) (t : ∀ q ∈ l, q < 8) : ∀ q ∈ a :: l, q < 8 := fun q hq => by
  rcases List.mem_cons.mp hq with rfl | hq
  · exact h
  · exact t q hq
theorem smallA {c d i : Nat} (hi : i ≤ 100) (hc : c ≤ 100) (hd : d ≤ 100) : Builtin.Range.small (c : Int) ((d : Int) + (i : Int)) 1 = true := small_one (by omega) (by omega) (by omega) (by omega)
theorem smallC {c d i : Nat} (hd : d ≤ 100) (hi : i ≤ 100) (hc : c ≤ 100 := by decide) : Builtin.Range.small ((d : Int) + (c : Int)) ((i : Int) + 1) 1 = true := small_one (by omega) (by omega) (by omega) (by omega)
theorem smallB {c i : Nat} (hi : i ≤ 100) (hc : c ≤ 100) : Builtin.Range.small (c : Int) ((i : Int) + 1) 1 = true := small_one (by omega) (by omega) (by omega) (by omega)
/-- the four cells of _law_pairs (low, high, before, signs) and its locals -/
inductive PJ (L : Addr) (n b : Nat) (r' : List Nat) (be sg : Value) (pre : List (Addr × Obj)) (Hi : Option Value → Prop) (m' : Str → Option Value) : List (Addr × Obj) → Prop
  | mk (t ta : Tok) (o1 o2 o3 o4 : Obj) (c1 c2 : Option Value) (e1 : m' (Str.ofString "size") = some (.int (n : Int) t)) (e2 : m' (Str.ofString "after") = some (.str (strOf b r') ta))
    (d1 : o1.data = .cell c1) (d2 : o2.data = .cell c2) (p2 : Hi c2) (d3 : o3.data = .cell (some be)) (d4 : o4.data = .cell (some sg)) :
    PJ L n b r' be sg pre Hi m' (pre ++ [(L + 1 + 1 + 1 + 1, o1), (L + 1 + 1 + 1, o2), (L + 1 + 1, o3), (L + 1, o4)])
theorem AllLt.same {d : Nat} : ∀ {l l' : List (Addr × Obj)}, AllLt d l → l'.map Prod.fst = l.map Prod.fst → AllLt d l'
  | [], [], _, _ => trivial
  | p :: l, q :: l', h, e => by
    simp only [List.map_cons, List.cons.injEq] at e
    exact ⟨e.1 ▸ h.1, AllLt.same h.2 e.2⟩
  | [], _ :: _, _, e => nomatch e
  | _ :: _, [], _, e => nomatch e
local macro_rules | `(tactic| walk_at "eval ListComp") => `(tactic| (k_here; refine Here.out ?_))
local macro_rules | `(tactic| walk_at "CompSrc") => `(tactic| (k_here; refine Here.out ?_))
local macro_rules | `(tactic| walk_at "call ref") => `(tactic| (k_here; refine Here.out ?_))
local macro_rules | `(tactic| walk_at "exec For Name Call cons nil") => `(tactic| (k_here; k_dflt (refine For_go ?_)))
local macro_rules | `(tactic| walk_at "call type:range") => `(tactic| (k_here; k_dflt (refine range2_rows (by assumption) (by assumption) ?_); refine Here.out ?_))
theorem pairs_spec {w : World} {A : Around} {s : Shared} {E : Value → Shared → Prop} {b n : Nat} {sa : Addr} {sv : List Value} {r r' : List Nat} {tx ty : Tok} (R : Rm A 4) (W : Wd w s.heap) (hb : 48 ≤ b)
    (hs : s.heap.IsList sa sv.toArray) (hsv : LR StrV (sgs b) sv) (hr : r.length = n) (hr' : r'.length = n) (hn : n = 5 ∨ n = 6)
    (hchk : ∀ high low, 2 ≤ high → high ≤ n → 1 ≤ low → low < high → subq [high, low] r' = (List.range' (high + 1) (n - high)).any fun more => subq [high, more, low] r)
    (hend : decide (r' = r) = decide (r = List.range' 1 n)) :
  wpAny (model PySem.Challenge.rw_ti0023_01.row.prog w) A (call (.ref 132) [.ref sa, .str (strOf b r) tx, .str (strOf b r') ty]) (Out s fun v _ => v = .bool true) E s := by
  revert W; obtain ⟨hnd, dp, fr, gd, un⟩ := A; obtain ⟨rfl, hdp, hun⟩ := R; dsimp only at hdp hun
  intro W; have X := W.X; revert X; k_fill; intro X; obtain ⟨p, loose, mean, mg, mb, T⟩ := W.T
  refine enterC (binds := [(Str.ofString "signs", .ref sa), (Str.ofString "before", .str (strOf b r) tx), (Str.ofString "after", .str (strOf b r') ty)]) X T (by k_is) (by k_is) (by show dp < 1000; omega) (BindsTo.of_eq rfl) rfl (by decide) rfl rfl rfl ?_
  intro L' h' tk' cells F' N' Y'
  k_cells Y'
  refine wpK ?_
  intro K0 hK0
  (try simp only [List.cons_append, List.nil_append] at N')
  have hrl : (strOf b r).length = n := by rw [strOf_len, hr]
  have hn5 : 5 ≤ n := by rcases hn with rfl | rfl <;> decide
  have hn6 : n ≤ 6 := by rcases hn with rfl | rfl <;> decide
  replace hn := Here.in hn
  replace hend := Here.in hend
  replace hchk := Here.in hchk
  k_steps
  refine Here.in ?_
  intro h1 tk1 t1 u1 v1 R1 F1 N1 K1
  rw [hrl] at R1 F1
  refine LoopGo.range (n := n - 1) (fun _ => PJ L' n b r' (.str (strOf b r) tx) (.ref sa) [] fun _ => True) rfl R1 (smallB (c := 2) (Nat.le_trans hn6 (by decide)) (by decide)) (by rw [rangeSize_nat]; omega) F1 N1 (fun _ _ => rfl) (.mk _ _ _ _ _ _ _ _ rfl rfl (by assumption) (by assumption) trivial (by assumption) (by assumption)) ?_ ?_
  · intro i k m₁ news₁ I sh oI hi hJ hne F3 N3 K hK eS
    obtain ⟨ts, ta, o1, o2, o3, o4, c1, c2, e1, e2, d1, d2, -, d3, d4⟩ := hJ
    have hi4 : i ≤ 4 := by omega
    have hi8 : i + 2 < 8 := by omega
    have n1 : @LT.lt Nat _ (L' + 1 + 1 + 1 + 1) I := hne.1
    replace N3 : News s.heap L' _ [(I, oI), (L' + 1 + 1 + 1 + 1, o1), (L' + 1 + 1 + 1, o2), (L' + 1 + 1, o3), (L' + 1, o4)] := N3
    have F4 := know2 F3 e1 e2
    clear F3 F1 N1
    k_steps
    refine Here.in ?_
    intro h2 tk2 t2 u2 v2 R2 F2 N2 K2
    (try k_steps)
    refine LoopGo.range (n := i + 1) (fun _ => PJ L' n b r' (.str (strOf b r) tx) (.ref sa) [(I, oI)] fun c => ∃ t, c = some (.int (((i + 2 : Nat)) : Int) t)) rfl R2 (smallA (c := 1) (d := 2) (Nat.le_trans hi4 (by decide)) (by decide) (by decide)) (by rw [rangeSize_nat]; omega) F2 N2 (fun _ _ => rfl) (.mk _ _ _ _ _ _ _ _ rfl rfl (by assumption) (by assumption) ⟨_, by rw [show (2 : Int) + (i : Int) = ((i + 2 : Nat) : Int) by omega]⟩ (by assumption) (by assumption)) ?_ ?_
    · intro j k m₁ news₁ I2 sh oI2 hj hJ hne F5 N5 K hK eS
      obtain ⟨ts, ta, o1, o2, o3, o4, c1, c2, e1, e2, d1, d2, ⟨th, rfl⟩, d3, d4⟩ := hJ
      have hj8 : j + 1 < 8 := by omega
      have n0 : @LT.lt Nat _ I I2 := hne.1
      have d2 : @LT.lt Nat _ (L' + 1 + 1 + 1 + 1) I2 := hne.2.1
      replace N5 : News s.heap L' _ [(I2, oI2), (I, oI), (L' + 1 + 1 + 1 + 1, o1), (L' + 1 + 1 + 1, o2), (L' + 1 + 1, o3), (L' + 1, o4)] := N5
      have F6 := know2 F5 e1 e2
      clear F5 F2 N2 R2 F4
      k_steps
      refine Here.in ?_
      intro h4 tk4 t4 u4 v4 R4 F7 N7 K7
      (try k_steps)
      try refine Here.in ?_
      (rename News _ _ _ _ => N8); (rename Fr _ _ _ _ => F8)
      refine LCg.CompSrc.range (n := n - (i + 2)) rfl F8 N8 R4 (smallC (c := 1) (Nat.le_trans (Nat.le_of_lt hi8) (by decide)) (Nat.le_trans hn6 (by decide))) (by rw [rangeSize_nat]; omega) (by rw [sizeLine_eq]; omega) ?_
      intro g'
      have hln : (List.range' (i + 3) (n - (i + 2))).length = n - (i + 2) := List.length_range'
      rw [← hln]
      refine rest_map (g := fun (k : Nat) t => .int (k : Int) t) (R' := BoolV) (as := List.range' (i + 3) (n - (i + 2))) (fun more => subq [i + 2, more, j + 1] r) trivial ?_ ?_ ?_
      · rintro q v hq ⟨t, rfl⟩
        rw [hln] at hq
        refine ⟨i + 3 + q, by rw [List.getElem?_range' hq]; congr 1; omega, t, ?_⟩
        congr 1
      · intro more t I3 oI3 C oC D m₂ ys sh E' hmore hC hx F N off ne K hK
        have hm1 : more < i + 3 + (n - (i + 2)) := by simp [List.mem_range'] at hmore; omega
        have hm8 : more < 8 := by omega
        k_steps
        refine Here.in ?_
        (rename News _ _ _ _ => N9); (rename Fr _ _ _ _ => F9)
        refine useB (found_spec (rk := [i + 2, more, j + 1]) (rmK hdp hun (by decide)) (W.keeps F9.keep) hb (hs.at fun o e => F9.keep _ _ e) hsv (News.isList N9 (.head _)) (.cons ⟨_, rfl⟩ (.cons ⟨_, rfl⟩ (.cons ⟨_, by rw [show (1 : Int) + (j : Int) = ((j + 1 : Nat) : Int) by omega]⟩ .nil))) (l8c hi8 (l8c hm8 (l8c hj8 l8n))) (by simp) (by rw [hrl]; exact Nat.lt_of_le_of_lt hn6 (by decide))) F9 N9 ?_
        intro h5 tk5 F10 N10
        (try k_steps)
        (refine hK _ _ ?_); exact CEnd.intro F10 N10 (fun p hp => sub [1, 2, 3, 4, 5, 6, 7, 8, 9] p hp) (by rw [ell_subq])
      · intro ys hys
        have hys := hys.bools
        subst hys
        k_steps
        refine Here.in ?_
        (rename News _ _ _ _ => N9); (rename Fr _ _ _ _ => F9)
        refine useB (found_spec (rk := [i + 2, j + 1]) (rmK hdp hun (by decide)) (W.keeps F9.keep) hb (hs.at fun o e => F9.keep _ _ e) hsv (News.isList N9 (.head _)) (.cons ⟨_, rfl⟩ (.cons ⟨_, by rw [show (1 : Int) + (j : Int) = ((j + 1 : Nat) : Int) by omega]⟩ .nil)) (l8c hi8 (l8c hj8 l8n)) (by simp) (by rw [strOf_len, hr']; exact Nat.lt_of_le_of_lt hn6 (by decide))) F9 N9 ?_
        intro h5 tk5 F10 N10
        rw [ell_subq]
        clear F9 N9
        k_steps
        refine Here.in ?_
        (rename News _ _ _ _ => N11); (rename Fr _ _ _ _ => F11)
        refine useB (contains_bool_spec (rmK hdp hun (by decide)) (W.keeps F11.keep) (News.isList N11 (.tail _ (.head _)))) F11 N11 ?_
        intro h6 tk6 F12 N12
        clear F11 N11
        have hp : (subq [i + 2, j + 1] r' != (List.map (fun more => subq [i + 2, more, j + 1] r) (List.range' (i + 3) (n - (i + 2)))).any fun x => x == true) = false := by
          rw [Here.out hchk (i + 2) (j + 1) (by omega) (by omega) (by omega) (by omega), List.any_map]
          simp [Function.comp_def]
        k_steps
        rename Obj => oL
        (refine hK _ _ ?_); exact LPost.end F12 N12 ((I, oI) :: [(L' + 1 + 1 + 1 + 1, oL), (L' + 1 + 1 + 1, o2), (L' + 1 + 1, o3), (L' + 1, o4)]) (fun p hp => .tail _ (.tail _ hp)) (hne.same rfl) (.mk _ _ _ _ _ _ _ _ rfl rfl (by assumption) (by assumption) ⟨_, rfl⟩ (by assumption) (by assumption))
    · intro h3 tk3 m' news' F7 N7 hJ
      obtain ⟨ts, ta, o1, o2, o3, o4, c1, c2, e1, e2, d1, d2, ⟨th, rfl⟩, d3, d4⟩ := hJ
      k_steps
      (refine hK _ _ ?_); exact LPost.end F7 N7 [(L' + 1 + 1 + 1 + 1, o1), (L' + 1 + 1 + 1, o2), (L' + 1 + 1, o3), (L' + 1, o4)] (fun p hp => hp) (hne.same rfl) (.mk _ _ _ _ _ _ _ _ e1 e2 d1 d2 trivial d3 d4)
  · intro h7 tk7 m' n' F7 N7 hJ
    obtain ⟨ts, ta, o1, o2, o3, o4, c1, c2, e1, e2, d1, d2, -, d3, d4⟩ := hJ
    have F4 := know2 F7 e1 e2
    clear F7 F1 N1
    k_steps
    (rename News _ _ _ _ => N9); (rename Fr _ _ _ _ => F9)
    refine joinS_K rfl F9 N9 (by omega) (by decide) ?_
    intro h8 k8 t8 F10 N10
    clear F9 N9
    k_steps
    refine Here.in ?_
    (rename News _ _ _ _ => N9); (rename Fr _ _ _ _ => F9)
    obtain ⟨f, mid, g, hsp⟩ := split2 (l := r'.map (sg b)) (by rw [List.length_map]; omega)
    have hdl : ∀ p ∈ r'.map (sg b), Dotless p := fun p hp => by obtain ⟨k, _, rfl⟩ := List.mem_map.mp hp; exact sg_dotless hb
    have hl1 : ∀ p ∈ r'.map (sg b), p.length ≤ 1 := fun p hp => by obtain ⟨k, _, rfl⟩ := List.mem_map.mp hp; exact Nat.le_refl _
    have hjl := join_len hl1
    rw [List.length_map] at hjl
    have hl2 : 2 ≤ (r'.map (sg b)).length := by rw [List.length_map]; omega
    have hml : mid.length < 1000 := by
      have := congrArg List.length hsp
      simp at this; omega
    refine useB (ell_dots (f := f) (mid := mid) (g := g) (rmK hdp hun (by decide)) (W.keeps F9.keep) (show (Str.join dots (r'.map (sg b))).length < 1000 by omega) (by rw [hrl]; exact Nat.lt_of_le_of_lt hn6 (by decide)) (occ_join hl2) ((split_join hl2 hdl).trans hsp) (Nat.lt_of_le_of_lt (hl1 f (by rw [hsp]; simp)) (by decide)) (Nat.lt_of_le_of_lt (hl1 g (by rw [hsp]; simp)) (by decide)) hml (fun y hy => Nat.lt_of_le_of_lt (hl1 y (by rw [hsp]; simp [hy])) (by decide))) F9 N9 ?_
    intro h9 tk9 F11 N11
    rw [ell_same hsp (by omega)]
    clear F9 N9
    k_steps
    (rename News _ _ _ _ => N12); (rename Fr _ _ _ _ => F12)
    k_dflt (refine kmk_slice_lit (its := sv.toArray) (zs := (sv.drop 1).take n) F12 N12 (hs.at fun o e => F12.keep _ _ e) (.int _ _) (.int _ _) ?_ ?_ (by with_unfolding_all rfl) (by intro _; with_unfolding_all rfl) (by rw [List.size_toArray, hsv.length]; exact (by decide : 8 ≤ sizeLine)))
    · rw [kmk_pick_nat sv.toArray (a := 1) (b := n + 1) (by rw [List.size_toArray, hsv.length]; rcases Here.out hn with rfl | rfl <;> rfl)]
      simp
    intro D h10 F13 N13 l1
    clear F12 N12
    k_steps
    (rename News _ _ _ _ => N14); (rename Fr _ _ _ _ => F14)
    have hsl : LR StrV ((List.range' 1 n).map (sg b)) ((sv.drop 1).take n) := by
      have := (hsv.drop 1).take n
      rw [show ((sgs b).drop 1).take n = (List.range' 1 n).map (sg b) by rcases Here.out hn with rfl | rfl <;> rfl] at this
      exact this
    refine join_K (News.isList N14 (.head _)) hsl (fun y hy => by obtain ⟨k, _, rfl⟩ := List.mem_map.mp hy; exact (by decide : 1 ≤ 1000)) (by simp; omega) (by decide) ?_
    rw [join_signs]
    intro tj kj
    k_steps
    refine Here.in ?_
    refine useB (eq_str_spec (rmK hdp hun (by decide)) (W.keeps F14.keep)) F14 N14 ?_
    intro h11 tk11 F15 N15
    rw [strOf_eq]
    clear F14 N14
    k_steps
    (refine hK0 _ _ ?_); exact endK (by assumption) (congrArg Value.bool (by rw [Here.out hend]; simp))

end Mine
namespace Mine
local macro_rules | `(tactic| omega) => `(tactic| first | assumption | exact Nat.ne_of_lt (by assumption) | exact Nat.ne_of_gt (by assumption) | exact Nat.le_of_lt (by assumption) | lia | omega (config := {}))
/-- the pure word of _law_hard, loop by loop -/
def hardA (r : List Nat) (n i j k l : Nat) : Bool := subq [k + 2, j + 3, i + 4, l + 1] r || (subq [j + 3, k + 2, i + 4, l + 1] r && !((List.range' (i + 5) (n - (i + 4))).any fun e => subq [j + 3, e, k + 2, i + 4, l + 1] r))
def hardB (r : List Nat) (n i j k : Nat) : Bool := (List.range (k + 1)).any (hardA r n i j k)
def hardC (r : List Nat) (n i j : Nat) : Bool := (List.range (j + 1)).any (hardB r n i j)
def hardD (r : List Nat) (n i : Nat) : Bool := (List.range (i + 1)).any (hardC r n i)
def hardQ (r : List Nat) (n : Nat) : Bool := (List.range (n - 3)).any (hardD r n)
theorem any_succ (f : Nat → Bool) (i : Nat) : (List.range (i + 1)).any f = ((List.range i).any f || f i) := by
  rw [List.range_succ, List.any_append]; simp
/-- the ledger of _law_hard and its locals -/
inductive HJ (L fl : Addr) (n : Nat) (te sg : Value) (pre : List (Addr × Obj)) (Pd Pc Pb Pa : Option Value → Prop) (P : List Bool → Prop) (m' : Str → Option Value) : List (Addr × Obj) → Prop
  | mk (t : Tok) (bs : List Bool) (k : Nat) (oa ob oc od ot os : Obj) (ca cb cc cd : Option Value) (e1 : m' (Str.ofString "size") = some (.int (n : Int) t)) (e2 : m' (Str.ofString "found") = some (.ref fl))
    (da : oa.data = .cell ca) (pa : Pa ca) (db : ob.data = .cell cb) (pb : Pb cb) (dc : oc.data = .cell cc) (pc : Pc cc) (dd : od.data = .cell cd) (pd : Pd cd) (dt : ot.data = .cell (some te)) (ds : os.data = .cell (some sg)) (hP : P bs) :
    HJ L fl n te sg pre Pd Pc Pb Pa P m' (pre ++ (fl, lsO (bs.map Value.bool) k) :: [(L + 1 + 1 + 1 + 1 + 1 + 1, oa), (L + 1 + 1 + 1 + 1 + 1, ob), (L + 1 + 1 + 1 + 1, oc), (L + 1 + 1 + 1, od), (L + 1 + 1, ot), (L + 1, os)])
theorem HJ.go {L fl : Addr} {n : Nat} {te sg : Value} {pre : List (Addr × Obj)} {Pd Pc Pb Pa : Option Value → Prop} {P : List Bool → Prop} {m' : Str → Option Value} {news : List (Addr × Obj)} {G : Prop} (h : HJ L fl n te sg pre Pd Pc Pb Pa P m' news) {g hp : Heap} {L1 I1 : Addr} {oI1 : Obj} (hne : AllLt I1 news) (N : News g L1 hp ((I1, oI1) :: news)) (goOn : ∀ (t : Tok) (bs : List Bool) (k : Nat) (oa ob oc od ot os : Obj) (ca cb cc cd : Option Value) (e1 : m' (Str.ofString "size") = some (.int (n : Int) t)) (e2 : m' (Str.ofString "found") = some (.ref fl))
    (da : oa.data = .cell ca) (pa : Pa ca) (db : ob.data = .cell cb) (pb : Pb cb) (dc : oc.data = .cell cc) (pc : Pc cc) (dd : od.data = .cell cd) (pd : Pd cd) (dt : ot.data = .cell (some te)) (ds : os.data = .cell (some sg)) (hP : P bs), AllLt I1 (pre ++ (fl, lsO (bs.map Value.bool) k) :: [(L + 1 + 1 + 1 + 1 + 1 + 1, oa), (L + 1 + 1 + 1 + 1 + 1, ob), (L + 1 + 1 + 1 + 1, oc), (L + 1 + 1 + 1, od), (L + 1 + 1, ot), (L + 1, os)]) → News g L1 hp ((I1, oI1) :: (pre ++ (fl, lsO (bs.map Value.bool) k) :: [(L + 1 + 1 + 1 + 1 + 1 + 1, oa), (L + 1 + 1 + 1 + 1 + 1, ob), (L + 1 + 1 + 1 + 1, oc), (L + 1 + 1 + 1, od), (L + 1 + 1, ot), (L + 1, os)])) → G) : G := by
  cases h with
  | mk t bs k oa ob oc od ot os ca cb cc cd e1 e2 da pa db pb dc pc dd pd dt ds hP => exact goOn t bs k oa ob oc od ot os ca cb cc cd e1 e2 da pa db pb dc pc dd pd dt ds hP hne N
theorem HJ.go2 {L fl : Addr} {n : Nat} {te sg : Value} {pre : List (Addr × Obj)} {Pd Pc Pb Pa : Option Value → Prop} {P : List Bool → Prop} {m' : Str → Option Value} {news : List (Addr × Obj)} {G : Prop} (h : HJ L fl n te sg pre Pd Pc Pb Pa P m' news) {g hp : Heap} {L1 : Addr} (N : News g L1 hp news) (goOn : ∀ (t : Tok) (bs : List Bool) (k : Nat) (oa ob oc od ot os : Obj) (ca cb cc cd : Option Value) (e1 : m' (Str.ofString "size") = some (.int (n : Int) t)) (e2 : m' (Str.ofString "found") = some (.ref fl))
    (da : oa.data = .cell ca) (pa : Pa ca) (db : ob.data = .cell cb) (pb : Pb cb) (dc : oc.data = .cell cc) (pc : Pc cc) (dd : od.data = .cell cd) (pd : Pd cd) (dt : ot.data = .cell (some te)) (ds : os.data = .cell (some sg)) (hP : P bs), News g L1 hp (pre ++ (fl, lsO (bs.map Value.bool) k) :: [(L + 1 + 1 + 1 + 1 + 1 + 1, oa), (L + 1 + 1 + 1 + 1 + 1, ob), (L + 1 + 1 + 1 + 1, oc), (L + 1 + 1 + 1, od), (L + 1 + 1, ot), (L + 1, os)]) → G) : G := by
  cases h with
  | mk t bs k oa ob oc od ot os ca cb cc cd e1 e2 da pa db pb dc pc dd pd dt ds hP => exact goOn t bs k oa ob oc od ot os ca cb cc cd e1 e2 da pa db pb dc pc dd pd dt ds hP N
theorem lt2 {a c : Nat} (h : a ≤ 2) (hc : 2 + c < 8) : a + c < 8 := by omega
abbrev TrueV : Option Value → Prop := fun _ => True
abbrev NatV (k : Nat) : Option Value → Prop := fun c => ∃ t, c = some (.int (k : Int) t)
local macro_rules | `(tactic| walk_at "eval ListComp") => `(tactic| (k_here; refine Here.out ?_))
local macro_rules | `(tactic| walk_at "CompSrc") => `(tactic| (k_here; refine Here.out ?_))
local macro_rules | `(tactic| walk_at "call ref") => `(tactic| (k_here; refine Here.out ?_))
local macro_rules | `(tactic| walk_at "exec For Name Call cons nil") => `(tactic| (k_here; k_dflt (refine For_go ?_)))
local macro_rules | `(tactic| walk_at "call type:range") => `(tactic| (k_here; k_dflt (refine range2_rows (by assumption) (by assumption) ?_); refine Here.out ?_))
theorem hard_spec {w : World} {A : Around} {s : Shared} {E : Value → Shared → Prop} {b n : Nat} {sa : Addr} {sv : List Value} {r : List Nat} {tx : Tok} (R : Rm A 4) (W : Wd w s.heap) (hb : 48 ≤ b)
    (hs : s.heap.IsList sa sv.toArray) (hsv : LR StrV (sgs b) sv) (hr : r.length = n) (hn : n = 5 ∨ n = 6) :
  wpAny (model PySem.Challenge.rw_ti0023_01.row.prog w) A (call (.ref 137) [.ref sa, .str (strOf b r) tx]) (Out s fun v _ => v = .bool (hardQ r n)) E s := by
  revert W; obtain ⟨hnd, dp, fr, gd, un⟩ := A; obtain ⟨rfl, hdp, hun⟩ := R; dsimp only at hdp hun
  intro W; have X := W.X; revert X; k_fill; intro X; obtain ⟨p, loose, mean, mg, mb, T⟩ := W.T
  refine enterC (binds := [(Str.ofString "signs", .ref sa), (Str.ofString "text", .str (strOf b r) tx)]) X T (by k_is) (by k_is) (by show dp < 1000; omega) (BindsTo.of_eq rfl) rfl (by decide) rfl rfl rfl ?_
  intro L' h' tk' cells F' N' Y'
  k_cells Y'
  obtain ⟨m0, F'⟩ : ∃ m0, Fr s.heap L' h' m0 := ⟨_, F'⟩
  refine wpK ?_
  intro K0 hK0
  (try simp only [List.cons_append, List.nil_append] at N')
  have hrl : (strOf b r).length = n := by rw [strOf_len, hr]
  have hn5 : 5 ≤ n := by rcases hn with rfl | rfl <;> decide
  have hn6 : n ≤ 6 := by rcases hn with rfl | rfl <;> decide
  clear hn
  rw [← hr] at hrl
  k_steps
  rename_i fl _ hfl D _ hDl _ _ _ F1 N1
  have hflL := hfl.1
  have hflD := hDl.1
  clear hfl hDl
  refine Here.in ?_
  intro h2 tk2 t2 u2 v2 R2 F2 N2 K2
  clear F1 N1
  rw [hrl, hr] at R2 F2 N2
  generalize hoD : ({ cls := Value.type "tuple", data := _ } : Obj) = oD at N2
  refine LoopGo.range (n := (n - 3)) (fun i' m' n' => HJ L' fl n (.str (strOf b r) tx) (.ref sa) [(D, oD)] TrueV TrueV TrueV TrueV (fun bs => bs.any id = ((List.range i').any (hardD r n)) ∧ bs.length ≤ 0 + i' * 432) m' n') rfl R2 (smallB (c := 4) (Nat.le_trans hn6 (by decide)) (by decide)) (by rw [rangeSize_nat]; omega) F2 N2 (fun _ _ => rfl) ?_ ?_ ?_
  · refine ⟨_, [], _, _, _, _, _, _, _, _, _, _, _, rfl, rfl, by assumption, trivial, by assumption, trivial, by assumption, trivial, by assumption, trivial, by assumption, by assumption, ?_, ?_⟩
    · simp
    · simp
  · intro i k0 m₁ news₁ I0 sh oI0 hi hJ hne F3 N3 K hK eS
    refine HJ.go hJ hne N3 ?_
    clear hJ hne N3
    intro ts bs kk oa ob oc od ot os ca cb cc cd e1 e2 da _ db _ dc _ dd _ dt ds pp25 hne N3
    obtain ⟨hany, hlen⟩ := pp25
    replace hany := Here.in hany
    have hi2 : i ≤ 2 := by omega
    have n0 : @LT.lt Nat _ D I0 := hne.1
    have f0 : @LT.lt Nat _ fl I0 := hne.2.1
    have d0 : @LT.lt Nat _ (L' + 1 + 1 + 1 + 1 + 1 + 1) I0 := hne.2.2.1
    have nfl : @LT.lt Nat _ fl D := hflD
    have nce : @LT.lt Nat _ (L' + 1 + 1 + 1 + 1 + 1 + 1) fl := hflL
    have nceD : @LT.lt Nat _ (L' + 1 + 1 + 1 + 1 + 1 + 1) D := Nat.lt_trans nce nfl
    clear hflD hflL
    have F4 := know2 F3 e1 e2
    clear F3 F2 N2 R2
    try simp only [List.cons_append, List.nil_append] at N3
    k_steps
    refine Here.in ?_
    intro h2 tk2 t2 u2 v2 R2 F2 N2 K2
    (try k_steps)
    refine LoopGo.range (n := (i + 1)) (fun j' m' n' => HJ L' fl n (.str (strOf b r) tx) (.ref sa) [(I0, oI0), (D, oD)] (NatV (i + 4)) TrueV TrueV TrueV (fun bs => bs.any id = ((List.range i).any (hardD r n) || (List.range j').any (hardC r n i)) ∧ bs.length ≤ i * 432 + j' * 72) m' n') rfl R2 (smallA (c := 3) (d := 4) (Nat.le_trans hi2 (by decide)) (by decide) (by decide)) (by rw [rangeSize_nat]; omega) F2 N2 (fun _ _ => rfl) ?_ ?_ ?_
    · refine ⟨_, bs, _, _, _, _, _, _, _, _, _, _, _, rfl, rfl, by assumption, trivial, by assumption, trivial, by assumption, trivial, by assumption, ⟨k0, ?_⟩, by assumption, by assumption, ?_, ?_⟩
      · rw [show (4 : Int) + (i : Int) = ((i + 4 : Nat) : Int) by omega]
      · simp [Here.out hany]
      · simp; omega
    · intro j k1 m₁ news₁ I1 sh oI1 hj hJ hne F3 N3 K hK eS
      refine HJ.go hJ hne N3 ?_
      clear hJ hne N3
      intro ts bs kk oa ob oc od ot os ca cb cc cd e1 e2 da _ db _ dc _ dd pp22 dt ds pp25 hne N3
      obtain ⟨ttd, rfl⟩ := pp22
      obtain ⟨hany, hlen⟩ := pp25
      replace hany := Here.in hany
      have hj2 : j ≤ 2 := Nat.le_trans (Nat.le_of_lt_succ hj) hi2
      have n1 : @LT.lt Nat _ I0 I1 := hne.1
      have f1 : @LT.lt Nat _ fl I1 := hne.2.2.1
      have d1 : @LT.lt Nat _ (L' + 1 + 1 + 1 + 1 + 1 + 1) I1 := hne.2.2.2.1
      have F4 := know2 F3 e1 e2
      clear F3 F2 N2 R2
      try simp only [List.cons_append, List.nil_append] at N3
      k_steps
      refine Here.in ?_
      intro h2 tk2 t2 u2 v2 R2 F2 N2 K2
      (try k_steps)
      refine LoopGo.range (n := (j + 1)) (fun k' m' n' => HJ L' fl n (.str (strOf b r) tx) (.ref sa) [(I1, oI1), (I0, oI0), (D, oD)] (NatV (i + 4)) (NatV (j + 3)) TrueV TrueV (fun bs => bs.any id = ((List.range i).any (hardD r n) || (List.range j).any (hardC r n i) || (List.range k').any (hardB r n i j)) ∧ bs.length ≤ i * 432 + j * 72 + k' * 12) m' n') rfl R2 (smallA (c := 2) (d := 3) (Nat.le_trans hj2 (by decide)) (by decide) (by decide)) (by rw [rangeSize_nat]; omega) F2 N2 (fun _ _ => rfl) ?_ ?_ ?_
      · refine ⟨_, bs, _, _, _, _, _, _, _, _, _, _, _, rfl, rfl, by assumption, trivial, by assumption, trivial, by assumption, ⟨k1, ?_⟩, by assumption, ⟨_, rfl⟩, by assumption, by assumption, ?_, ?_⟩
        · rw [show (3 : Int) + (j : Int) = ((j + 3 : Nat) : Int) by omega]
        · simp [Here.out hany]
        · simp; omega
      · intro k k2 m₁ news₁ I2 sh oI2 hk hJ hne F3 N3 K hK eS
        refine HJ.go hJ hne N3 ?_
        clear hJ hne N3
        intro ts bs kk oa ob oc od ot os ca cb cc cd e1 e2 da _ db _ dc pp20 dd pp22 dt ds pp25 hne N3
        obtain ⟨ttc, rfl⟩ := pp20
        obtain ⟨ttd, rfl⟩ := pp22
        obtain ⟨hany, hlen⟩ := pp25
        replace hany := Here.in hany
        have hk2 : k ≤ 2 := Nat.le_trans (Nat.le_of_lt_succ hk) hj2
        have n2 : @LT.lt Nat _ I1 I2 := hne.1
        have f2 : @LT.lt Nat _ fl I2 := hne.2.2.2.1
        have d2 : @LT.lt Nat _ (L' + 1 + 1 + 1 + 1 + 1 + 1) I2 := hne.2.2.2.2.1
        have F4 := know2 F3 e1 e2
        clear F3 F2 N2 R2
        try simp only [List.cons_append, List.nil_append] at N3
        k_steps
        refine Here.in ?_
        intro h2 tk2 t2 u2 v2 R2 F2 N2 K2
        (try k_steps)
        refine LoopGo.range (n := (k + 1)) (fun l' m' n' => HJ L' fl n (.str (strOf b r) tx) (.ref sa) [(I2, oI2), (I1, oI1), (I0, oI0), (D, oD)] (NatV (i + 4)) (NatV (j + 3)) (NatV (k + 2)) TrueV (fun bs => bs.any id = ((List.range i).any (hardD r n) || (List.range j).any (hardC r n i) || (List.range k).any (hardB r n i j) || (List.range l').any (hardA r n i j k)) ∧ bs.length ≤ i * 432 + j * 72 + k * 12 + l' * 2) m' n') rfl R2 (smallA (c := 1) (d := 2) (Nat.le_trans hk2 (by decide)) (by decide) (by decide)) (by rw [rangeSize_nat]; omega) F2 N2 (fun _ _ => rfl) ?_ ?_ ?_
        · refine ⟨_, bs, _, _, _, _, _, _, _, _, _, _, _, rfl, rfl, by assumption, trivial, by assumption, ⟨k2, ?_⟩, by assumption, ⟨_, rfl⟩, by assumption, ⟨_, rfl⟩, by assumption, by assumption, ?_, ?_⟩
          · rw [show (2 : Int) + (k : Int) = ((k + 2 : Nat) : Int) by omega]
          · simp [Here.out hany]
          · simp; omega
        · intro l k3 m₁ news₁ I3 sh oI3 hl hJ hne F3 N3 K hK eS
          refine HJ.go hJ hne N3 ?_
          clear hJ hne N3
          intro ts bs kk oa ob oc od ot os ca cb cc cd e1 e2 da _ db pp18 dc pp20 dd pp22 dt ds pp25 hne N3
          obtain ⟨ttb, rfl⟩ := pp18
          obtain ⟨ttc, rfl⟩ := pp20
          obtain ⟨ttd, rfl⟩ := pp22
          obtain ⟨hany, hlen⟩ := pp25
          replace hany := Here.in hany
          have hl2 : l ≤ 2 := Nat.le_trans (Nat.le_of_lt_succ hl) hk2
          have n3 : @LT.lt Nat _ I2 I3 := hne.1
          have f3 : @LT.lt Nat _ fl I3 := hne.2.2.2.2.1
          have d3 : @LT.lt Nat _ (L' + 1 + 1 + 1 + 1 + 1 + 1) I3 := hne.2.2.2.2.2.1
          have F4 := know2 F3 e1 e2
          clear F3 F2 N2 R2
          try simp only [List.cons_append, List.nil_append] at N3
          k_steps
          refine Here.in ?_
          (rename News _ _ _ _ => N9); (rename Fr _ _ _ _ => F9)
          refine useB (found_spec (rk := [k + 2, j + 3, i + 4, l + 1]) (rmK hdp hun (by decide)) (W.keeps F9.keep) hb (hs.at fun o e => F9.keep _ _ e) hsv (News.isList N9 (.head _)) (.cons ⟨_, rfl⟩ (.cons ⟨_, rfl⟩ (.cons ⟨_, rfl⟩ (.cons ⟨_, by rw [show (1 : Int) + (l : Int) = ((l + 1 : Nat) : Int) by omega]⟩ .nil)))) (l8c (lt2 hk2 (by decide)) (l8c (lt2 hj2 (by decide)) (l8c (lt2 hi2 (by decide)) (l8c (lt2 hl2 (by decide)) l8n)))) (by simp) (by rw [hrl, hr]; exact Nat.lt_of_le_of_lt hn6 (by decide))) F9 N9 ?_
          intro h5 tk5 F10 N10
          rw [ell_subq]
          clear F9 N9
          k_steps
          refine Here.in ?_
          (rename News _ _ _ _ => N9); (rename Fr _ _ _ _ => F9)
          refine useB (found_spec (rk := [j + 3, k + 2, i + 4, l + 1]) (rmK hdp hun (by decide)) (W.keeps F9.keep) hb (hs.at fun o e => F9.keep _ _ e) hsv (News.isList N9 (.head _)) (.cons ⟨_, rfl⟩ (.cons ⟨_, rfl⟩ (.cons ⟨_, rfl⟩ (.cons ⟨_, by rw [show (1 : Int) + (l : Int) = ((l + 1 : Nat) : Int) by omega]⟩ .nil)))) (l8c (lt2 hj2 (by decide)) (l8c (lt2 hk2 (by decide)) (l8c (lt2 hi2 (by decide)) (l8c (lt2 hl2 (by decide)) l8n)))) (by simp) (by rw [hrl, hr]; exact Nat.lt_of_le_of_lt hn6 (by decide))) F9 N9 ?_
          intro h5 tk5 F10 N10
          rw [ell_subq]
          clear F9 N9
          k_steps
          · refine Here.in ?_
            intro h4 tk4 t4 u4 v4 R4 F7 N7 K7
            (try k_steps)
            try refine Here.in ?_
            (rename News _ _ _ _ => N8); (rename Fr _ _ _ _ => F8)
            refine LCg.CompSrc.range (n := n - (i + 4)) rfl F8 N8 R4 (smallC (c := 1) (Nat.le_trans (Nat.add_le_add_right hi2 4) (by decide)) (Nat.le_trans hn6 (by decide))) (by rw [rangeSize_nat]; omega) (by rw [sizeLine_eq]; omega) ?_
            intro g'
            have hln : (List.range' (i + 5) (n - (i + 4))).length = n - (i + 4) := List.length_range'
            rw [← hln]
            refine rest_map (g := fun (k : Nat) t => .int (k : Int) t) (R' := BoolV) (as := List.range' (i + 5) (n - (i + 4))) (fun e => subq [j + 3, e, k + 2, i + 4, l + 1] r) trivial ?_ ?_ ?_
            · rintro q v hq ⟨t, rfl⟩
              rw [hln] at hq
              refine ⟨i + 5 + q, by rw [List.getElem?_range' hq]; congr 1; omega, t, ?_⟩
              congr 1
            · intro e t I5 oI5 C oC D5 m₂ ys sh E' hmore hC hx F N off ne K hK
              have hm1 : e < i + 5 + (n - (i + 4)) := by simp [List.mem_range'] at hmore; omega
              have he8 : e < 8 := by omega
              k_steps
              refine Here.in ?_
              (rename News _ _ _ _ => N9); (rename Fr _ _ _ _ => F9)
              refine useB (found_spec (rk := [j + 3, e, k + 2, i + 4, l + 1]) (rmK hdp hun (by decide)) (W.keeps F9.keep) hb (hs.at fun o e => F9.keep _ _ e) hsv (News.isList N9 (.head _)) (.cons ⟨_, rfl⟩ (.cons ⟨_, rfl⟩ (.cons ⟨_, rfl⟩ (.cons ⟨_, rfl⟩ (.cons ⟨_, by rw [show (1 : Int) + (l : Int) = ((l + 1 : Nat) : Int) by omega]⟩ .nil))))) (l8c (lt2 hj2 (by decide)) (l8c he8 (l8c (lt2 hk2 (by decide)) (l8c (lt2 hi2 (by decide)) (l8c (lt2 hl2 (by decide)) l8n))))) (by simp) (by rw [hrl, hr]; exact Nat.lt_of_le_of_lt hn6 (by decide))) F9 N9 ?_
              intro h5 tk5 F10 N10
              rw [ell_subq]
              clear F9 N9
              (try k_steps)
              (refine hK _ _ ?_); exact CEnd.intro F10 N10 (by kcf_all) rfl
            · intro ys hys
              have hys := hys.bools
              subst hys
              k_steps
              refine Here.in ?_
              (rename News _ _ _ _ => N9); (rename Fr _ _ _ _ => F9)
              refine useB (contains_bool_spec (b := true) (rmK hdp hun (by decide)) (W.keeps F9.keep) (News.isList N9 (by k_mem))) F9 N9 ?_
              intro h6 tk6 F12 N12
              clear F9 N9
              k_steps
              rename Obj => oA
              (rename News _ _ _ _ => N13); (rename Fr _ _ _ _ => F13)
              have hpush : ∀ x y : Bool, ((List.map Value.bool bs).toArray.push (.bool x)).push (.bool y) = ((bs ++ [x] ++ [y]).map Value.bool).toArray := by intro x y; simp
              rw [hpush] at N13
              (refine hK _ _ ?_); refine LPost.end F13 N13 ([(I2, oI2), (I1, oI1), (I0, oI0), (D, oD)] ++ (fl, lsO ((bs ++ [subq [k + 2, j + 3, i + 4, l + 1] r] ++ [!(List.map (fun e => subq [j + 3, e, k + 2, i + 4, l + 1] r) (List.range' (i + 5) (n - (i + 4)))).any fun x => x == true]).map Value.bool) (kk + 1 + 1)) :: [(L' + 1 + 1 + 1 + 1 + 1 + 1, oA), (L' + 1 + 1 + 1 + 1 + 1, ob), (L' + 1 + 1 + 1 + 1, oc), (L' + 1 + 1 + 1, od), (L' + 1 + 1, ot), (L' + 1, os)]) (fun p hp => .tail _ (.tail _ (.tail _ hp))) (hne.same rfl) ⟨_, _, _, _, _, _, _, _, _, _, _, _, _, rfl, rfl, by assumption, trivial, db, ⟨_, rfl⟩, dc, ⟨_, rfl⟩, dd, ⟨_, rfl⟩, dt, ds, ?_, ?_⟩
              · rename _ = true => ht
                rw [List.any_append, List.any_append, Here.out hany, any_succ (hardA r n i j k)]
                simp [hardA, ht, Bool.or_assoc, List.any_map, Function.comp_def]
              · simp; omega
          · rename Obj => oA
            (rename News _ _ _ _ => N13); (rename Fr _ _ _ _ => F13)
            have hpush : ∀ x : Bool, (List.map Value.bool bs).toArray.push (.bool x) = ((bs ++ [x]).map Value.bool).toArray := by intro x; simp
            rw [hpush] at N13
            (refine hK _ _ ?_); refine LPost.end F13 N13 ([(I2, oI2), (I1, oI1), (I0, oI0), (D, oD)] ++ (fl, lsO ((bs ++ [subq [k + 2, j + 3, i + 4, l + 1] r]).map Value.bool) (kk + 1)) :: [(L' + 1 + 1 + 1 + 1 + 1 + 1, oA), (L' + 1 + 1 + 1 + 1 + 1, ob), (L' + 1 + 1 + 1 + 1, oc), (L' + 1 + 1 + 1, od), (L' + 1 + 1, ot), (L' + 1, os)]) (fun p hp => .tail _ (.tail _ hp)) (hne.same rfl) ⟨_, _, _, _, _, _, _, _, _, _, _, _, _, rfl, rfl, by assumption, trivial, db, ⟨_, rfl⟩, dc, ⟨_, rfl⟩, dd, ⟨_, rfl⟩, dt, ds, ?_, ?_⟩
            · rename _ = false => ht
              rw [List.any_append, Here.out hany, any_succ (hardA r n i j k)]
              simp [hardA, ht, Bool.or_assoc]
            · simp; omega
        · intro h3 tk3 m' news' F7 N7 hJ
          refine HJ.go2 hJ N7 ?_
          clear hJ N7
          intro ts bs kk oa ob oc od ot os ca cb cc cd e1 e2 da _ db pp18 dc pp20 dd pp22 dt ds pp25 N7
          obtain ⟨ttb, rfl⟩ := pp18
          obtain ⟨ttc, rfl⟩ := pp20
          obtain ⟨ttd, rfl⟩ := pp22
          obtain ⟨hany, hlen⟩ := pp25
          replace hany := Here.in hany
          have F8 := know2 F7 e1 e2
          clear F7 F2 N2 R2
          try simp only [List.cons_append, List.nil_append] at N7
          k_steps
          (refine hK _ _ ?_); refine LPost.end F8 N7 ([(I1, oI1), (I0, oI0), (D, oD)] ++ (fl, lsO (bs.map Value.bool) kk) :: [(L' + 1 + 1 + 1 + 1 + 1 + 1, oa), (L' + 1 + 1 + 1 + 1 + 1, ob), (L' + 1 + 1 + 1 + 1, oc), (L' + 1 + 1 + 1, od), (L' + 1 + 1, ot), (L' + 1, os)]) (fun p hp => hp) (hne.same rfl) ⟨_, bs, _, _, _, _, _, _, _, _, _, _, _, rfl, rfl, da, trivial, db, trivial, dc, ⟨_, rfl⟩, dd, ⟨_, rfl⟩, dt, ds, ?_, ?_⟩
          · have eh : hardB r n i j k = (List.range (k + 1)).any (hardA r n i j k) := rfl
            rw [Here.out hany, any_succ (hardB r n i j), ← eh]
            try simp only [Bool.or_assoc]
          · omega
      · intro h3 tk3 m' news' F7 N7 hJ
        refine HJ.go2 hJ N7 ?_
        clear hJ N7
        intro ts bs kk oa ob oc od ot os ca cb cc cd e1 e2 da _ db _ dc pp20 dd pp22 dt ds pp25 N7
        obtain ⟨ttc, rfl⟩ := pp20
        obtain ⟨ttd, rfl⟩ := pp22
        obtain ⟨hany, hlen⟩ := pp25
        replace hany := Here.in hany
        have F8 := know2 F7 e1 e2
        clear F7 F2 N2 R2
        try simp only [List.cons_append, List.nil_append] at N7
        k_steps
        (refine hK _ _ ?_); refine LPost.end F8 N7 ([(I0, oI0), (D, oD)] ++ (fl, lsO (bs.map Value.bool) kk) :: [(L' + 1 + 1 + 1 + 1 + 1 + 1, oa), (L' + 1 + 1 + 1 + 1 + 1, ob), (L' + 1 + 1 + 1 + 1, oc), (L' + 1 + 1 + 1, od), (L' + 1 + 1, ot), (L' + 1, os)]) (fun p hp => hp) (hne.same rfl) ⟨_, bs, _, _, _, _, _, _, _, _, _, _, _, rfl, rfl, da, trivial, db, trivial, dc, trivial, dd, ⟨_, rfl⟩, dt, ds, ?_, ?_⟩
        · have eh : hardC r n i j = (List.range (j + 1)).any (hardB r n i j) := rfl
          rw [Here.out hany, any_succ (hardC r n i), ← eh]
          try simp only [Bool.or_assoc]
        · omega
    · intro h3 tk3 m' news' F7 N7 hJ
      refine HJ.go2 hJ N7 ?_
      clear hJ N7
      intro ts bs kk oa ob oc od ot os ca cb cc cd e1 e2 da _ db _ dc _ dd pp22 dt ds pp25 N7
      obtain ⟨ttd, rfl⟩ := pp22
      obtain ⟨hany, hlen⟩ := pp25
      replace hany := Here.in hany
      have F8 := know2 F7 e1 e2
      clear F7 F2 N2 R2
      try simp only [List.cons_append, List.nil_append] at N7
      k_steps
      (refine hK _ _ ?_); refine LPost.end F8 N7 ([(D, oD)] ++ (fl, lsO (bs.map Value.bool) kk) :: [(L' + 1 + 1 + 1 + 1 + 1 + 1, oa), (L' + 1 + 1 + 1 + 1 + 1, ob), (L' + 1 + 1 + 1 + 1, oc), (L' + 1 + 1 + 1, od), (L' + 1 + 1, ot), (L' + 1, os)]) (fun p hp => hp) (hne.same rfl) ⟨_, bs, _, _, _, _, _, _, _, _, _, _, _, rfl, rfl, da, trivial, db, trivial, dc, trivial, dd, trivial, dt, ds, ?_, ?_⟩
      · have eh : hardD r n i = (List.range (i + 1)).any (hardC r n i) := rfl
        rw [Here.out hany, any_succ (hardD r n), ← eh]
        try simp only [Bool.or_assoc]
      · omega
  · intro h3 tk3 m' news' F7 N7 hJ
    refine HJ.go2 hJ N7 ?_
    clear hJ N7
    intro ts bs kk oa ob oc od ot os ca cb cc cd e1 e2 da _ db _ dc _ dd _ dt ds pp25 N7
    obtain ⟨hany, hlen⟩ := pp25
    replace hany := Here.in hany
    have F8 := know2 F7 e1 e2
    clear F7 F2 N2 R2
    try simp only [List.cons_append, List.nil_append] at N7
    k_steps
    refine Here.in ?_
    (rename News _ _ _ _ => N9); (rename Fr _ _ _ _ => F9)
    refine useB (contains_bool_spec (bs := bs) (b := true) (rmK hdp hun (by decide)) (W.keeps F9.keep) (News.isList N9 (by k_mem))) F9 N9 ?_
    intro h6 tk6 F12 N12
    clear F9 N9
    k_steps
    (refine hK0 _ _ ?_); exact endK (by assumption) (congrArg Value.bool (by rw [hardQ, ← Here.out hany]; congr 1; funext x; cases x <;> rfl))

end Mine
namespace Mine
local macro_rules | `(tactic| omega) => `(tactic| first | assumption | exact Nat.ne_of_lt (by assumption) | exact Nat.ne_of_gt (by assumption) | exact Nat.le_of_lt (by assumption) | lia | omega (config := {}))
section
variable {prog : Program} {w : World} {A : Around} {E : Value → Shared → Prop} {s : Shared} {h₀ : Heap} {m : Str → Option Value} {env : Env}
/-- a text as the source of a comprehension with one test -/
def TextSrc (prog : Program) (w : World) (A : Around) (h₀ : Heap) (L : Addr) (m : Str → Option Value) (env : Env) (ct elt : Expr) (x : Str) (scope : Scope) (cl : List (Str × Addr)) (Fin : Shared → List Value → List (Addr × Obj) → Prop) (xv : Value) (s₁ : Shared) : Prop :=
  ∃ t u news, xv = .str t u ∧ A.handled = none ∧ Fr h₀ L s₁.heap m ∧ News h₀ L s₁.heap news ∧ t.cps.size ≤ sizeLine ∧
    ∀ g, LCt.CompRestT prog w A h₀ L m env ct elt x scope cl { s₁ with heap := g } (fun _ => True) (SignAt t) (Fin { s₁ with heap := g }) t.cps.size 0 [] news
theorem assign_textComp {ct elt iter : Expr} {x y : Str} {px py : Pos} {scope : Scope} {cl : List (Str × Addr)} {pos spos : Pos} {Q : Flow → Shared → Prop}
    (F₀ : Fr h₀ env.locals s.heap m)     (hsw : swapsWith (.ListComp elt [⟨.Name x px, iter, [ct], 0⟩] scope pos) (some (.Name y py)) spos.line env = pure true)
    (hclos : closureFor scope env = pure cl) (hcell : ∀ z ∈ scope.names, z.2 ≠ .cell) (hkind : scope.kind = .function)
    (hnames : ∀ z ∈ scope.names, z.2 = .local → scope.names.lookup z.1 = some .local) (hx : scope.names.lookup x = some .local)
    (hy : env.kindOf y = some .local) (hp : (env.scope.kind == .class || (env.scope.kind == .module && env.locals != env.globals)) = false)
    (h : wpAny (model prog w) A (eval iter env) (TextSrc prog w A h₀ env.locals m env ct elt x scope cl (fun s₂ => LCg.FinA h₀ env.locals m s₂ y Q)) E s)
    (hs : ∀ x, foldedSetIterable iter env x = pure x := by intro _; rfl) :
    wpAny (model prog w) A (exec (.Assign [.Name y py] (.ListComp elt [⟨.Name x px, iter, [ct], 0⟩] scope pos) spos) env) Q E s := by
  rw [exec_Assign_Name_used _ _ _ _ hsw]
  refine wpAny_bind (wpAny_standAt (wpAny_bind ?_))
  show wpAny _ A (do let _ ← comprehension (.ListComp elt [⟨.Name x px, iter, [ct], 0⟩] scope pos) scope env _ (newList []) false (eval iter env) (some (assign (.Name y py) env))) _ _ s
  refine wpAny_bind (wpAny_mono (wpAny_comprehension_free (use := some (assign (.Name y py) env)) (Q := fun _ s' => Q .next s') rfl hs hclos hkind hnames
    (wpAny_mono h (fun xv s₁ h₁ => ?_) fun _ _ e => e)) (fun _ s' hq => wpAny_pure (wpAny_pure hq)) fun _ _ e => e)
  obtain ⟨t, u, news, rfl, hh, F, N, hsz, R⟩ := h₁
  cases ha : t.cps.all (· < 128)
  · refine wpAny_pyIter_wide ha ?_
    refine LCt.block_T (Walks.strWide hh s₁.heap.objs.size t u) hsz (fun i h st => by obtain ⟨o, e, _⟩ := st; exact ⟨o, e⟩) (fun i h h' o nw st e e' _ _ _ => by obtain ⟨o2, e2, r⟩ := st; rw [e] at e2; cases e2; exact ⟨o, e', r⟩) hcell hkind hx ⟨_, Heap.get?_push_size _ rfl, rfl, rfl⟩ (fun b hb => ?_)
      (F.keeps fun _ _ e => Heap.get?_push_of_some _ e) (N.grown fun _ _ e => Heap.get?_push_of_some _ e) (Nat.ne_of_lt F.ns.lt) (next_is_new F) (fun p hp => Nat.ne_of_lt (Heap.lt_size (N p hp).1)) trivial (R _) ?_
    · rw [List.mem_singleton.mp hb]
      show s₁.heap.objs.size < (s₁.heap.push _).objs.size
      rw [Heap.size_push]; exact Nat.lt_succ_self _
    · intro D C h' tk m' ys news' F' N' o1 hn hC₀ hD₀ hCL hDL hCD offC fin
      show wpAny _ A (assign (.Name y py) env (.ref D)) _ _ _
      refine wpAny_assign_Name (wpAny_storeName_local hy F'.ns (fun h₂ hn₂ hs₂ => ?_) hp)
      have hL₀ : h₀.get? env.locals = none := Heap.get?_none_of_le F'.above
      have F₂ : Fr h₀ env.locals h₂ (fun z => if z = y then some (.ref D) else m z) := ⟨hn₂, fun b o e => hs₂.extBut b o (fun q => by rw [q, hL₀] at e; cases e) (F'.keep b o e), F'.above⟩
      refine ⟨m', hn.sameBut hs₂ hCL, fun h'' hs'' => fin D h'' _ (F₂.change hs'' hCL hC₀) (fun p hp => ?_) o1⟩
      have z : h₂.get? p.1 = some p.2 := hs₂.extBut _ _ (N' p hp).2.1 (N' p hp).1
      refine ⟨hs''.extBut _ _ ?_ z, (N' p hp).2⟩
      rcases List.mem_cons.mp hp with rfl | hp
      · exact Ne.symm hCD
      · exact offC p hp
  · refine wpAny_pyIter_ascii ha ?_
    refine LCt.block_T (Walks.strAscii hh s₁.heap.objs.size t u) hsz (fun i h st => by obtain ⟨o, e, _⟩ := st; exact ⟨o, e⟩) (fun i h h' o nw st e e' _ _ _ => by obtain ⟨o2, e2, r⟩ := st; rw [e] at e2; cases e2; exact ⟨o, e', r⟩) hcell hkind hx ⟨_, Heap.get?_push_size _ rfl, rfl, rfl⟩ (fun b hb => ?_)
      (F.keeps fun _ _ e => Heap.get?_push_of_some _ e) (N.grown fun _ _ e => Heap.get?_push_of_some _ e) (Nat.ne_of_lt F.ns.lt) (next_is_new F) (fun p hp => Nat.ne_of_lt (Heap.lt_size (N p hp).1)) trivial (R _) ?_
    · rw [List.mem_singleton.mp hb]
      show s₁.heap.objs.size < (s₁.heap.push _).objs.size
      rw [Heap.size_push]; exact Nat.lt_succ_self _
    · intro D C h' tk m' ys news' F' N' o1 hn hC₀ hD₀ hCL hDL hCD offC fin
      show wpAny _ A (assign (.Name y py) env (.ref D)) _ _ _
      refine wpAny_assign_Name (wpAny_storeName_local hy F'.ns (fun h₂ hn₂ hs₂ => ?_) hp)
      have hL₀ : h₀.get? env.locals = none := Heap.get?_none_of_le F'.above
      have F₂ : Fr h₀ env.locals h₂ (fun z => if z = y then some (.ref D) else m z) := ⟨hn₂, fun b o e => hs₂.extBut b o (fun q => by rw [q, hL₀] at e; cases e) (F'.keep b o e), F'.above⟩
      refine ⟨m', hn.sameBut hs₂ hCL, fun h'' hs'' => fin D h'' _ (F₂.change hs'' hCL hC₀) (fun p hp => ?_) o1⟩
      have z : h₂.get? p.1 = some p.2 := hs₂.extBut _ _ (N' p hp).2.1 (N' p hp).1
      refine ⟨hs''.extBut _ _ ?_ z, (N' p hp).2⟩
      rcases List.mem_cons.mp hp with rfl | hp
      · exact Ne.symm hCD
      · exact offC p hp
end

end Mine
namespace Mine
local macro_rules | `(tactic| omega) => `(tactic| first | assumption | exact Nat.ne_of_lt (by assumption) | exact Nat.ne_of_gt (by assumption) | exact Nat.le_of_lt (by assumption) | lia | omega (config := {}))
section
variable {prog : Program} {w : World} {A : Around} {E : Value → Shared → Prop} {s : Shared} {h₀ : Heap} {L : Addr} {m : Str → Option Value} {news : List (Addr × Obj)} {Q : Value → Shared → Prop}
theorem list_strK {b : Nat} {r : List Nat} {t : Tok} (hh : A.handled = none) (F : Fr h₀ L s.heap m) (N : News h₀ L s.heap news) (hr : r.length < 1000)
    (h : ∀ h' tk ys n, LR (fun k v => StrV (sg b k) v) r ys → Fr h₀ L h' m → News h₀ L h' ((s.heap.objs.size, lsO ys n) :: news) → (∀ p ∈ news, @LT.lt Nat _ p.1 s.heap.objs.size) → Q (.ref s.heap.objs.size) { s with heap := h', toks := tk }) :
    wpAny (model prog w) A (call (.type "list") [.str (strOf b r) t]) Q E s := by
  have hsz : (strOf b r).cps.size = r.length := strOf_len b r
  refine call_list_str hh _ t (hn := by rw [hsz, sizeLine_eq]; omega) fun h' tk acc' c' hk hS' hacc => ?_
  refine h h' tk acc'.toList c' ?_ (F.keeps hk) (fun p hp => ?_) fun p hp => Heap.lt_size (N p hp).1
  · have key : ∀ (r : List Nat) (vs : List Value), vs.length = r.length → (∀ (i : Nat) (v : Value), vs[i]? = some v → ∃ k : Nat, r[i]? = some k ∧ StrV (sg b k) v) → LR (fun k v => StrV (sg b k) v) r vs := by
      intro r
      induction r with
      | nil => intro vs hl _; cases vs with | nil => exact .nil | cons _ _ => cases hl
      | cons a r ih =>
        intro vs hl hv
        cases vs with
        | nil => cases hl
        | cons v vs =>
          obtain ⟨k, hk, hs⟩ := hv 0 v rfl
          simp at hk; subst hk
          exact .cons hs (ih vs (by simpa using hl) fun i v e => by simpa using hv (i + 1) v (by simpa using e))
    refine key r _ (by rw [Array.length_toList, hacc.1, hsz]) fun i v e => ?_
    exact signAt_strOf (hacc.2 i v (by simpa using e))
  · rcases List.mem_cons.mp hp with rfl | hp
    · refine ⟨by simpa using hS', ?_, ?_⟩
      · exact Ne.symm (Nat.ne_of_lt F.ns.lt)
      · exact next_is_new F
    · exact ⟨hk _ _ (N p hp).1, (N p hp).2⟩

/-- two values that are equal, whatever stands about -/
def EqT (A : Around) (s : Shared) (u v : Value) : Prop := PySem.SeqAt.EqAt A s u v true
theorem eqT_str {x : Str} {u v : Value} (hu : StrV x u) (hv : StrV x v) : EqT A s u v := by
  obtain ⟨t, rfl⟩ := hu; obtain ⟨t', rfl⟩ := hv
  have := PySem.SeqAt.EqAt.str_str (A := A) (s := s) x t x t'
  rw [beq_self_eq_true] at this; exact this
theorem eqT_int {x : Int} {u v : Value} (hu : IntV x u) (hv : IntV x v) : EqT A s u v := by
  obtain ⟨t, rfl⟩ := hu; obtain ⟨t', rfl⟩ := hv
  have := PySem.SeqAt.EqAt.int_int (A := A) (s := s) x t x t'
  rw [beq_self_eq_true] at this; exact this
theorem LR.both {α : Type} {R : α → Value → Prop} {as : List α} {us vs : List Value} (hu : LR R as us) (hv : LR R as vs) (j : Nat) (u v : Value) (eu : us[j]? = some u) (ev : vs[j]? = some v) : ∃ a, R a u ∧ R a v := by
  obtain ⟨a, ha, hr⟩ := hu.get j u eu
  obtain ⟨a', ha', hr'⟩ := hv.get j v ev
  rw [ha] at ha'; cases ha'
  exact ⟨a, hr, hr'⟩
theorem eqT_lists {α : Type} {R : α → Value → Prop} {as : List α} {us vs : List Value} {l b : Addr} (hl : s.heap.IsList l us.toArray) (hb : s.heap.IsList b vs.toArray) (hne : l ≠ b) (hu : LR R as us) (hv : LR R as vs) (hun : A.units < cLine)
    (h : ∀ a u v, R a u → R a v → EqT A.in1 s u v) : EqT A s (.ref l) (.ref b) := by
  refine PySem.SeqAt.EqAt.of_refs hne ?_
  have hlen : us.toArray.size = vs.toArray.size := by rw [List.size_toArray, List.size_toArray, hu.length, hv.length]
  have := PySem.SeqAt.RcAt.lists (e := fun _ => true) hl hb hlen hun fun j h1 h2 => by
    obtain ⟨a, r1, r2⟩ := hu.both hv j us.toArray[j] vs.toArray[j] (by simp at h1; simp [h1]) (by simp at h2; simp [h2])
    exact h a _ _ r1 r2
  rw [show (List.range us.toArray.size).all (fun _ => true) = true by simp] at this
  exact this
theorem neT_lists {us vs : List Value} {l b : Addr} (hl : s.heap.IsList l us.toArray) (hb : s.heap.IsList b vs.toArray) (hlen : us.length = vs.length) (hun : A.units < cLine)
    (h : ∀ (j : Nat) (u v : Value), us[j]? = some u → vs[j]? = some v → EqT A.in1 s u v) (hq : Q (.bool false) s) : wpAny (model prog w) A (compareOp .NotEq (.ref l) (.ref b)) Q E s := by
  have := PySem.SeqAt.RcNeAt.lists (e := fun _ => true) hl hb (by simpa using hlen) hun (fun j h1 h2 => h j _ _ (by simp at h1; simp [h1]) (by simp at h2; simp [h2])) prog w E Q
  rw [show (List.range us.toArray.size).all (fun _ => true) = true by simp] at this
  exact this hq
end
section
variable {prog : Program} {w : World} {A : Around} {h₀ : Heap} {L : Addr} {m : Str → Option Value} {env : Env} {elt ct : Expr} {x : Str} {scope : Scope} {cl : List (Str × Addr)} {s : Shared} {S : List (Addr × Obj) → Prop} {P : Nat → Value → Prop} {Fin : List Value → List (Addr × Obj) → Prop} {news : List (Addr × Obj)}
theorem restTN {α β : Type} (g : α → Tok → Value) {R' : β → Value → Prop} {as : List α} {c : Nat} (hc : as.length = c) (p : α → Bool) (f : α → β) (hS : S news) (hP : ∀ i v, i < c → P i v → ∃ a, as[i]? = some a ∧ ∃ t, v = g a t)
    (test : ∀ a t I oI C oC D m₂ ys (sh : Shared) (E' : Value → Shared → Prop), a ∈ as → LCg.NsObj oC m₂ → m₂ x = some (g a t) → Fr h₀ L sh.heap m → News h₀ L sh.heap ((I, oI) :: (C, oC) :: (D, LCg.lst ys) :: news) → LCg.Off3 I C D news → Apart3 I C D →
      ∀ K : Bool → Shared → Prop, (∀ y s', TEnd h₀ L m sh I oI C oC D ys news (p a) y s' → K y s') →
      wpAny (model prog w) A (isTrue ct (compEnvC scope cl C env) (eval ct (compEnvC scope cl C env))) K E' sh)
    (turn : ∀ a t I oI C oC D m₂ ys (sh : Shared) (E' : Value → Shared → Prop), a ∈ as → LCg.NsObj oC m₂ → m₂ x = some (g a t) → Fr h₀ L sh.heap m → News h₀ L sh.heap ((I, oI) :: (C, oC) :: (D, LCg.lst ys) :: news) → LCg.Off3 I C D news → Apart3 I C D →
      ∀ K : Value → Shared → Prop, (∀ y s', CEnd h₀ L m sh I oI C oC D ys news (R' (f a)) y s' → K y s') →
      wpAny (model prog w) A (eval elt (compEnvC scope cl C env)) K E' sh)
    (fin : ∀ ys, LR R' ((as.filter p).map f) ys → Fin ys news) : LCt.CompRestT prog w A h₀ L m env ct elt x scope cl s S P Fin c 0 [] news := by
  subst hc
  exact restT g p f hS hP test turn fin
theorem restN {α β : Type} (g : α → Tok → Value) {R' : β → Value → Prop} {as : List α} {c : Nat} (hc : as.length = c) (f : α → β) (hS : S news) (hP : ∀ i v, i < c → P i v → ∃ a, as[i]? = some a ∧ ∃ t, v = g a t)
    (turn : ∀ a t I oI C oC D m₂ ys (sh : Shared) (E' : Value → Shared → Prop), a ∈ as → LCg.NsObj oC m₂ → m₂ x = some (g a t) → Fr h₀ L sh.heap m → News h₀ L sh.heap ((I, oI) :: (C, oC) :: (D, LCg.lst ys) :: news) → LCg.Off3 I C D news → Apart3 I C D →
      ∀ K : Value → Shared → Prop, (∀ y s', CEnd h₀ L m sh I oI C oC D ys news (R' (f a)) y s' → K y s') →
      wpAny (model prog w) A (eval elt (compEnvC scope cl C env)) K E' sh)
    (fin : ∀ ys, LR R' (as.map f) ys → Fin ys news) : LCg.CompRest prog w A h₀ L m env elt x scope cl s S P Fin c 0 [] news := by
  subst hc
  exact rest_map g f hS hP turn fin
end
theorem mul_sg {b r0 k : Nat} : Txt.mul (sg b r0) (k : Int) = strOf b (List.replicate k r0) := by
  exact mul_sgP
theorem eqK_ints {prog : Program} {w : World} {A : Around} {E : Value → Shared → Prop} {s : Shared} {Q : Value → Shared → Prop} {as : List Nat} {us vs : List Value} {l b : Addr} (hl : s.heap.IsList l us.toArray) (hb : s.heap.IsList b vs.toArray) (hu : LR (fun (k : Nat) v => IntV k v) as us) (hv : LR (fun (k : Nat) v => IntV k v) as vs) (hun : A.units < cLine)
    (hq : Q (.bool true) s) : wpAny (model prog w) A (compareOp .Eq (.ref l) (.ref b)) Q E s := by
  have hlen : us.toArray.size = vs.toArray.size := by rw [List.size_toArray, List.size_toArray, hu.length, hv.length]
  refine PySem.SeqAt.eq_listAt (e := fun _ => true) hl hb hlen hun (fun j h1 h2 => ?_) (by rw [show (List.range us.toArray.size).all (fun _ => true) = true by simp]; exact hq)
  obtain ⟨a, r1, r2⟩ := hu.both hv j us.toArray[j] vs.toArray[j] (by simp at h1; simp [h1]) (by simp at h2; simp [h2])
  exact eqT_int r1 r2

end Mine
namespace Mine
def OkP (p : Str) : Prop := Dotless p ∧ p.length ≤ 1
theorem ok_sg {b k : Nat} (hb : 48 ≤ b) : OkP (sg b k) := ⟨sg_dotless hb, Nat.le_refl _⟩
theorem ok_nil : OkP (Str.ofString "") := ⟨by unfold Dotless; decide, by decide⟩
theorem ellJ_spec {w : World} {A : Around} {s : Shared} {E : Value → Shared → Prop} {ps mid : List Str} {f g x : Str} {ta tb : Tok} (R : Rm A 1) (W : Wd w s.heap) (hps : ps = f :: (mid ++ [g])) (hok : ∀ p ∈ ps, OkP p) (hl : ps.length < 100) (lx : x.length < 1000) :
  wpAny (model PySem.Challenge.rw_ti0023_01.row.prog w) A (call (.ref 21) [.str (Str.join dots ps) ta, .str x tb]) (Out s fun v _ => v = .bool (ellDots f mid g x)) E s := by
  have hl2 : 2 ≤ ps.length := by rw [hps]; simp
  have hjl := join_len (B := 1) (ps := ps) fun p hp => (hok p hp).2
  have hml : mid.length < 1000 := by have := congrArg List.length hps; simp at this; omega
  have one : ∀ p ∈ ps, p.length < 1000 := fun p hp => Nat.lt_of_le_of_lt (hok p hp).2 (by decide)
  exact ell_dots R W (by omega) lx (occ_join hl2) ((split_join hl2 fun p hp => (hok p hp).1).trans hps) (one f (by rw [hps]; simp)) (one g (by rw [hps]; simp)) hml fun y hy => one y (by rw [hps]; simp [hy])
local macro_rules | `(tactic| walk_at "eval ListComp") => `(tactic| (k_here; refine Here.out ?_))
local macro_rules | `(tactic| walk_at "exec Assign cons ListComp") => `(tactic| (k_here; refine Here.out ?_))
local macro_rules | `(tactic| walk_at "CompSrcT") => `(tactic| (k_here; refine Here.out ?_))
local macro_rules | `(tactic| walk_at "call type:range") => `(tactic| (k_here; k_dflt (refine range1_rows (by assumption) (by assumption) ?_); refine Here.out ?_))
local macro_rules | `(tactic| walk_at "subscriptTail Name Slice str ref") => `(tactic| (k_here; refine Here.out ?_))
local macro_rules | `(tactic| walk_at "compareOp NotEq ref ref") => `(tactic| (k_here; refine Here.out ?_))
local macro_rules | `(tactic| walk_at "compareOp Eq ref ref") => `(tactic| (k_here; refine Here.out ?_))
local macro_rules | `(tactic| walk_at "call ref") => `(tactic| (k_here; refine Here.out ?_))
theorem LR.one {f : Nat → Str} {x : Nat} {vs : List Value} (h : LR (fun (k : Nat) v => StrV (f k) v) [x] vs) : ∃ t, vs = [.str (f x) t] := by
  cases h with | cons h1 h2 => cases h2; obtain ⟨t, rfl⟩ := h1; exact ⟨t, rfl⟩
theorem alone_spec {w : World} {A : Around} {s : Shared} {E : Value → Shared → Prop} {b n r0 z : Nat} {r mid : List Nat} {tx ty : Tok} (R : Rm A 3) (W : Wd w s.heap) (hb : 48 ≤ b)
    (hr : r.length = n) (hn : n = 5 ∨ n = 6) (hrm : r = r0 :: (mid ++ [z]))
    (hB : r.filter (fun k => ellDots (sg b k) [] (Str.ofString "") (strOf b r)) = [r0])
    (hE : r.filter (fun k => ellDots (Str.ofString "") [] (sg b k) (strOf b r)) = [z])
    (hW : r.filter (fun k => ellDots (sg b r0) [sg b k] (sg b z) (strOf b r)) = mid)
    (hP : (List.range (n + 1)).filter (fun k => strOf b (r.take k) == strOf b r) = [n])
    (hJ : (List.range 4).filter (fun k => ellDots (sg b r0) [] (sg b r0) (strOf b (List.replicate k r0))) = [2, 3])
    (hL : (List.range 4).filter (fun k => ellDots (Str.ofString "") [sg b r0, sg b r0] (Str.ofString "") (strOf b (List.replicate k r0))) = [2, 3]) :
  wpAny (model PySem.Challenge.rw_ti0023_01.row.prog w) A (call (.ref 142) [.str (strOf b r) tx, .str (sg b z) ty]) (Out s fun v _ => v = .bool true) E s := by
  revert W; obtain ⟨hnd, dp, fr, gd, un⟩ := A; obtain ⟨rfl, hdp, hun⟩ := R; dsimp only at hdp hun
  intro W; have X := W.X; revert X; k_fill; intro X; obtain ⟨p, loose, mean, mg, mb, T⟩ := W.T
  refine enterC (binds := [(Str.ofString "text", .str (strOf b r) tx), (Str.ofString "last", .str (sg b z) ty)]) X T (by k_is) (by k_is) (by show dp < 1000; omega) (BindsTo.of_eq rfl) rfl (by decide) rfl rfl rfl ?_
  intro L' h' tk' cells F' N' Y'
  k_cells Y'
  obtain ⟨m0, e0, F'⟩ : ∃ m0, m0 (Str.ofString "last") = some (.str (sg b z) ty) ∧ Fr s.heap L' h' m0 := ⟨_, rfl, F'⟩
  replace F' := know F' e0
  refine wpK ?_
  intro K0 hK0
  have hn5 : 5 ≤ n := by rcases hn with rfl | rfl <;> decide
  have hn6 : n ≤ 6 := by rcases hn with rfl | rfl <;> decide
  clear hn
  (try simp only [List.cons_append, List.nil_append] at N')
  have hrl : (strOf b r).length = r.length := strOf_len b r
  k_steps
  have it0 : Txt.item (strOf b r) 0 = sg b r0 := by rw [hrm, item_strOf]
  have hcz : (strOf b r).cps.size = r.length := hrl
  rename _ = Data.cell (some _) => dF
  rw [it0] at dF
  have hml : mid.length + 2 = n := by rw [← hr, hrm]; simp
  have itz : Txt.item (strOf b r) (-1) = sg b z := by rw [hrm, item_strOfL]
  refine Here.in ?_
  (rename News _ _ _ _ => N1); (rename Fr _ _ _ _ => F1)
  refine assign_textComp F1 (by with_unfolding_all rfl) (by with_unfolding_all rfl) (by decide) (by rfl) (by decide) (by rfl) (by rfl) (by rfl) ?_
  k_steps
  refine ⟨strOf b r, _, _, rfl, rfl, F1, N1, by rw [hcz, sizeLine_eq]; omega, fun g => ?_⟩
  rw [hcz]
  refine restT (g := fun (k : Nat) t => .str (sg b k) t) (R' := fun (k : Nat) v => StrV (sg b k) v) (as := r) (fun k => ellDots (sg b k) [] (Str.ofString "") (strOf b r)) (fun k => k) trivial (fun i v _ hv => signAt_strOf hv) ?_ ?_ ?_
  · intro k t I oI C oC D m₂ ys sh E' hk hC hx F N off ne K hK
    k_steps
    refine Here.in ?_
    (rename News _ _ _ _ => N2); (rename Fr _ _ _ _ => F2)
    refine useS (concat_str_spec (rmK hdp hun (by decide)) (W.keeps F2.keep) (by rw [sg_len]; omega) (by decide)) F2 N2 ?_
    rw [concat_right]
    intro u2 h2 tk2 F3 N3
    clear F2 N2
    k_steps
    refine Here.in ?_
    (rename News _ _ _ _ => N2); (rename Fr _ _ _ _ => F2)
    refine useB (ellJ_spec (f := sg b k) (mid := []) (g := Str.ofString "") (rmK hdp hun (by decide)) (W.keeps F2.keep) rfl (fun p hp => by simp only [List.mem_cons, List.not_mem_nil, or_false] at hp; rcases hp with rfl | rfl <;> first | exact ok_sg hb | exact ok_nil) (by simp) (by rw [hrl]; omega)) F2 N2 ?_
    intro h3 tk3 F4 N4
    clear F2 N2
    k_steps
    (refine hK _ _ ?_); exact TEnd.intro (by assumption) (by assumption) (by exact fun p hp => sub [0, 1, 2, 3, 4] p hp) rfl
  · intro k t I oI C oC D m₂ ys sh E' hk hC hx F N off ne K hK
    k_steps
    (refine hK _ _ ?_); exact CEnd.intro (by assumption) (by assumption) (by exact fun p hp => sub [0, 1, 2, 3, 4] p hp) ⟨_, rfl⟩
  · intro ys hys_begin
    rw [List.map_id', hB] at hys_begin
    obtain ⟨t_begin, rfl⟩ := LR.one hys_begin
    intro D_begin h1 tk1 F2 N2 O_begin
    clear F1 N1
    k_steps
    refine Here.in ?_
    (rename News _ _ _ _ => N1); (rename Fr _ _ _ _ => F1)
    refine assign_textComp F1 (by with_unfolding_all rfl) (by with_unfolding_all rfl) (by decide) (by rfl) (by decide) (by rfl) (by rfl) (by rfl) ?_
    k_steps
    refine ⟨strOf b r, _, _, rfl, rfl, F1, N1, by rw [hcz, sizeLine_eq]; omega, fun g => ?_⟩
    rw [hcz]
    refine restT (g := fun (k : Nat) t => .str (sg b k) t) (R' := fun (k : Nat) v => StrV (sg b k) v) (as := r) (fun k => ellDots (Str.ofString "") [] (sg b k) (strOf b r)) (fun k => k) trivial (fun i v _ hv => signAt_strOf hv) ?_ ?_ ?_
    · intro k t I oI C oC D m₂ ys sh E' hk hC hx F N off ne K hK
      k_steps
      refine Here.in ?_
      (rename News _ _ _ _ => N2); (rename Fr _ _ _ _ => F2)
      refine useS (concat_str_spec (rmK hdp hun (by decide)) (W.keeps F2.keep) (by decide) (by rw [sg_len]; omega)) F2 N2 ?_
      rw [concat_left]
      intro u2 h2 tk2 F3 N3
      clear F2 N2
      k_steps
      refine Here.in ?_
      (rename News _ _ _ _ => N2); (rename Fr _ _ _ _ => F2)
      refine useB (ellJ_spec (f := Str.ofString "") (mid := []) (g := sg b k) (rmK hdp hun (by decide)) (W.keeps F2.keep) rfl (fun p hp => by simp only [List.mem_cons, List.not_mem_nil, or_false] at hp; rcases hp with rfl | rfl <;> first | exact ok_sg hb | exact ok_nil) (by simp) (by rw [hrl]; omega)) F2 N2 ?_
      intro h3 tk3 F4 N4
      clear F2 N2
      k_steps
      (refine hK _ _ ?_); exact TEnd.intro (by assumption) (by assumption) (by exact fun p hp => sub [0, 1, 2, 3, 4, 5] p hp) rfl
    · intro k t I oI C oC D m₂ ys sh E' hk hC hx F N off ne K hK
      k_steps
      (refine hK _ _ ?_); exact CEnd.intro (by assumption) (by assumption) (by exact fun p hp => sub [0, 1, 2, 3, 4, 5] p hp) ⟨_, rfl⟩
    · intro ys hys_end
      rw [List.map_id', hE] at hys_end
      obtain ⟨t_end, rfl⟩ := LR.one hys_end
      intro D_end h1 tk1 F2 N2 O_end
      clear F1 N1
      k_steps
      refine Here.in ?_
      (rename News _ _ _ _ => N1); (rename Fr _ _ _ _ => F1)
      refine assign_textComp F1 (by with_unfolding_all rfl) (by with_unfolding_all rfl) (by decide) (by rfl) (by decide) (by rfl) (by rfl) (by rfl) ?_
      k_steps
      refine ⟨strOf b r, _, _, rfl, rfl, F1, N1, by rw [hcz, sizeLine_eq]; omega, fun g => ?_⟩
      rw [hcz]
      refine restT (g := fun (k : Nat) t => .str (sg b k) t) (R' := fun (k : Nat) v => StrV (sg b k) v) (as := r) (fun k => ellDots (sg b r0) [sg b k] (sg b z) (strOf b r)) (fun k => k) trivial (fun i v _ hv => signAt_strOf hv) ?_ ?_ ?_
      · intro k t I oI C oC D m₂ ys sh E' hk hC hx F N off ne K hK
        k_steps
        (rename News _ _ _ _ => N2); (rename Fr _ _ _ _ => F2)
        refine join_K (News.isList N2 (.head _)) (ys := [sg b r0, sg b k, sg b z]) (.cons ⟨_, rfl⟩ (.cons ⟨_, rfl⟩ (.cons ⟨_, by rw [itz]⟩ .nil))) (by intro y hy; simp only [List.mem_cons, List.not_mem_nil, or_false] at hy; rcases hy with rfl | rfl | rfl <;> exact (by decide : 1 ≤ 1000)) (by simp) (by decide) ?_
        intro tj kj
        k_steps
        refine Here.in ?_
        refine useB (ellJ_spec (f := sg b r0) (mid := [sg b k]) (g := sg b z) (rmK hdp hun (by decide)) (W.keeps F2.keep) rfl (fun p hp => by simp only [List.mem_cons, List.not_mem_nil, or_false] at hp; rcases hp with rfl | rfl | rfl <;> first | exact ok_sg hb | exact ok_nil) (by simp) (by rw [hrl]; omega)) F2 N2 ?_
        intro h3 tk3 F4 N4
        clear F2 N2
        k_steps
        (refine hK _ _ ?_); exact TEnd.intro (by assumption) (by assumption) (by exact fun p hp => sub [1, 2, 3, 4, 5, 6, 7] p hp) rfl
      · intro k t I oI C oC D m₂ ys sh E' hk hC hx F N off ne K hK
        k_steps
        (refine hK _ _ ?_); exact CEnd.intro (by assumption) (by assumption) (by exact fun p hp => sub [0, 1, 2, 3, 4, 5, 6] p hp) ⟨_, rfl⟩
      · intro ys hys_within
        rw [List.map_id', hW] at hys_within
        rename List Value => ys_within
        intro D_within h1 tk1 F2 N2 O_within
        clear F1 N1
        k_steps
        refine Here.in ?_
        (rename News _ _ _ _ => N1); (rename Fr _ _ _ _ => F1)
        refine LCt.Assign_ListComp_T F1 (by rfl) (by with_unfolding_all rfl) (by with_unfolding_all rfl) (by decide) (by rfl) (by decide) (by rfl) (by rfl) (by rfl) ?_
        k_steps
        refine Here.in ?_
        clear F1 N1
        intro h1 tk1 t1 u1 v1 R1 F1 N1 K1
        (try k_steps)
        (try refine Here.in ?_)
        refine LCt.CompSrcT.range (n := n + 1) rfl F1 N1 R1 (small_one (by omega) (by omega) (by omega) (by omega)) (by rw [rangeSize_nat]; omega) (by rw [sizeLine_eq]; omega) ?_
        intro g'
        refine restTN (List.length_range (n := n + 1)) (g := fun (k : Nat) t => .int (k : Int) t) (R' := fun (k : Nat) v => IntV k v) (as := List.range (n + 1)) (fun k => strOf b (r.take k) == strOf b r) (fun k => k) trivial ?_ ?_ ?_ ?_
        · rintro q v hq ⟨t, rfl⟩
          exact ⟨q, by rw [List.getElem?_range hq], t, by rw [Int.zero_add]⟩
        · intro k t I oI C oC D m₂ ys sh E' hk hC hx F N off ne K hK
          have hk2 : k < n + 1 := List.mem_range.mp hk
          k_steps
          refine Here.in ?_
          (rename News _ _ _ _ => N2); (rename Fr _ _ _ _ => F2)
          k_dflt (refine slice_strN_ns F2 N2 ?_ (by with_unfolding_all rfl) (by intro _; with_unfolding_all rfl) (by rw [hrl, sizeLine_eq]; omega))
          intro h2 t2 k2 F3 N3
          rw [slice_take (by omega)]
          clear F2 N2
          k_steps
          refine Here.in ?_
          (rename News _ _ _ _ => N2); (rename Fr _ _ _ _ => F2)
          refine useB (ell_plain (rmK hdp hun (by decide)) (W.keeps F2.keep) (occ_dotless (strOf_dotless hb))) F2 N2 ?_
          intro h3 tk3 F4 N4
          clear F2 N2
          k_steps
          (refine hK _ _ ?_); exact TEnd.intro (by assumption) (by assumption) (by exact fun p hp => sub [0, 1, 2, 3, 4, 5, 6, 7] p hp) rfl
        · intro k t I oI C oC D m₂ ys sh E' hk hC hx F N off ne K hK
          k_steps
          (refine hK _ _ ?_); exact CEnd.intro (by assumption) (by assumption) (by exact fun p hp => sub [0, 1, 2, 3, 4, 5, 6, 7] p hp) ⟨_, rfl⟩
        · intro ys hys_plain
          rw [List.map_id', hP] at hys_plain
          have hys_plain := hys_plain
          rename List Value => ys_plain
          intro D_plain h1 tk1 F2 N2 O_plain
          clear F1 N1
          k_steps
          refine Here.in ?_
          (rename News _ _ _ _ => N2); (rename Fr _ _ _ _ => F2)
          k_dflt (refine slice_strN_ss F2 N2 ?_ (by with_unfolding_all rfl) (by intro _; with_unfolding_all rfl) (by rw [hrl, sizeLine_eq]; omega))
          intro h2 t2 k2 F3 N3
          rw [show Txt.slice (strOf b r) (some 1) (some (-1)) = strOf b mid by rw [hrm, slice_mid]]
          clear F2 N2
          k_steps
          (rename News _ _ _ _ => N2); (rename Fr _ _ _ _ => F2)
          refine list_strK rfl F2 N2 (by omega) ?_
          intro h3 tk3 ys_l n_l hls F3 N3 l3
          clear F2 N2
          k_steps
          refine Here.in ?_
          (rename News _ _ _ _ => N2); (rename Fr _ _ _ _ => F2)
          refine neT_lists (us := [.ref D_begin, .ref D_end, .ref D_within, .ref D_plain]) (vs := [.ref _, .ref _, .ref _, .ref _]) (News.isList N2 (by k_mem)) (News.isList N2 (.head _)) rfl (by show un + 3 < 9900; omega) ?_ ?_
          · intro j u v eu ev
            rcases j with _ | _ | _ | _ | j
            · cases eu; cases ev
              exact eqT_lists (R := fun (k : Nat) v => StrV (sg b k) v) (as := [r0]) (News.isList N2 (by k_mem)) (News.isList N2 (by k_mem)) (fun e => by have e' : @Eq Nat _ _ := e; omega) (.cons ⟨_, rfl⟩ .nil) (.cons ⟨_, rfl⟩ .nil) (by show un + 3 + 1 < 9900; omega) fun a u v h1 h2 => eqT_str h1 h2
            · cases eu; cases ev
              exact eqT_lists (R := fun (k : Nat) v => StrV (sg b k) v) (as := [z]) (News.isList N2 (by k_mem)) (News.isList N2 (by k_mem)) (fun e => by have e' : @Eq Nat _ _ := e; omega) (.cons ⟨_, rfl⟩ .nil) (.cons ⟨_, rfl⟩ .nil) (by show un + 3 + 1 < 9900; omega) fun a u v h1 h2 => eqT_str h1 h2
            · cases eu; cases ev
              exact eqT_lists (R := fun (k : Nat) v => StrV (sg b k) v) (as := mid) (News.isList N2 (by k_mem)) (News.isList N2 (by k_mem)) (fun e => by have e2 : @LT.lt Nat _ D_within _ := l3 (D_within, LCg.lst ys_within) (by k_mem); have e' : @Eq Nat _ _ := e; dsimp only at e2 e'; omega) hys_within hls (by show un + 3 + 1 < 9900; omega) fun a u v h1 h2 => eqT_str h1 h2
            · cases eu; cases ev
              exact eqT_lists (R := fun (k : Nat) v => IntV k v) (as := [n]) (News.isList N2 (by k_mem)) (News.isList N2 (by k_mem)) (fun e => by have e' : @Eq Nat _ _ := e; omega) hys_plain (.cons ⟨_, by rw [hrl, hr]⟩ .nil) (by show un + 3 + 1 < 9900; omega) fun a u v h1 h2 => eqT_int h1 h2
            · cases eu
          k_steps
          refine Here.in ?_
          (rename News _ _ _ _ => N1); (rename Fr _ _ _ _ => F1)
          replace N1 : News _ _ _ [(L' + 1 + 1, _), (L' + 1, _)] := fun p hp => N1 p (sub [10, 11] p hp)
          clear l3
          refine LCt.Assign_ListComp_T F1 (by rfl) (by with_unfolding_all rfl) (by with_unfolding_all rfl) (by decide) (by rfl) (by decide) (by rfl) (by rfl) (by rfl) ?_
          k_steps
          refine Here.in ?_
          clear F1 N1
          intro h1 tk1 t1 u1 v1 R1 F1 N1 K1
          (try k_steps)
          (try refine Here.in ?_)
          refine LCt.CompSrcT.range (n := 4) rfl F1 N1 R1 (small_one (by omega) (by omega) (by omega) (by omega)) (by rw [rangeSize_nat]; omega) (by rw [sizeLine_eq]; omega) ?_
          intro g'
          refine restTN (List.length_range (n := 4)) (g := fun (k : Nat) t => .int (k : Int) t) (R' := fun (k : Nat) v => IntV k v) (as := List.range (4)) (fun k => ellDots (sg b r0) [] (sg b r0) (strOf b (List.replicate k r0))) (fun k => k) trivial ?_ ?_ ?_ ?_
          · rintro q v hq ⟨t, rfl⟩
            exact ⟨q, by rw [List.getElem?_range hq], t, by rw [Int.zero_add]⟩
          · intro k t I oI C oC D m₂ ys sh E' hk hC hx F N off ne K hK
            have hk2 : k < 4 := List.mem_range.mp hk
            k_steps
            (rename News _ _ _ _ => N2); (rename Fr _ _ _ _ => F2)
            refine join_K (News.isList N2 (.head _)) (ys := [sg b r0, sg b r0]) (.cons ⟨_, rfl⟩ (.cons ⟨_, rfl⟩ .nil)) (by intro y hy; simp only [List.mem_cons, List.not_mem_nil, or_false] at hy; rcases hy with rfl | rfl <;> exact (by decide : 1 ≤ 1000)) (by simp) (by decide) ?_
            intro tj kj
            k_steps
            refine SB.mul (mulOk_of 16 1048576 (by rw [sg_len]; decide) (by omega) (by omega) (by decide) (by decide)) ?_
            rw [mul_sg]
            intro t3 k3
            k_steps
            refine Here.in ?_
            (rename News _ _ _ _ => N2); (rename Fr _ _ _ _ => F2)
            refine useB (ellJ_spec (f := sg b r0) (mid := []) (g := sg b r0) (rmK hdp hun (by decide)) (W.keeps F2.keep) rfl (fun p hp => by simp only [List.mem_cons, List.not_mem_nil, or_false] at hp; rcases hp with rfl | rfl <;> first | exact ok_sg hb | exact ok_nil) (by simp) (by rw [strOf_len, List.length_replicate]; omega)) F2 N2 ?_
            intro h3 tk3 F4 N4
            clear F2 N2
            k_steps
            (refine hK _ _ ?_); exact TEnd.intro (by assumption) (by assumption) (by exact fun p hp => sub [1, 2, 3, 4, 5] p hp) rfl
          · intro k t I oI C oC D m₂ ys sh E' hk hC hx F N off ne K hK
            k_steps
            (refine hK _ _ ?_); exact CEnd.intro (by assumption) (by assumption) (by exact fun p hp => sub [0, 1, 2, 3, 4] p hp) ⟨_, rfl⟩
          · intro ys hys_joined
            rw [List.map_id', hJ] at hys_joined
            have hys_joined := hys_joined
            rename List Value => ys_joined
            intro D_joined h1 tk1 F2 N2 O_joined
            clear F1 N1
            k_steps
            refine Here.in ?_
            (rename News _ _ _ _ => N1); (rename Fr _ _ _ _ => F1)
            refine LCt.Assign_ListComp_T F1 (by rfl) (by with_unfolding_all rfl) (by with_unfolding_all rfl) (by decide) (by rfl) (by decide) (by rfl) (by rfl) (by rfl) ?_
            k_steps
            refine Here.in ?_
            clear F1 N1
            intro h1 tk1 t1 u1 v1 R1 F1 N1 K1
            (try k_steps)
            (try refine Here.in ?_)
            refine LCt.CompSrcT.range (n := 4) rfl F1 N1 R1 (small_one (by omega) (by omega) (by omega) (by omega)) (by rw [rangeSize_nat]; omega) (by rw [sizeLine_eq]; omega) ?_
            intro g'
            refine restTN (List.length_range (n := 4)) (g := fun (k : Nat) t => .int (k : Int) t) (R' := fun (k : Nat) v => IntV k v) (as := List.range (4)) (fun k => ellDots (Str.ofString "") [sg b r0, sg b r0] (Str.ofString "") (strOf b (List.replicate k r0))) (fun k => k) trivial ?_ ?_ ?_ ?_
            · rintro q v hq ⟨t, rfl⟩
              exact ⟨q, by rw [List.getElem?_range hq], t, by rw [Int.zero_add]⟩
            · intro k t I oI C oC D m₂ ys sh E' hk hC hx F N off ne K hK
              have hk2 : k < 4 := List.mem_range.mp hk
              k_steps
              (rename News _ _ _ _ => N2); (rename Fr _ _ _ _ => F2)
              refine join_K (News.isList N2 (.head _)) (ys := [Str.ofString "", sg b r0, sg b r0, Str.ofString ""]) (.cons ⟨_, rfl⟩ (.cons ⟨_, rfl⟩ (.cons ⟨_, rfl⟩ (.cons ⟨_, rfl⟩ .nil)))) (by intro y hy; simp only [List.mem_cons, List.not_mem_nil, or_false] at hy; rcases hy with rfl | rfl | rfl | rfl <;> first | exact (by decide : 1 ≤ 1000) | exact (by decide : 0 ≤ 1000)) (by simp) (by decide) ?_
              intro tj kj
              k_steps
              refine SB.mul (mulOk_of 16 1048576 (by rw [sg_len]; decide) (by omega) (by omega) (by decide) (by decide)) ?_
              rw [mul_sg]
              intro t3 k3
              k_steps
              refine Here.in ?_
              (rename News _ _ _ _ => N2); (rename Fr _ _ _ _ => F2)
              refine useB (ellJ_spec (f := Str.ofString "") (mid := [sg b r0, sg b r0]) (g := Str.ofString "") (rmK hdp hun (by decide)) (W.keeps F2.keep) rfl (fun p hp => by simp only [List.mem_cons, List.not_mem_nil, or_false] at hp; rcases hp with rfl | rfl | rfl | rfl <;> first | exact ok_sg hb | exact ok_nil) (by simp) (by rw [strOf_len, List.length_replicate]; omega)) F2 N2 ?_
              intro h3 tk3 F4 N4
              clear F2 N2
              k_steps
              (refine hK _ _ ?_); exact TEnd.intro (by assumption) (by assumption) (by exact fun p hp => sub [1, 2, 3, 4, 5, 6] p hp) rfl
            · intro k t I oI C oC D m₂ ys sh E' hk hC hx F N off ne K hK
              k_steps
              (refine hK _ _ ?_); exact CEnd.intro (by assumption) (by assumption) (by exact fun p hp => sub [0, 1, 2, 3, 4, 5] p hp) ⟨_, rfl⟩
            · intro ys hys_loose
              rw [List.map_id', hL] at hys_loose
              have hys_loose := hys_loose
              rename List Value => ys_loose
              intro D_loose h1 tk1 F2 N2 O_loose
              clear F1 N1
              k_steps
              refine Here.in ?_
              (rename News _ _ _ _ => N2); (rename Fr _ _ _ _ => F2)
              refine eqK_ints (as := [2, 3]) (vs := [.int 2 _, .int 3 _]) (News.isList N2 (by k_mem)) (News.isList N2 (.head _)) hys_joined (.cons ⟨_, rfl⟩ (.cons ⟨_, rfl⟩ .nil)) (by show un + 3 < 9900; omega) ?_
              k_steps
              refine Here.in ?_
              (rename News _ _ _ _ => N2); (rename Fr _ _ _ _ => F2)
              refine eqK_ints (as := [2, 3]) (vs := [.int 2 _, .int 3 _]) (News.isList N2 (by k_mem)) (News.isList N2 (.head _)) hys_loose (.cons ⟨_, rfl⟩ (.cons ⟨_, rfl⟩ .nil)) (by show un + 3 < 9900; omega) ?_
              k_steps
              refine hK0 _ _ ?_; exact endK (by assumption) rfl

end Mine
namespace Mine
local macro_rules | `(tactic| omega) => `(tactic| first | assumption | exact Nat.ne_of_lt (by assumption) | exact Nat.ne_of_gt (by assumption) | exact Nat.le_of_lt (by assumption) | lia | omega (config := {}))
local macro_rules | `(tactic| walk_at "exec For Name Name cons nil") => `(tactic| (k_here; k_dflt (refine For_go ?_)))
def cnt (bs : List Bool) : Nat := (bs.filter fun x => x).length
theorem cnt_snoc (bs : List Bool) (x : Bool) : cnt (bs ++ [x]) = cnt bs + (if x then 1 else 0) := by
  cases x <;> simp [cnt, List.filter_append]
theorem cnt_le (bs : List Bool) : cnt bs ≤ bs.length := List.length_filter_le _ _
theorem count_spec {w : World} {A : Around} {s : Shared} {E : Value → Shared → Prop} {a : Addr} {bs : List Bool} (R : Rm A 1) (W : Wd w s.heap) (hl : bs.length < 1000)
  (ha : s.heap.IsList a (bs.map Value.bool).toArray) :
  wpAny (model PySem.Challenge.rw_ti0023_01.row.prog w) A (call (.ref 112) [.ref a, .bool true]) (Out s fun v _ => IntV (cnt bs : Nat) v) E s := by
  revert W; obtain ⟨hnd, dp, fr, gd, un⟩ := A; obtain ⟨rfl, hdp, hun⟩ := R; dsimp only at hdp hun
  intro W; have X := W.X; revert X; k_fill; intro X; obtain ⟨p, loose, mean, mg, mb, T⟩ := W.T
  refine enterP (binds := [(PySem.Str.ofString "a", .ref a), (PySem.Str.ofString "b", .bool true)]) X T (by k_is) (by k_is) (by show dp < 1000; omega) (BindsTo.of_eq rfl) (locs rfl) rfl rfl rfl (by decide) ?_
  intro L' h' tk' F' N'
  (try dsimp only [List.reverse_cons, List.reverse_nil, List.nil_append, List.cons_append] at F')
  k_steps
  (rename Fr _ _ _ _ => F1); (rename News _ _ _ _ => N1)
  refine LoopGo.list (l := a) (vs := bs.map Value.bool) (h₀ := s.heap) (news := []) (fun i m' n' => (∃ t, m' (Str.ofString "count") = some (.int ((cnt (bs.take i) : Nat) : Int) t)) ∧ m' (Str.ofString "b") = some (.bool true) ∧ n' = []) rfl F1 N1 (fun _ _ => rfl) ⟨⟨_, rfl⟩, rfl, rfl⟩ (fun i m' n' _ => .inl ha) ?_ ?_
  · intro i v m₁ news₁ I sh oI hv hJ hne F3 N3 K hK eS
    obtain ⟨⟨t, e1⟩, e2, rfl⟩ := hJ
    have F4 := know2 F3 e1 e2
    clear F3 F1 N1 hne
    rw [List.getElem?_map] at hv
    cases hx : bs[i]? with
    | none => rw [hx] at hv; cases hv
    | some x =>
      rw [hx] at hv
      simp at hv
      subst hv
      have hc : cnt (bs.take (i + 1)) = cnt (bs.take i) + (if x then 1 else 0) := by rw [List.take_add_one, hx]; exact cnt_snoc _ _
      have hb := cnt_le (bs.take i)
      have hb2 : (bs.take i).length ≤ bs.length := by rw [List.length_take]; omega
      cases x with
      | true =>
        k_steps
        (refine hK _ _ ?_); exact LPost.end (by assumption) (by assumption) [] (by kcf_all) trivial ⟨⟨_, by rw [hc]; rfl⟩, rfl, rfl⟩
      | false =>
        k_steps
        (refine hK _ _ ?_); exact LPost.end (by assumption) (by assumption) [] (by kcf_all) trivial ⟨⟨_, by rw [hc]; rfl⟩, rfl, rfl⟩
  · intro h' tk' m' n' F4 N4 hJ
    obtain ⟨⟨t, e1⟩, e2, rfl⟩ := hJ
    have F5 := know2 F4 e1 e2
    clear F4 F1 N1
    k_steps
    rw [List.length_map, List.take_length]
    exact endK (by assumption) ⟨_, rfl⟩

end Mine
namespace Mine
local macro_rules | `(tactic| omega) => `(tactic| first | assumption | exact Nat.ne_of_lt (by assumption) | exact Nat.ne_of_gt (by assumption) | exact Nat.le_of_lt (by assumption) | lia | omega (config := {}))
section
variable {prog : Program} {w : World} {A : Around} {E : Value → Shared → Prop} {s : Shared} {h₀ : Heap} {L : Addr} {m : Str → Option Value} {env : Env}
abbrev cellO : Obj := { cls := .type "cell", data := .cell none }
abbrev dictO : Obj := { cls := .type "dict", data := .dict #[] }
theorem newCompCell {scope : Scope} {cl : List (Str × Addr)} {x : Str} {Q : Env → Shared → Prop} (hcf : ∀ n, cellsFrom n scope.names cl = (x, n) :: cl) (hpc : ∀ h, pushCells h scope.names = h.push cellO)
    (hQ : Q (newEnv scope s.heap.objs.size env.globals ((x, s.heap.objs.size + 1) :: cl) env.qual none .none (some env) builtinsNs) { s with heap := (s.heap.push dictO).push cellO }) :
    wpAny (model prog w) A (newFunctionEnv scope env.globals cl [] env.qual none .none (some env)) Q E s := by
  simp only [newFunctionEnv, Option.isSome_some, if_true]
  refine wpAny_bind (wpAny_alloc ?_)
  refine wpAny_bind (wpAny_layCells _ (fun name kind cells => by cases hkc : kind == NameKind.cell <;> simp [hkc]) _ _ _ _ ?_)
  rw [List.forIn_nil]
  refine wpAny_bind (wpAny_pure (wpAny_pure ?_))
  rw [show ({ s with heap := s.heap.push { cls := .type "dict", data := .dict #[] } } : Shared).heap.objs.size = s.heap.objs.size + 1 from Heap.size_push .., hcf, hpc]
  exact hQ

/-- the source of a comprehension whose loop variable is a cell, its turns and its end -/
def CellSrc {α β : Type} (prog : Program) (w : World) (A : Around) (h₀ : Heap) (L : Addr) (m : Str → Option Value) (env : Env) (elt : Expr) (x : Str) (scope : Scope) (cl : List (Str × Addr)) (R : α → Value → Prop) (R' : β → Value → Prop) (f : α → β) (Q : Value → Shared → Prop) (xv : Value) (s₁ : Shared) : Prop :=
  ∃ (ax : Addr) (as : List α) (vs : List Value) (news : List (Addr × Obj)), xv = .ref ax ∧ A.handled = none ∧ Fr h₀ L s₁.heap m ∧ News h₀ L s₁.heap news ∧ LCg.SrcAt h₀ ax vs.toArray news ∧ LR R as vs ∧ as.length ≤ sizeLine ∧
    (∀ a v I oI C oC c oc D ys h tk (E' : Value → Shared → Prop), a ∈ as → R a v → oc.data = .cell (some v) → Fr h₀ L h m → News h₀ L h ((I, oI) :: (c, oc) :: (C, oC) :: (D, LCg.lst ys) :: news) → AllLt I news → @LT.lt Nat _ I D → @LT.lt Nat _ D C → @LT.lt Nat _ C c →
      wpAny (model prog w) A (eval elt (compEnvC scope ((x, c) :: cl) C env)) (fun y s₂ => R' (f a) y ∧ ∃ h' tk', s₂ = { s₁ with heap := h', toks := tk' } ∧ Fr h₀ L h' m ∧ News h₀ L h' ((I, oI) :: (c, oc) :: (C, oC) :: (D, LCg.lst ys) :: news)) E' { s₁ with heap := h, toks := tk }) ∧
    (∀ ys D h tk, LR R' (as.map f) ys → Fr h₀ L h m → News h₀ L h ((D, LCg.lst ys) :: news) → AllLt D news → Q (.ref D) { s₁ with heap := h, toks := tk })
theorem newsC {h : Heap} {a : Addr} {o : Obj} {r : List (Addr × Obj)} (z : h.get? a = some o ∧ a ≠ L ∧ h₀.get? a = none) (N : News h₀ L h r) : News h₀ L h ((a, o) :: r) := fun p hp => by
  rcases List.mem_cons.mp hp with rfl | hp
  · exact z
  · exact N p hp
/-- how the turns of such a comprehension stand -/
inductive CI {α β : Type} (f : α → β) (R' : β → Value → Prop) (h₀ : Heap) (L : Addr) (m : Str → Option Value) (s₁ : Shared) (ax I D C c : Addr) (as : List α) (news : List (Addr × Obj)) : Nat → Shared → Prop
  | mk (h' : Heap) (tk i : Nat) (ys : List Value) (oI oc oC : Obj) (mC : Str → Option Value) (hi : i ≤ as.length) (hys : LR R' ((as.take i).map f) ys) (hit : h'.IsListIter I ax i) (F : Fr h₀ L h' m)
    (N : News h₀ L h' ((I, oI) :: (c, oc) :: (C, oC) :: (D, LCg.lst ys) :: news)) (hoc : ∃ v, oc.data = .cell v) (hoC : LCg.NsObj oC mC) : CI f R' h₀ L m s₁ ax I D C c as news (as.length + 1 - i) { s₁ with heap := h', toks := tk }
theorem cellLoop {α β : Type} {R : α → Value → Prop} {R' : β → Value → Prop} (f : α → β) {elt iter : Expr} {x : Str} {px pos : Pos} {scope : Scope} {cl : List (Str × Addr)} {s₁ : Shared} {ax I D C c : Addr} {as : List α} {vs : List Value} {news : List (Addr × Obj)} {RR : Result → Shared → Prop}
    (hkind : scope.kind = .function) (hx : (compEnvC scope ((x, c) :: cl) C env).kindOf x = some .cell) (hh : A.handled = none) (S : LCg.SrcAt h₀ ax vs.toArray news) (hLR : LR R as vs) (hsz : as.length ≤ sizeLine) (hax : @LT.lt Nat _ ax I)
    (hN : AllLt I news) (hID : @LT.lt Nat _ I D) (hDC : @LT.lt Nat _ D C) (hCc : @LT.lt Nat _ C c)
    (turn : ∀ a v oI oC oc ys h tk (E' : Value → Shared → Prop), a ∈ as → R a v → oc.data = .cell (some v) → Fr h₀ L h m → News h₀ L h ((I, oI) :: (c, oc) :: (C, oC) :: (D, LCg.lst ys) :: news) →
      wpAny (model prog w) A (eval elt (compEnvC scope ((x, c) :: cl) C env)) (fun y s₂ => R' (f a) y ∧ ∃ h' tk', s₂ = { s₁ with heap := h', toks := tk' } ∧ Fr h₀ L h' m ∧ News h₀ L h' ((I, oI) :: (c, oc) :: (C, oC) :: (D, LCg.lst ys) :: news)) E' { s₁ with heap := h, toks := tk })
    (fin : ∀ ys oC mC h tk, LR R' (as.map f) ys → Fr h₀ L h m → News h₀ L h ((C, oC) :: (D, LCg.lst ys) :: news) → LCg.NsObj oC mC → RR (.ok .next) { s₁ with heap := h, toks := tk })
    {h₁ : Heap} {tk₁ : Nat} {oI oc oC : Obj} {mC : Str → Option Value} (hit : h₁.IsListIter I ax 0) (F : Fr h₀ L h₁ m) (N : News h₀ L h₁ ((I, oI) :: (c, oc) :: (C, oC) :: (D, LCg.lst []) :: news)) (hoc : ∃ v, oc.data = .cell v) (hoC : LCg.NsObj oC mC) :
    codeAny (model prog w) A (.compLoop (.ListComp elt [⟨.Name x px, iter, [], 0⟩] scope pos) 0 (.ref I) (.ref D) (compEnvC scope ((x, c) :: cl) C env)) RR { s₁ with heap := h₁, toks := tk₁ } := by
  have hvl := hLR.length
  have ap : ∀ p ∈ news, (@LT.lt Nat _ p.1 I) := fun p hp => by
    have := hN
    clear hN N S turn fin
    induction news with
    | nil => cases hp
    | cons q r ih =>
      rcases List.mem_cons.mp hp with rfl | hp
      · exact this.1
      · exact ih hp this.2
  have hne : ax ≠ I := Nat.ne_of_lt hax
  have W := Walks.list (prog := prog) (w := w) (A := A) hh I ax hne vs.toArray
  have hsv : vs.toArray.size = as.length := by rw [List.size_toArray, hvl]
  rw [hsv] at W
  refine codeAny_compLoop_tests
    (CI f R' h₀ L m s₁ ax I D C c as news) ?_ (as.length + 1)
    (.mk h₁ tk₁ 0 [] oI oc oC mC (Nat.zero_le _) .nil hit F N hoc hoC)
  rintro k s' ⟨h', tk, i, ys, oI, oc, oC, mC, hi, hys, hit', F', N', ⟨v₀, hv₀⟩, hoC'⟩
  have hl' : h'.IsList ax vs.toArray := S.list F'.keep fun p hp => N' p (.tail _ (.tail _ (.tail _ (.tail _ hp))))
  have zI := N' (I, oI) (.head _)
  have zc := N' (c, oc) (.tail _ (.head _))
  have zC := N' (C, oC) (.tail _ (.tail _ (.head _)))
  have zD := N' (D, LCg.lst ys) (.tail _ (.tail _ (.tail _ (.head _))))
  by_cases hlt : i < as.length
  · refine W.item i _ _ _ hlt ⟨hit', hl'⟩ fun v h₂ tk₂ hPv hst₂ hk₂ => ?_
    obtain ⟨a, ha, hRa⟩ := hLR.get i v (by simpa using hPv)
    have k2 : ∀ b o, b ≠ I → h'.get? b = some o → h₂.get? b = some o := fun b o hb e => hk₂ b o (by simpa using hb) e
    have lDc : @LT.lt Nat _ D c := Nat.lt_trans hDC hCc
    have lIc : @LT.lt Nat _ I c := Nat.lt_trans hID lDc
    have nc : c ≠ I := Nat.ne_of_gt lIc
    have nC : C ≠ I := Nat.ne_of_gt (Nat.lt_trans hID hDC)
    have nD : D ≠ I := Nat.ne_of_gt hID
    have nIc : I ≠ c := Nat.ne_of_lt lIc
    have nCc : C ≠ c := Nat.ne_of_lt hCc
    have nDc : D ≠ c := Nat.ne_of_lt lDc
    have nCD : C ≠ D := Nat.ne_of_gt hDC
    refine wpAny_assign_Name (wpAny_storeName_cell (c := c) (v₀ := v₀) (by simp [compEnvC, relabel, hkind]) hx (by simp [compEnvC]) ⟨oc, k2 _ _ nc zc.1, hv₀⟩ fun h₃ hcell hs₃ => ?_)
    refine wpAny_tests_nil ?_
    simp only [if_true]
    obtain ⟨oc₃, hoc₃, hdc₃⟩ := hcell
    obtain ⟨oI₃, heI, rI⟩ := hst₂.1
    have k3 : ∀ b o, b ≠ c → h₂.get? b = some o → h₃.get? b = some o := fun b o hb e => hs₃.extBut b o hb e
    have F₃ : Fr h₀ L h₃ m := (LCg.fr_but F' hk₂ (fun e => zI.2.1 e.symm) zI.2.2).change hs₃ zc.2.1 zc.2.2
    have N₃ : News h₀ L h₃ ((I, oI₃) :: (c, oc₃) :: (C, oC) :: (D, LCg.lst ys) :: news) :=
      newsC ⟨k3 _ _ nIc heI, zI.2⟩ (newsC ⟨hoc₃, zc.2⟩ (newsC ⟨k3 _ _ nCc (k2 _ _ nC zC.1), zC.2⟩ (newsC ⟨k3 _ _ nDc (k2 _ _ nD zD.1), zD.2⟩ fun p hp =>
        have z := N' p (.tail _ (.tail _ (.tail _ (.tail _ hp))))
        ⟨k3 _ _ (Nat.ne_of_lt (Nat.lt_trans (ap p hp) lIc)) (k2 _ _ (Nat.ne_of_lt (ap p hp)) z.1), z.2⟩)))
    refine wpAny_mono (turn a v oI₃ oC oc₃ ys h₃ tk₂ _ (List.mem_of_getElem? ha) hRa hdc₃ F₃ N₃) (fun y s₄ h₄ => ?_) fun _ _ e => e
    obtain ⟨hy, h₄, tk₄, rfl, F₄, N₄⟩ := h₄
    have yD := N₄ (D, LCg.lst ys) (.tail _ (.tail _ (.tail _ (.head _))))
    have hyl : ys.length = i := by rw [hys.length, List.length_map, List.length_take]; omega
    refine append_at (hsz := by show ys.toArray.size ≤ sizeLine; rw [List.size_toArray, hyl]; omega) yD.1 fun h₅ hs₅ hD₅ => ?_
    refine ⟨as.length + 1 - (i + 1), by omega, .mk h₅ tk₄ (i + 1) (ys ++ [y]) oI₃ oc₃ oC mC hlt ?_ ⟨oI₃, hs₅.extBut _ _ nD.symm (N₄ (I, oI₃) (.head _)).1, rI⟩ (F₄.change hs₅ yD.2.1 yD.2.2) ?_ ⟨_, hdc₃⟩ hoC'⟩
    · rw [List.take_add_one, ha]
      simpa using hys.snoc hy
    · have wI := N₄ (I, oI₃) (.head _)
      have wc := N₄ (c, oc₃) (.tail _ (.head _))
      have wC := N₄ (C, oC) (.tail _ (.tail _ (.head _)))
      exact newsC ⟨hs₅.extBut _ _ nD.symm wI.1, wI.2⟩ (newsC ⟨hs₅.extBut _ _ nDc.symm wc.1, wc.2⟩ (newsC ⟨hs₅.extBut _ _ nCD wC.1, wC.2⟩ (newsC ⟨hD₅.trans (congrArg some (LCg.lst_snoc ys y)), yD.2⟩ fun p hp =>
        have z := N₄ p (.tail _ (.tail _ (.tail _ (.tail _ hp))))
        ⟨hs₅.extBut _ _ (Nat.ne_of_lt (Nat.lt_trans (ap p hp) hID)) z.1, z.2⟩)))
  · have hin : i = as.length := by omega
    subst hin
    rw [List.take_length] at hys
    refine W.done _ _ _ ⟨hit', hl'⟩ fun h₂ tk₂ hk₂ => ?_
    refine fin ys oC mC h₂ tk₂ hys (LCg.fr_but F' hk₂ (fun e => zI.2.1 e.symm) zI.2.2) (LCg.news_but (fun p hp => N' p (.tail _ (.tail _ hp))) hk₂ fun p hp => ?_) hoC'
    exact neC (Nat.ne_of_gt (Nat.lt_trans hID hDC)) (neC (Nat.ne_of_gt hID) fun p hp => Nat.ne_of_lt (ap p hp)) p hp
theorem compCell {α β : Type} {R : α → Value → Prop} {R' : β → Value → Prop} (f : α → β) {elt iter : Expr} {x : Str} {px pos : Pos} {scope : Scope} {cl : List (Str × Addr)} {Q : Value → Shared → Prop} (F₀ : Fr h₀ L s.heap m)
    (hclos : closureFor scope env = pure cl) (hcf : ∀ n, cellsFrom n scope.names cl = (x, n) :: cl) (hpc : ∀ h, pushCells h scope.names = h.push cellO) (hkind : scope.kind = .function)
    (hnames : ∀ y ∈ scope.names, y.2 = .local → scope.names.lookup y.1 = some .local) (hx : ∀ C cl', (compEnvC scope cl' C env).kindOf x = some .cell)
    (h : wpAny (model prog w) A (eval iter env) (CellSrc prog w A h₀ L m env elt x scope cl R R' f Q) E s)
    (hs : ∀ x, foldedSetIterable iter env x = pure x := by intro _; rfl) :
    wpAny (model prog w) A (eval (.ListComp elt [⟨.Name x px, iter, [], 0⟩] scope pos) env) Q E s := by
  rw [eval_ListComp]
  refine wpAny_comprehension_free (use := none) rfl hs hclos hkind hnames (wpAny_mono h (fun xv s₁ h₁ => ?_) fun _ _ e => e)
  obtain ⟨ax, as, vs, news, rfl, hh, F, N, S, hLR, hsz, turn, fin⟩ := h₁
  have hl := S.list F.keep N
  have hlt : ax < s₁.heap.objs.size := by obtain ⟨_, e, _⟩ := hl; exact Heap.lt_size e
  refine wpAny_pyIter_list hl (wpAny_newObj_type (newCompCell hcf hpc ?_))
  generalize hIa : s₁.heap.objs.size = I at *
  let H1 := s₁.heap.push { cls := .type "list_iterator", data := .fields #[.ref ax, .int 0 0] }
  let H2 := H1.push { cls := .type "list", data := .seq (#[] : Array Value) }
  have sD : H1.objs.size = I + 1 := by rw [← hIa]; exact Heap.size_push ..
  have sC : H2.objs.size = I + 1 + 1 := by rw [← sD]; exact Heap.size_push ..
  let H3 := H2.push dictO
  have sc : H3.objs.size = I + 1 + 1 + 1 := by rw [← sC]; exact Heap.size_push ..
  let H4 := H3.push cellO
  have up1 : ∀ b o, s₁.heap.get? b = some o → H1.get? b = some o := fun b o e => Heap.get?_push_of_some _ e
  have up2 : ∀ b o, H1.get? b = some o → H2.get? b = some o := fun b o e => Heap.get?_push_of_some _ e
  have up3 : ∀ b o, H2.get? b = some o → H3.get? b = some o := fun b o e => Heap.get?_push_of_some _ e
  have up4 : ∀ b o, H3.get? b = some o → H4.get? b = some o := fun b o e => Heap.get?_push_of_some _ e
  have gI : H4.get? I = some { cls := .type "list_iterator", data := .fields #[.ref ax, .int 0 0] } := up4 _ _ (up3 _ _ (up2 _ _ (by rw [← hIa]; exact Heap.get?_push_size _ rfl)))
  have gD : H4.get? (I + 1) = some (LCg.lst []) := up4 _ _ (up3 _ _ (by rw [← sD]; exact Heap.get?_push_size _ rfl))
  have gC : H4.get? (I + 1 + 1) = some dictO := up4 _ _ (by rw [← sC]; exact Heap.get?_push_size _ rfl)
  have gc : H4.get? (I + 1 + 1 + 1) = some cellO := by rw [← sc]; exact Heap.get?_push_size _ rfl
  have fresh₀ : ∀ a, I ≤ a → h₀.get? a = none := fun a ha => by
    cases e : h₀.get? a with
    | none => rfl
    | some o' => have := Heap.lt_size (F.keep a o' e); rw [hIa] at this; exact absurd this (Nat.not_lt.mpr ha)
  have hLI : @LT.lt Nat _ L I := by rw [← hIa]; exact F.ns.lt
  have up : ∀ b o, s₁.heap.get? b = some o → H4.get? b = some o := fun b o e => up4 _ _ (up3 _ _ (up2 _ _ (up1 _ _ e)))
  have F4 : Fr h₀ L H4 m := F.keeps up
  have nL : ∀ k, @Ne Nat (I + k) L := fun k => by omega
  have N4 : News h₀ L H4 ((I, { cls := .type "list_iterator", data := .fields #[.ref ax, .int 0 0] }) :: (I + 1 + 1 + 1, cellO) :: (I + 1 + 1, dictO) :: (I + 1, LCg.lst []) :: news) :=
    newsC ⟨gI, nL 0, fresh₀ _ (Nat.le_refl _)⟩ (newsC ⟨gc, nL 3, fresh₀ _ (Nat.le_add_right I 3)⟩ (newsC ⟨gC, nL 2, fresh₀ _ (Nat.le_add_right I 2)⟩ (newsC ⟨gD, nL 1, fresh₀ _ (Nat.le_add_right I 1)⟩ fun p hp => ⟨up _ _ (N p hp).1, (N p hp).2⟩)))
  have hN : AllLt I news := allLt_of fun p hp => by have := Heap.lt_size (N p hp).1; rw [hIa] at this; exact this
  have apN : ∀ p ∈ news, @LT.lt Nat _ p.1 I := fun p hp => by have := Heap.lt_size (N p hp).1; rw [hIa] at this; exact this
  have loop : ∀ (E' : Value → Shared → Prop) (tk0 : Nat), codeAny (model prog w) A (.compLoop (.ListComp elt [⟨.Name x px, iter, [], 0⟩] scope pos) 0 (.ref I) (.ref (I + 1)) (compEnvC scope ((x, I + 1 + 1 + 1) :: cl) (I + 1 + 1) env)) (compPost (model prog w) A E' none Q (.ref (I + 1)) (I + 1 + 1)) { s₁ with heap := H4, toks := tk0 } := fun E' tk0 =>
    cellLoop (h₀ := h₀) (L := L) (m := m) (s₁ := s₁) f hkind (hx _ _) hh S hLR hsz hlt hN (Nat.lt_succ_self _) (Nat.lt_succ_self _) (Nat.lt_succ_self _)
      (fun a v oI oC oc ys h tk E' ha hv hoc F N => turn a v I oI _ oC _ oc _ ys h tk E' ha hv hoc F N hN (Nat.lt_succ_self _) (Nat.lt_succ_self _) (Nat.lt_succ_self _))
      (fun ys oC mC h tk hys F N hC => by
        have zC := N _ (.head _)
        exact ⟨mC, hC.ns zC.1, fun h'' hs'' => fin ys (I + 1) h'' tk hys (F.change hs'' zC.2.1 zC.2.2) (fun p hp =>
          have z := N p (.tail _ hp)
          ⟨hs''.extBut _ _ (neC (Nat.ne_of_lt (Nat.lt_succ_self _)) (fun p hp => Nat.ne_of_lt (Nat.lt_succ_of_lt (Nat.lt_succ_of_lt (apN p hp)))) p hp) z.1, z.2⟩) (allLt_of fun p hp => Nat.lt_succ_of_lt (apN p hp))⟩)
      ⟨_, gI, rfl, rfl⟩ F4 N4 ⟨_, rfl⟩ ⟨#[], 0, rfl, fun _ he => by simp at he, fun _ => rfl⟩
  have W := (Walks.list (prog := prog) (w := w) (A := A) hh I ax (Nat.ne_of_lt hlt) vs.toArray)
  dsimp only
  rw [show (s₁.heap.push { cls := Value.type "list_iterator", data := Data.fields #[Value.ref ax, Value.int 0 0] }).objs.size = I + 1 from sD, show ((s₁.heap.push { cls := Value.type "list_iterator", data := Data.fields #[Value.ref ax, Value.int 0 0] }).push { cls := Value.type "list", data := Data.seq #[] }).objs.size = I + 1 + 1 from sC]
  exact codeAny_compStart_list (loop _ _) (W.self 0 _ _ _ ⟨⟨_, gI, rfl, rfl⟩, S.list F4.keep fun p hp => N4 p (.tail _ (.tail _ (.tail _ (.tail _ hp))))⟩ (loop _ _))
end

end Mine
namespace Mine
local macro_rules | `(tactic| omega) => `(tactic| first | assumption | exact Nat.ne_of_lt (by assumption) | exact Nat.ne_of_gt (by assumption) | exact Nat.le_of_lt (by assumption) | lia | omega (config := {}))
local macro_rules | `(tactic| walk_at "eval IfExp") => `(tactic| (k_here; refine Here.out ?_))
local macro_rules | `(tactic| walk_at "call builtin:list.append") => `(tactic| (k_here; refine Here.out ?_))
local macro_rules | `(tactic| walk_at "exec For Name Call cons nil") => `(tactic| (k_here; k_dflt (refine For_go ?_)))
local macro_rules | `(tactic| walk_at "eval ListComp") => `(tactic| (k_here; refine Here.out ?_))
local macro_rules | `(tactic| walk_at "CompSrc") => `(tactic| (k_here; refine Here.out ?_))
local macro_rules | `(tactic| walk_at "call ref") => `(tactic| (k_here; refine Here.out ?_))
local macro_rules | `(tactic| walk_at "call builtin:len") => `(tactic| (k_here; refine Here.out ?_))
theorem lenL_K {prog : Program} {w : World} {A : Around} {E : Value → Shared → Prop} {s : Shared} {l : Addr} {vs : List Value} {k : Nat} {Q : Value → Shared → Prop} (hl : s.heap.IsList l vs.toArray) (hk : vs.length = k) (hz : k < 10000) (h : ∀ t tk, Q (.int (k : Int) t) { s with toks := tk }) :
    wpAny (model prog w) A (call (.builtin "len") [.ref l]) Q E s := by
  subst hk
  refine len_list hl (by rw [List.size_toArray]; omega) ?_
  rw [List.size_toArray]
  exact h _ _
theorem pick6 (va : List Value) : slicePick va.toArray none (some 6) none = (va.take 6).toArray := by
  rw [slicePick_plain]
  simp only [Option.elim, show (6 : Int) = ((6 : Nat) : Int) from rfl, clipAt_nat, List.drop_zero, Nat.sub_zero, List.size_toArray]
  congr 1
  by_cases h : 6 ≤ va.length
  · rw [Nat.min_eq_left h]
  · rw [Nat.min_eq_right (by omega), List.take_of_length_le (Nat.le_refl _), List.take_of_length_le (by omega)]
def rowStep (most : Nat) (row : List Int) (one : Int) : List Int := if row.length < most && !(row.any (· == one)) then row ++ [one] else row
def rowOf (most : Nat) (l : List Int) : List Int := l.foldl (rowStep most) []
def mostOf (sc : List Int) : Nat := if sc.length > 1 then 6 else 5
def rowsOf (sc : List Int) : List Int := rowOf (mostOf sc) (sc.take 6 ++ [3, 5, 2, 4, 1])
def ranksOf (row : List Int) : List Int := row.map fun one => 1 + ((cnt (row.map fun other => decide (other < one)) : Nat) : Int)
theorem rowStep_len {most : Nat} {row : List Int} {one : Int} : (rowStep most row one).length ≤ max most row.length := by
  unfold rowStep
  split
  · rename_i h
    simp at h
    rw [List.length_append]; simp; omega
  · omega
theorem rowOf_snoc {most : Nat} {l : List Int} {x : Int} : rowOf most (l ++ [x]) = rowStep most (rowOf most l) x := by unfold rowOf; rw [List.foldl_append]; rfl
theorem rowOf_len (most : Nat) (l : List Int) : (rowOf most l).length ≤ most := by
  have key : ∀ (l row : List Int), row.length ≤ most → (l.foldl (rowStep most) row).length ≤ most := by
    intro l
    induction l with
    | nil => intro row h; exact h
    | cons x l ih =>
      intro row h
      refine ih _ ?_
      have := rowStep_len (most := most) (row := row) (one := x)
      omega
  exact key l [] (Nat.zero_le _)
inductive OJ (L la : Addr) (lv : List Value) (ln most : Nat) (row : List Int) (m' : Str → Option Value) : List (Addr × Obj) → Prop
  | mk (t : Tok) (oc : Obj) (lr : Addr) (rv : List Value) (rn : Nat) (e1 : m' (Str.ofString "most") = some (.int (most : Int) t)) (b1 : @Ne Nat la lr) (b2 : @Ne Nat la (L + 1)) (b3 : @LT.lt Nat _ (L + 1) lr) (hoc : oc.data = .cell (some (.ref lr))) (hrv : LR IntV row rv) :
    OJ L la lv ln most row m' [(la, lsO lv ln), (lr, lsO rv rn), (L + 1, oc)]
theorem valCut {M : Model} {A : Around} {X : Sem Value} {Q : Value → Shared → Prop} {E : Value → Shared → Prop} {s : Shared} {n : Nat} (h1 : ∀ K : Value → Shared → Prop, (∀ k t, K (.int (n : Int) t) { s with toks := k }) → wpAny M A X K E s)
    (h2 : ∀ k t, Q (.int (n : Int) t) { s with toks := k }) : wpAny M A X Q E s := h1 Q h2
theorem order_spec {w : World} {A : Around} {s : Shared} {E : Value → Shared → Prop} {a : Addr} {va : List Value} {sc : List Int} (R : Rm A 4) (W : Wd w s.heap) (hl : sc.length < 1000)
  (ha : s.heap.IsList a va.toArray) (hv : LR IntV sc va) :
  wpAny (model PySem.Challenge.rw_ti0023_01.row.prog w) A (call (.ref 117) [.ref a]) (Out s (NewL s fun vs => LR IntV (ranksOf (rowsOf sc)) vs)) E s := by
  revert W; obtain ⟨hnd, dp, fr, gd, un⟩ := A; obtain ⟨rfl, hdp, hun⟩ := R; dsimp only at hdp hun
  intro W; have X := W.X; revert X; k_fill; intro X; obtain ⟨p, loose, mean, mg, mb, T⟩ := W.T
  refine enterC (binds := [(Str.ofString "script", .ref a)]) X T (by k_is) (by k_is) (by show dp < 1000; omega) (BindsTo.of_eq rfl) rfl (by decide) rfl rfl rfl ?_
  intro L' h' tk' cells F' N' Y'
  k_cells Y'
  refine wpK ?_
  intro K0 hK0
  (try simp only [List.cons_append, List.nil_append] at N')
  have hva : va.length = sc.length := hv.length
  k_steps
  refine Here.in ?_
  (rename Fr _ _ _ _ => F1); (rename News _ _ _ _ => N1)
  refine valCut (n := mostOf sc) ?_ ?_
  · intro K hK
    refine IfExp_ ?_
    k_steps
    refine Here.in ?_
    refine lenL_K (ha.at fun o e => F1.keep _ _ e) hva (by omega) ?_
    intro t1 k1
    k_steps
    · have e : mostOf sc = 6 := if_pos (by omega)
      rw [e] at hK
      exact hK _ _
    · have e : mostOf sc = 5 := if_neg (by omega)
      rw [e] at hK
      exact hK _ _
  intro k1 tm1
  k_steps
  refine Here.in ?_
  (rename News _ _ _ _ => N2); (rename Fr _ _ _ _ => F2)
  rw [pick6] at N2
  have l6 : (va.take 6).length ≤ 6 := by rw [List.length_take]; omega
  refine useL (concat_list_spec (rmK hdp hun (by decide)) (W.keeps F2.keep) (plain_news N2 (.tail _ (.head _))) (plain_news (items := (List.toArray [_, _, _, _, _])) N2 (.head _)) (by omega) (by simp)) F2 N2 ?_
  intro la lv ln h3 tk3 hlv F3 N3 ane
  have hlr : LR IntV (sc.take 6 ++ [3, 5, 2, 4, 1]) lv := by
    rw [hlv]
    exact (hv.take 6).append (.cons ⟨_, rfl⟩ (.cons ⟨_, rfl⟩ (.cons ⟨_, rfl⟩ (.cons ⟨_, rfl⟩ (.cons ⟨_, rfl⟩ .nil)))))
  have a4 := ane.tl.tl.tl.hd
  have a5 := ane.tl.tl.tl.tl.hd
  have hmost : mostOf sc ≤ 6 := by unfold mostOf; split <;> omega
  refine LoopGo.list (l := la) (vs := lv) (news := [(la, lsO lv ln), (_, lsO [] 0), (L' + 1, _)]) (fun i => OJ L' la lv ln (mostOf sc) (rowOf (mostOf sc) ((sc.take 6 ++ [3, 5, 2, 4, 1]).take i))) rfl F3 (fun p hp => N3 p (sub [0, 4, 5] p hp)) (fun _ _ => rfl) (.mk _ _ _ _ _ rfl (Ne.symm a4) (Ne.symm a5) (by omega) (by assumption) .nil) (fun i m' n' hJ => .inr ⟨_, by cases hJ; exact .head _, rfl, _, rfl⟩) ?_ ?_
  · intro i v m₁ news₁ I sh oI hv hJ hne F4 N4 K hK eS
    obtain ⟨tm, oc, lr, rv, rn, e1, b1, b2, b3, hoc, hrv⟩ := hJ
    have c1 := hne.hd
    have c2 := hne.tl.hd
    have c3 := hne.tl.tl.hd
    have F5 := know F4 e1
    clear F4 F3 N3
    obtain ⟨one, hone, to, rfl⟩ := hlr.get i v hv
    have hrl := hrv.length
    have hrm := rowOf_len (mostOf sc) ((sc.take 6 ++ [3, 5, 2, 4, 1]).take i)
    have hst : rowOf (mostOf sc) ((sc.take 6 ++ [3, 5, 2, 4, 1]).take (i + 1)) = rowStep (mostOf sc) (rowOf (mostOf sc) ((sc.take 6 ++ [3, 5, 2, 4, 1]).take i)) one := by rw [List.take_add_one, hone]; exact rowOf_snoc
    k_steps
    refine Here.in ?_
    (rename News _ _ _ _ => N6); (rename Fr _ _ _ _ => F6)
    refine lenL_K (News.isList N6 (by k_mem)) hrl (by omega) ?_
    intro t5 k5
    k_steps
    · refine Here.in ?_
      rename _ < _ => hlt
      refine useB (contains_int_spec (rmK hdp hun (by decide)) (W.keeps F6.keep) (News.isList N6 (by k_mem)) hrv.ints) F6 N6 ?_
      intro h7 tk7 F7 N7
      clear N6 F6
      cases hco : (rowOf (mostOf sc) ((sc.take 6 ++ [3, 5, 2, 4, 1]).take i)).any (· == one) with
      | true =>
        k_steps
        (refine hK _ _ ?_); exact LPost.end F7 N7 [(la, lsO lv ln), (lr, lsO rv rn), (L' + 1, oc)] (by exact fun p hp => sub [0, 1, 2, 3] p hp) (hne.same rfl) (.mk _ _ _ _ _ rfl b1 b2 b3 hoc (by rw [hst]; unfold rowStep; rw [hco]; simpa using hrv))
      | false =>
        have hrow : rowStep (mostOf sc) (rowOf (mostOf sc) ((sc.take 6 ++ [3, 5, 2, 4, 1]).take i)) one = rowOf (mostOf sc) ((sc.take 6 ++ [3, 5, 2, 4, 1]).take i) ++ [one] := by
          unfold rowStep
          rw [hco, if_pos]
          simp; omega
        k_steps
        refine Here.in ?_
        (rename News _ _ _ _ => N7a); (rename Fr _ _ _ _ => F7a)
        refine append_K (hsz := by rw [List.size_toArray, sizeLine_eq]; exact Nat.le_trans (Nat.le_of_eq hrl) (Nat.le_trans hrm (Nat.le_trans hmost (by decide)))) F7a N7a (.tail (Nat.ne_of_gt c2) (.tail b1 (.head (neC (Nat.ne_of_lt b3) neE)))) ?_
        intro h8 F8 N8
        clear F7a N7a
        k_steps
        (rename News _ _ _ _ => N8); (rename Fr _ _ _ _ => F8)
        rw [List.push_toArray] at N8
        (refine hK _ _ ?_); exact LPost.end F8 N8 [(la, lsO lv ln), (lr, lsO (rv ++ [.int one to]) (rn + 1)), (L' + 1, oc)] (by exact fun p hp => sub [0, 1, 2, 3] p hp) (hne.same rfl) (.mk _ _ _ _ _ rfl b1 b2 b3 hoc (by rw [hst, hrow]; exact hrv.snoc ⟨_, rfl⟩))
    · (refine hK _ _ ?_); exact LPost.end F6 N6 [(la, lsO lv ln), (lr, lsO rv rn), (L' + 1, oc)] (by exact fun p hp => sub [0, 1, 2, 3] p hp) (hne.same rfl) (.mk _ _ _ _ _ rfl b1 b2 b3 hoc (by
        rw [hst]; unfold rowStep
        rw [if_neg]
        · exact hrv
        · rename ¬ _ < _ => hlt
          simp; intro h; exact absurd h (by omega)))
  · intro h7 tk7 m' n' F4 N4 hJ
    obtain ⟨tm, oc, lr, rv, rn, e1, b1, b2, b3, hoc, hrv⟩ := hJ
    have F5 := know F4 e1
    clear F4 F3 N3
    have hll : lv.length = (sc.take 6 ++ [3, 5, 2, 4, 1]).length := hlr.length
    rw [hll, List.take_length] at hrv
    have hrv' : LR IntV (rowsOf sc) rv := hrv
    have hrl := hrv'.length
    have hrm : (rowsOf sc).length ≤ mostOf sc := rowOf_len _ _
    k_steps
    refine Here.in ?_
    (rename News _ _ _ _ => N6); (rename Fr _ _ _ _ => F6)
    refine compCell (f := fun one : Int => 1 + ((cnt ((rowsOf sc).map fun other => decide (other < one)) : Nat) : Int)) (R := IntV) (R' := IntV) F6 (by with_unfolding_all rfl) (by intro _; rfl) (by intro _; rfl) (by rfl) (by decide) (by intro _ _; rfl) ?_
    k_steps
    refine ⟨lr, rowsOf sc, rv, [(la, lsO lv ln), (lr, lsO rv rn), (L' + 1, oc)], rfl, rfl, (by assumption), (by assumption), .inr ⟨_, .tail _ (.head _), rfl, _, rfl⟩, hrv', by rw [sizeLine_eq]; omega, ?_, ?_⟩
    · clear F6 N6
      intro one v I oI C oC c oc2 D ys h tk E' ha1 hv1 hoc2 F8 N8 aI hID hDC hCc
      obtain ⟨to, rfl⟩ := hv1
      have c1 := aI.hd
      have c2 := aI.tl.hd
      have c3 := aI.tl.tl.hd
      k_steps
      refine Here.in ?_
      (rename News _ _ _ _ => N9); (rename Fr _ _ _ _ => F9)
      refine LCg.ListComp_U (F₀ := F9) (by with_unfolding_all rfl) (by decide) (by rfl) (by decide) (by rfl) ?_
      k_steps
      refine Here.in ?_
      refine LCg.CompSrc.ledger (its := rv.toArray) rfl F9 N9 (by k_mem) (by rw [sizeLine_eq, List.size_toArray]; omega) ?_
      intro g'
      refine restN (g := fun (k : Int) t => .int k t) (R' := BoolV) (as := rowsOf sc) (by rw [List.size_toArray, hrl]) (fun other => decide (other < one)) (.inr ⟨_, by k_mem, rfl, _, rfl⟩) (fun i v _ hv => hrv'.get i v (by simpa using hv)) ?_ ?_
      · intro k t2 I2 oI2 C2 oC2 D2 m₂ ys2 sh E2 hk hC hx F N off ne K hK
        k_steps
        refine Here.in ?_
        clear N9 F9
        (rename News _ _ _ _ => N9); (rename Fr _ _ _ _ => F9)
        refine useB (lt_spec (rmK hdp hun (by decide)) (W.keeps F9.keep)) F9 N9 ?_
        intro h5 tk5 F10 N10
        clear F9 N9
        k_steps
        (refine hK _ _ ?_); exact CEnd.intro F10 N10 (by exact fun p hp => sub [0, 1, 2, 3, 4, 5, 6, 7, 8, 9] p hp) (by cases h : decide (k < one) <;> simp [h, BoolV])
      · intro ys hys
        have hys := hys.bools
        subst hys
        k_steps
        refine Here.in ?_
        (rename News _ _ _ _ => N10); (rename Fr _ _ _ _ => F10)
        refine useI (count_spec (rmK hdp hun (by decide)) (W.keeps F10.keep) (by rw [List.length_map]; omega) (News.isList N10 (.head _))) F10 N10 ?_
        intro t11 h11 tk11 F11 N11
        clear F10 N10
        k_steps
        · exact F11
        · exact fun p hp => N11 p (sub [1, 2, 3, 4, 5, 6, 7] p hp)
    · intro ys D h tk hys F8 N8 _
      k_steps
      (refine hK0 _ _ ?_); exact endL F8 N8 (.head _) hys

end Mine
namespace Mine
local macro_rules | `(tactic| omega) => `(tactic| first | assumption | exact Nat.ne_of_lt (by assumption) | exact Nat.ne_of_gt (by assumption) | exact Nat.le_of_lt (by assumption) | lia | omega (config := {}))
local macro_rules | `(tactic| walk_at "call ref") => `(tactic| (k_here; refine Here.out ?_))
theorem noPl {a b : Int} (ha : a.natAbs < 2 ^ 300) : Builtin.divisionGoesByPylong a b = false := by
  have hl : a ≠ 0 → a.natAbs.log2 < 300 := fun h0 => (Nat.log2_lt (by omega)).mpr ha
  unfold Builtin.divisionGoesByPylong
  rw [Bool.and_eq_false_iff]
  right
  apply decide_eq_false
  dsimp only
  by_cases h0 : a = 0
  · simp [h0]
  · have := hl h0
    have e : (a == 0) = false := by simpa using h0
    rw [e]
    simp only [Bool.false_eq_true, if_false]
    omega
theorem div2_spec {w : World} {A : Around} {s : Shared} {E : Value → Shared → Prop} {a b n : Int} {ta tb tn : Tok} (R : Rm A 1) (W : Wd w s.heap) (ha : 0 ≤ a ∧ a.natAbs < 2 ^ 300) (hb : 0 < b) (hn : 0 ≤ n) :
  wpAny (model PySem.Challenge.rw_ti0023_01.row.prog w) A (call (.ref 28) [.int a ta, .int b tb, .int n tn]) (Out s (NewT s fun vs => LR IntV [a / b, a % b] vs)) E s := by
  revert W; obtain ⟨hnd, dp, fr, gd, un⟩ := A; obtain ⟨rfl, hdp, hun⟩ := R; dsimp only at hdp hun
  intro W; have X := W.X; revert X; k_fill; intro X; obtain ⟨p, loose, mean, mg, mb, T⟩ := W.T
  refine enterP (binds := [(PySem.Str.ofString "a", .int a ta), (PySem.Str.ofString "b", .int b tb), (PySem.Str.ofString "n", .int n tn)]) X T (by k_is) (by k_is) (by show dp < 1000; omega) (BindsTo.of_eq rfl) (locs rfl) rfl rfl rfl (by decide) ?_
  intro L' h' tk' F' N'
  (try dsimp only [List.reverse_cons, List.reverse_nil, List.nil_append, List.cons_append] at F')
  have h300 := bits300 ha.2
  k_steps
  refine divmod_N F' N' (by omega) ?_ (.inl (noPl ha.2))
  intro h2 F2 N2
  exact endT F2 N2 (.head _) (.cons ⟨_, by rw [Int.fdiv_eq_ediv_of_nonneg _ (by omega)]⟩ (.cons ⟨_, by rw [Int.fmod_eq_emod_of_nonneg _ (by omega)]⟩ .nil))

end Mine
namespace Mine
local macro_rules | `(tactic| omega) => `(tactic| first | assumption | exact Nat.ne_of_lt (by assumption) | exact Nat.ne_of_gt (by assumption) | exact Nat.le_of_lt (by assumption) | lia | omega (config := {}))
/-- a code table as it may stand: empty, or with the one row of the def made inside -/
def TabW (P : Addr) (q : Str) (l k : Nat) (o : Obj) (c : Addr) (oc : Obj) : Prop :=
  (o = tabObj #[] ∧ c = P ∧ oc = o) ∨ (o = tabObj #[rawInt l, rawInt k, .ref c] ∧ ∃ vs t, oc.data = .fields vs ∧ vs[1]? = some (.str q t))
/-- both tables of the arithmetic module -/
structure Tb where
  o1 : Obj
  c1 : Addr
  oc1 : Obj
  o2 : Obj
  c2 : Addr
  oc2 : Obj
abbrev Tb.led (t : Tb) : List (Addr × Obj) := [(37, t.o1), (t.c1, t.oc1), (44, t.o2), (t.c2, t.oc2)]
abbrev Tb.ads (t : Tb) : List Addr := [37, t.c1, 44, t.c2]
def Tb.Ok (t : Tb) : Prop := TabW 37 (Str.ofString "_int2digits.<locals>.inner") 62 4 t.o1 t.c1 t.oc1 ∧ TabW 44 (Str.ofString "_digits2int.<locals>.inner") 77 4 t.o2 t.c2 t.oc2
abbrev gh (h : Heap) (t : Tb) : Heap := hideAll h t.ads
def TbAt (h : Heap) (t : Tb) : Prop := (∀ p ∈ t.led, h.get? p.1 = some p.2) ∧ t.Ok
theorem gh_get {h : Heap} {t : Tb} {b : Addr} {o : Obj} (e : h.get? b = some o) (n : b ∉ t.ads) : (gh h t).get? b = some o := hideAll_get _ e n
theorem gh_of {h : Heap} {t : Tb} {b : Addr} {o : Obj} (e : (gh h t).get? b = some o) : h.get? b = some o := of_hideAll _ e
theorem led_ads {t : Tb} {p : Addr × Obj} (hp : p ∈ t.led) : p.1 ∈ t.ads := by
  have : p.1 ∈ t.led.map (·.1) := List.mem_map_of_mem hp
  exact this
section
variable {prog : Program} {w : World} {A : Around} {s : Shared} {K : Frag} {p : Program} {loose : List Str} {mean : ExcName → Option Value} {mg mb : Str → Option Value}
  {Q : Value → Shared → Prop} {E : Value → Shared → Prop} {name qual : Str} {params : Arguments} {body : List Stmt} {scope : Scope} {dV kV doc pm cdv ct oc : Value} {an od : Option Addr} {osl : Array (Option Value)} {f : Addr} {args : List Value} {binds : List (Str × Value)}
/-- what a call hands back that may fill the tables -/
def OutT (s : Shared) (t : Tb) (P : Value → Shared → Prop) (v : Value) (s' : Shared) : Prop :=
  P v s' ∧ ∃ (h' : Heap) (tk : Nat) (t' : Tb), s' = { s with heap := h', toks := tk } ∧ (∀ b o, (gh s.heap t).get? b = some o → h'.get? b = some o) ∧ (∀ p ∈ t'.led, h'.get? p.1 = some p.2 ∧ (gh s.heap t).get? p.1 = none) ∧ t'.Ok
def Off (t : Tb) : List (Addr × Obj) → Prop
  | [] => True
  | p :: r => p.1 ∉ t.ads ∧ Off t r
theorem Off.hd {t : Tb} {a : Addr} {o : Obj} {r : List (Addr × Obj)} (h : Off t ((a, o) :: r)) : a ∉ t.ads := h.1
theorem Off.tl {t : Tb} {p : Addr × Obj} {r : List (Addr × Obj)} (h : Off t (p :: r)) : Off t r := h.2
theorem off_of {t : Tb} : ∀ {l : List (Addr × Obj)}, (∀ p ∈ l, p.1 ∉ t.ads) → Off t l
  | [], _ => trivial
  | p :: _, h => ⟨h p (.head _), off_of fun q hq => h q (.tail _ hq)⟩
theorem Off.all {t : Tb} : ∀ {l : List (Addr × Obj)}, Off t l → ∀ p ∈ l, p.1 ∉ t.ads
  | [], _, _, h => nomatch h
  | _ :: _, h, p, hp => by
    rcases List.mem_cons.mp hp with rfl | hp
    · exact h.1
    · exact Off.all h.2 p hp
theorem gh_base {h₀ : Heap} {L : Addr} {m : Str → Option Value} {t : Tb} {rest : List (Addr × Obj)} {h : Heap} (F : Fr h₀ L h m) (N : News h₀ L h (t.led ++ rest)) (b : Addr) (o : Obj) (e : h₀.get? b = some o) : (gh h t).get? b = some o := by
  refine gh_get (F.keep b o e) fun q => ?_
  have key : ∀ p ∈ t.led, b ≠ p.1 := fun p hp e2 => by
    have := (N p (List.mem_append_left _ hp)).2.2
    rw [← e2, e] at this; cases this
  have : b ∈ t.led.map (·.1) := q
  obtain ⟨p, hp, e2⟩ := List.mem_map.mp this
  exact key p hp e2.symm
theorem useT4 {M : Model} {x : Sem Value} {post : Value → Shared → Prop} {h₀ : Heap} {L : Addr} {m : Str → Option Value} {t : Tb} {rest : List (Addr × Obj)}
    (S : wpAny M A x (OutT s t post) E s) (F : Fr h₀ L s.heap m) (N : News h₀ L s.heap (t.led ++ rest)) (O : Off t rest)
    (h : ∀ v (h' : Heap) (tk : Nat) (t' : Tb), Fr h₀ L h' m → News h₀ L h' (t'.led ++ rest) → t'.Ok → Off t' rest → (∀ b o, (gh s.heap t).get? b = some o → h'.get? b = some o) → post v { s with heap := h', toks := tk } → Q v { s with heap := h', toks := tk }) :
    wpAny M A x Q E s := by
  refine wpAny_mono S (fun v s' hs => ?_) fun _ _ e => e
  obtain ⟨hp, h', tk, t', rfl, hk, hl, ok⟩ := hs
  have nL : L ∉ t.ads := fun q => by
    have : L ∈ t.led.map (·.1) := q
    obtain ⟨p, hp, e2⟩ := List.mem_map.mp this
    exact (N p (List.mem_append_left _ hp)).2.1 e2
  obtain ⟨oL, es, ep, hL, hLd⟩ := F.ns
  have hL' := hk _ _ (gh_get hL nL)
  have rk : ∀ p ∈ rest, (gh s.heap t).get? p.1 = some p.2 := fun p hp => gh_get (N p (List.mem_append_right _ hp)).1 (O.all p hp)
  refine h v h' tk t' ⟨⟨oL, es, ep, hL', hLd⟩, fun b o e => hk _ _ (gh_base F N b o e), F.above⟩ (fun p hp => ?_) ok (off_of fun p hp q => ?_) hk hp
  · rcases List.mem_append.mp hp with hp | hp
    · refine ⟨(hl p hp).1, fun e => ?_, ?_⟩
      · have := (hl p hp).2; rw [e, gh_get hL nL] at this; cases this
      · cases q : h₀.get? p.1 with
        | none => rfl
        | some o' => have := gh_base F N _ _ q; rw [(hl p hp).2] at this; cases this
    · exact ⟨hk _ _ (rk p hp), (N p (List.mem_append_right _ hp)).2⟩
  · have : p.1 ∈ t'.led.map (·.1) := q
    obtain ⟨r, hr, e2⟩ := List.mem_map.mp this
    have := (hl r hr).2
    rw [e2, rk p hp] at this; cases this
theorem frameT {t : Tb} {L : Addr} {h₁ : Heap} {m : Str → Option Value} {cells : List (Addr × Obj)} (T : TbAt s.heap t) (F : Fr s.heap L h₁ m) (N : News s.heap L h₁ cells) :
    Fr (gh s.heap t) L h₁ m ∧ News (gh s.heap t) L h₁ (t.led ++ cells) ∧ Off t cells ∧ (∀ p ∈ t.led, @LT.lt Nat _ p.1 L) := by
  have lt : ∀ p ∈ t.led, @LT.lt Nat _ p.1 L := fun p hp => Nat.lt_of_lt_of_le (Heap.lt_size (T.1 p hp)) F.above
  refine ⟨⟨F.ns, fun b o e => F.keep _ _ (gh_of e), Nat.le_trans (Nat.le_of_eq (hideAll_size _ _)) F.above⟩, fun p hp => ?_, off_of fun p hp q => ?_, lt⟩
  · rcases List.mem_append.mp hp with hp | hp
    · exact ⟨F.keep _ _ (T.1 p hp), Nat.ne_of_lt (lt p hp), hideAll_none _ (led_ads hp)⟩
    · refine ⟨(N p hp).1, (N p hp).2.1, ?_⟩
      cases q : (gh s.heap t).get? p.1 with
      | none => rfl
      | some o => have := gh_of q; rw [(N p hp).2.2] at this; cases this
  · have : p.1 ∈ t.led.map (·.1) := q
    obtain ⟨r, hr, e2⟩ := List.mem_map.mp this
    have e3 := T.1 r hr
    rw [e2, (N p hp).2.2] at e3; cases e3
/-- entering a plain def of the arithmetic module -/
theorem enterTP {t : Tb} (TT : TbAt s.heap t) (X : K.In s.heap) (T : Top p loose mean mg mb s.heap)
    (ho : K.lookup f = some ⟨oc, od, .func (fnX name qual params body scope [] dV kV doc pm an cdv ct), osl⟩) (hcd : codeIn K cdv qual = true) (hroom : A.depth < recursionLimit)
    (hbind : BindsTo s (fnX name qual params body scope [] dV kV doc pm an cdv ct) ⟨args, []⟩ binds) (hloc : ∀ y ∈ binds, scope.names.lookup y.1 = some .local)
    (hco : scope.isCoroutine = false) (hgen : scope.isGenerator = false) (hk : scope.kind = .function) (hcell : ∀ x ∈ scope.names, x.2 ≠ .cell)
    (h : ∀ L h₁ tk, Fr (gh s.heap t) L h₁ (fun y => binds.reverse.lookup y) → News (gh s.heap t) L h₁ t.led → (∀ p ∈ t.led, @LT.lt Nat _ p.1 L) →
      wpAny (model prog w) (A.deeper (envX qual scope L f cdv [])) (execs body (envX qual scope L f cdv []))
        (fun fl s' => Q (match fl with | .ret v => v | _ => .none) s') (fun _ _ => False) { s with heap := h₁, toks := tk }) :
    wpAny (model prog w) A (call (.ref f) args) Q E s := by
  refine enterP X T ho hcd hroom hbind hloc hco hgen hk hcell fun L h₁ tk F N => ?_
  obtain ⟨F', N', _, lt⟩ := frameT TT F N
  exact h L h₁ tk F' (by simpa using N') lt
/-- entering a def with cells -/
theorem enterTC {t : Tb} (TT : TbAt s.heap t) (X : K.In s.heap) (T : Top p loose mean mg mb s.heap)
    (ho : K.lookup f = some ⟨oc, od, .func (fnX name qual params body scope [] dV kV doc pm an cdv ct), osl⟩) (hcd : codeIn K cdv qual = true) (hroom : A.depth < recursionLimit)
    (hbind : BindsTo s (fnX name qual params body scope [] dV kV doc pm an cdv ct) ⟨args, []⟩ binds)
    (hkind : (binds.all fun y => scope.names.lookup y.1 == some .local || scope.names.lookup y.1 == some .cell) = true)
    (hnd : ((cellsFrom 0 scope.names []).map (·.1)).Nodup)
    (hco : scope.isCoroutine = false) (hgen : scope.isGenerator = false) (hk : scope.kind = .function)
    (h : ∀ L h₁ tk cells, Fr (gh s.heap t) L h₁ (bindL (envOfC qual scope L f cdv).kindOf binds fun _ => none) → News (gh s.heap t) L h₁ (t.led ++ cells) →
      CellsAre (bindC (envOfC qual scope L f cdv).kindOf binds fun _ => none) (cellsFrom (L + 1) scope.names []) cells → Off t cells → (∀ p ∈ t.led, @LT.lt Nat _ p.1 L) →
      wpAny (model prog w) (A.deeper (envOfC qual scope L f cdv)) (execs body (envOfC qual scope L f cdv))
        (fun fl s' => Q (match fl with | .ret v => v | _ => .none) s') (fun _ _ => False) { s with heap := h₁, toks := tk }) :
    wpAny (model prog w) A (call (.ref f) args) Q E s := by
  refine enterC X T ho hcd hroom hbind hkind hnd hco hgen hk fun L h₁ tk cells F N Y => ?_
  obtain ⟨F', N', O, lt⟩ := frameT TT F N
  exact h L h₁ tk cells F' N' Y O lt
theorem endOT {t t' : Tb} {h' : Heap} {L : Addr} {m : Str → Option Value} {tk : Nat} {P : Value → Shared → Prop} {v : Value} {all : List (Addr × Obj)} (F : Fr (gh s.heap t) L h' m) (N : News (gh s.heap t) L h' all) (sub : ∀ p ∈ t'.led, p ∈ all) (ok : t'.Ok)
    (hp : P v { s with heap := h', toks := tk }) : OutT s t P v { s with heap := h', toks := tk } :=
  ⟨hp, h', tk, t', rfl, F.keep, fun p hp => ⟨(N p (sub p hp)).1, (N p (sub p hp)).2.2⟩, ok⟩
/-- a new list handed back, the tables aside -/
def NewLT (s : Shared) (t : Tb) (P : List Value → Prop) (v : Value) (s' : Shared) : Prop := ∃ a vs n, P vs ∧ v = .ref a ∧ (gh s.heap t).get? a = none ∧ s'.heap.get? a = some (lsO vs n)
def NewTT (s : Shared) (t : Tb) (P : List Value → Prop) (v : Value) (s' : Shared) : Prop := ∃ a vs n, P vs ∧ v = .ref a ∧ (gh s.heap t).get? a = none ∧ s'.heap.get? a = some (tpO vs n)
theorem new_tb {h₀ h' : Heap} {L a : Addr} {o : Obj} {m : Str → Option Value} {t : Tb} {rest news' : List (Addr × Obj)} (F : Fr h₀ L s.heap m) (N : News h₀ L s.heap (t.led ++ rest)) (O : Off t rest) (N' : News h₀ L h' news') (hn : (gh s.heap t).get? a = none) (ho : h'.get? a = some o) :
    News h₀ L h' ((a, o) :: news') ∧ AllNe a rest := by
  have nL : L ∉ t.ads := fun q => by
    have : L ∈ t.led.map (·.1) := q
    obtain ⟨p, hp, e2⟩ := List.mem_map.mp this
    exact (N p (List.mem_append_left _ hp)).2.1 e2
  refine ⟨fun p hp => ?_, allNe_of fun p hp e => ?_⟩
  · rcases List.mem_cons.mp hp with rfl | hp
    · refine ⟨ho, fun e => ?_, ?_⟩
      · obtain ⟨oL, _, _, hL, _⟩ := F.ns
        have e' : a = L := e
        have := gh_get hL nL
        rw [e'] at hn; rw [hn] at this; cases this
      · cases q : h₀.get? a with
        | none => rfl
        | some o' => have := gh_base F N _ _ q; rw [hn] at this; cases this
    · exact N' p hp
  · have := gh_get (N p (List.mem_append_right _ hp)).1 (O.all p hp)
    rw [e, hn] at this; cases this
end

end Mine
namespace Mine
local macro_rules | `(tactic| omega) => `(tactic| first | assumption | exact Nat.ne_of_lt (by assumption) | exact Nat.ne_of_gt (by assumption) | exact Nat.le_of_lt (by assumption) | lia | omega (config := {}))
section
variable {M : Model} {A : Around} {E : Value → Shared → Prop} {s : Shared} {h₀ : Heap} {L a c P : Addr} {m mg mb : Str → Option Value} {cn : Str} {cs : Scope} {ccd : Value} {cl : List (Str × Addr)} {rest : List (Addr × Obj)}
  {p : Program} {loose : List Str} {mean : ExcName → Option Value} {name qual : Str} {params : Arguments} {body : List Stmt} {scope : Scope} {pos : Pos} {firstLine : Nat} {clos : List (Str × Addr)} {o oc1 : Obj} {c1 : Addr}
/-- a def made inside a def, its table empty or not -/
theorem nestAny_K {Q : Value → Shared → Prop} (F : Fr h₀ L s.heap m) (N : News h₀ L s.heap ((P, o) :: (c1, oc1) :: rest)) (T : Top p loose mean mg mb h₀) (C : CodeHd h₀ c P) (hcd : ccd = .ref c)
    (st : TabW P qual pos.line pos.col o c1 oc1) (hr : ∀ q ∈ rest, q.1 ≠ P) (hr1 : ∀ q ∈ rest, q.1 ≠ c1)
    (hcl : closureFor scope (envX cn cs L a ccd cl) = pure clos)
    (h : ∀ f c' oc o' ctv doc pm h' tk, Fr h₀ L h' m →
      News h₀ L h' ((f, fnMade name qual params body scope clos doc pm c' ctv) :: (P, o') :: (c', oc) :: rest) → TabW P qual pos.line pos.col o' c' oc → (∃ vs t, oc.data = .fields vs ∧ vs[1]? = some (.str qual t)) →
      (∀ q ∈ rest, q.1 ≠ c') → (∀ q ∈ rest, q.1 < f) → c' < f → P < f → Q (.ref f) { s with heap := h', toks := tk }) :
    wpAny M A (makeFunction name qual params (.stmts body) scope (envX cn cs L a ccd cl) [] [] [] pos firstLine) Q E s := by
  rcases st with ⟨rfl, rfl, rfl⟩ | ⟨rfl, hrec⟩
  · have N0 : News h₀ L s.heap ((c1, tabObj #[]) :: rest) := fun p hp => by
      rcases List.mem_cons.mp hp with rfl | hp
      · exact N _ (.head _)
      · exact N _ (.tail _ (.tail _ hp))
    refine nest_K F N0 T C hcd (.head hr) trivial rfl hcl fun f c' oc vs t ctv doc h' tk F' N' hd hv hlt hcf => ?_
    refine (fun N'' : News h₀ L h' ((f, fnMade name qual params body scope clos doc ((mg "__name__").getD .none) c' ctv) :: (c1, tabObj (#[] ++ #[rawInt pos.line, rawInt pos.col, .ref c'])) :: (c', oc) :: rest) => h f c' oc _ ctv doc _ h' tk F' N'' (.inr ⟨rfl, vs, t, hd, hv⟩) ⟨vs, t, hd, hv⟩ (fun q hq => Nat.ne_of_lt (hlt q (.tail _ hq))) (fun q hq => Nat.lt_trans (hlt q (.tail _ hq)) hcf) hcf (Nat.lt_trans (hlt _ (.head _)) hcf)) (fun p hp => ?_)
    rcases List.mem_cons.mp hp with rfl | hp
    · exact N' _ (.head _)
    rcases List.mem_cons.mp hp with rfl | hp
    · exact N' _ (.tail _ (.tail _ (.head _)))
    rcases List.mem_cons.mp hp with rfl | hp
    · exact N' _ (.tail _ (.head _))
    exact N' _ (.tail _ (.tail _ (.tail _ hp)))
  · refine nestHit_K (c' := c1) (ps := #[rawInt pos.line, rawInt pos.col, .ref c1]) F N T C hcd (.head _) (by simp [TriplesOk, rawInt]) (by simp [codeAmong, rawInt]) hcl fun f ctv doc h' tk F' N' hlt => ?_
    exact h f c1 oc1 _ ctv doc _ h' tk F' N' (.inr ⟨rfl, hrec⟩) hrec hr1 (fun q hq => hlt q (.tail _ (.tail _ hq))) (hlt (c1, oc1) (.tail _ (.head _))) (hlt (P, _) (.head _))
end
theorem tab_rec {P : Addr} {q : Str} {l k : Nat} {o : Obj} {c : Addr} {oc : Obj} (h : TabW P q l k o c oc) : True := trivial
theorem i2d_head {h : Heap} {P : Params} (X : (hd.heap_39 P).In h) : CodeHd h 41 37 := codeHd_of_K X (by kernel_rfl)
theorem d2i_head {h : Heap} {P : Params} (X : (hd.heap_39 P).In h) : CodeHd h 48 44 := codeHd_of_K X (by kernel_rfl)

end Mine
namespace Mine
local macro_rules | `(tactic| omega) => `(tactic| first | assumption | exact Nat.ne_of_lt (by assumption) | exact Nat.ne_of_gt (by assumption) | exact Nat.le_of_lt (by assumption) | lia | omega (config := {}))
theorem tb_apart {h : Heap} {t : Tb} (T : TbAt h t) : @Ne Nat t.c1 44 ∧ @Ne Nat t.c2 37 ∧ @Ne Nat t.c1 t.c2 := by
  have g1 : h.get? 37 = some t.o1 := T.1 (37, t.o1) (.head _)
  have g2 : h.get? t.c1 = some t.oc1 := T.1 (t.c1, t.oc1) (.tail _ (.head _))
  have g3 : h.get? 44 = some t.o2 := T.1 (44, t.o2) (.tail _ (.tail _ (.head _)))
  have g4 : h.get? t.c2 = some t.oc2 := T.1 (t.c2, t.oc2) (.tail _ (.tail _ (.tail _ (.head _))))
  obtain ⟨t1, t2⟩ := T.2
  generalize t.o1 = o1 at *
  generalize t.o2 = o2 at *
  generalize t.c1 = c1 at *
  generalize t.c2 = c2 at *
  generalize t.oc1 = oc1 at *
  generalize t.oc2 = oc2 at *
  have emp : ∀ (o : Obj) (vs : Array Value) (x : Value), o = tabObj #[] → o.data = .fields vs → vs[1]? = some x → False := fun o vs x e1 e2 e3 => by
    subst e1
    cases e2
    simp at e3
  rcases t1 with ⟨rfl, rfl, rfl⟩ | ⟨rfl, vs1, k1, d1, v1⟩
  · rcases t2 with ⟨rfl, rfl, rfl⟩ | ⟨rfl, vs2, k2, d2, v2⟩
    · exact ⟨by decide, by decide, by decide⟩
    · have key : @Ne Nat c2 37 := fun e => by
        have e' : c2 = (37 : Addr) := e
        rw [e', g1] at g4; cases g4
        exact emp _ _ _ rfl d2 v2
      exact ⟨by decide, key, key.symm⟩
  · rcases t2 with ⟨rfl, rfl, rfl⟩ | ⟨rfl, vs2, k2, d2, v2⟩
    · have key : @Ne Nat c1 44 := fun e => by
        have e' : c1 = (44 : Addr) := e
        rw [e', g3] at g2; cases g2
        exact emp _ _ _ rfl d1 v1
      exact ⟨key, by decide, key⟩
    · refine ⟨fun e => ?_, fun e => ?_, fun e => ?_⟩
      · have e' : c1 = (44 : Addr) := e
        rw [e', g3] at g2; cases g2
        cases d1
        simp [rawInt] at v1
      · have e' : c2 = (37 : Addr) := e
        rw [e', g1] at g4; cases g4
        cases d2
        simp [rawInt] at v2
      · have e' : c1 = c2 := e
        rw [e', g4] at g2; cases g2
        rw [d1] at d2; cases d2
        rw [v1] at v2
        have := Option.some.inj v2
        injection this with h1 h2
        exact absurd h1 (by decide)
/-- what a call of the inner def leaves: the one list changed -/
def InOut (s : Shared) (D : Addr) (P : List Value → Prop) (v : Value) (s' : Shared) : Prop :=
  v = .none ∧ ∃ (h' : Heap) (tk : Nat) (vs' : List Value) (n' : Nat), s' = { s with heap := h', toks := tk } ∧ (∀ b o, b ≠ D → s.heap.get? b = some o → h'.get? b = some o) ∧ h'.get? D = some (lsO vs' n') ∧ P vs'
/-- the low figures of n bits -/
def digs (n x k : Nat) : List Int := (List.range k).map fun i => ((x / 2 ^ (n * i) % 2 ^ n : Nat) : Int)
abbrev iled (f : Addr) (fo : Obj) (ci : Addr) (oci : Obj) (ca : Addr) (oca : Obj) (cn : Addr) (ocn : Obj) (D : Addr) (vs : List Value) (vn : Nat) : List (Addr × Obj) := [(f, fo), (ci, oci), (ca, oca), (cn, ocn), (D, lsO vs vn)]
def InnerOk (w : World) (n : Nat) (f : Addr) (fo : Obj) (ci : Addr) (oci : Obj) (ca : Addr) (oca : Obj) (cn : Addr) (ocn : Obj) (D : Addr) (c' : Addr) (qual : Str) (base : Heap) (sz : Nat) : Prop :=
  ∀ (A : Around) (s : Shared) (E : Value → Shared → Prop) (x lo hi : Nat) (tx tl th : Tok) (xs : List Int) (vs : List Value) (vn : Nat), hi - lo ≤ sz → lo < hi → hi ≤ xs.length → xs.length ≤ 10 → x < 2 ^ (n * (hi - lo)) → Rm A sz →
    (∀ b o, base.get? b = some o → s.heap.get? b = some o) → (∀ p ∈ iled f fo ci oci ca oca cn ocn D vs vn, s.heap.get? p.1 = some p.2 ∧ base.get? p.1 = none) → s.heap.CodeRec (.ref c') qual → LR IntV xs vs →
    wpAny (model PySem.Challenge.rw_ti0023_01.row.prog w) A (call (.ref f) [.int x tx, .int lo tl, .int hi th]) (InOut s D fun vs' => LR IntV (xs.take lo ++ digs n x (hi - lo) ++ xs.drop hi) vs') E s
theorem inner_of {w : World} {n : Nat} {f : Addr} {ci : Addr} {oci : Obj} {ca : Addr} {oca : Obj} {cn : Addr} {ocn : Obj} {D c' : Addr} {base h00 h01 : Heap} {L00 : Addr} {r0 : List (Addr × Obj)}
    {name qual : Str} {params : Arguments} {body : List Stmt} {scope : Scope} {clos : List (Str × Addr)} {doc pm ctv : Value} {n1 n2 n3 : Str} (W : Wd w base) (N : News h00 L00 h01 ((f, fnMade name qual params body scope clos doc pm c' ctv) :: r0))
    (hbind : ∀ (s : Shared) (v1 v2 v3 : Value), BindsTo s (fnX name qual params body scope clos .none .none doc pm none (.ref c') ctv) ⟨[v1, v2, v3], []⟩ [(n1, v1), (n2, v2), (n3, v3)])
    (hloc : ∀ v1 v2 v3 : Value, ∀ y ∈ [(n1, v1), (n2, v2), (n3, v3)], scope.names.lookup y.1 = some .local) (hcell : ∀ x ∈ scope.names, x.2 ≠ .cell)
    (hco : scope.isCoroutine = false) (hgen : scope.isGenerator = false) (hk : scope.kind = .function)
    (step : ∀ (sz : Nat), InnerOk w n f (fnMade name qual params body scope clos doc pm c' ctv) ci oci ca oca cn ocn D c' qual base sz →
      ∀ (dp un : Nat) (fr : Option (List Env)) (gd : Option (List Code)) (s : Shared) (x lo hi : Nat) (tx tl th : Tok) (xs : List Int) (vs : List Value) (vn : Nat), hi - lo ≤ sz + 1 → lo < hi → hi ≤ xs.length → xs.length ≤ 10 → x < 2 ^ (n * (hi - lo)) → dp + (sz + 1) < 1000 → un + 100 * (sz + 1) + 100 < 9900 →
        LR IntV xs vs →
        ∀ (g : Heap) (L' : Addr) (h1 : Heap) (tk : Nat), (∀ b o, base.get? b = some o → g.get? b = some o) → (∀ b o, b ∉ [f, ci, ca, cn, D] → s.heap.get? b = some o → g.get? b = some o) → (∀ p ∈ iled f (fnMade name qual params body scope clos doc pm c' ctv) ci oci ca oca cn ocn D vs vn, s.heap.get? p.1 = some p.2) →
          Fr g L' h1 (fun y => [(n1, .int x tx), (n2, .int lo tl), (n3, .int hi th)].reverse.lookup y) → News g L' h1 (iled f (fnMade name qual params body scope clos doc pm c' ctv) ci oci ca oca cn ocn D vs vn) → g.CodeRec (.ref c') qual →
          wpAny (model PySem.Challenge.rw_ti0023_01.row.prog w) (Around.deeper { depth := dp, frames := fr, guards := gd, units := un, handled := none } (envX qual scope L' f (.ref c') clos)) (execs body (envX qual scope L' f (.ref c') clos))
            (fun fl s' => InOut s D (fun vs' => LR IntV (xs.take lo ++ digs n x (hi - lo) ++ xs.drop hi) vs') (match fl with | .ret v => v | _ => .none) s') (fun _ _ => False) { s with heap := h1, toks := tk })
    (hc : c' ∉ [f, ci, ca, cn, D]) :
    ∀ sz, InnerOk w n f (fnMade name qual params body scope clos doc pm c' ctv) ci oci ca oca cn ocn D c' qual base sz := by
  intro sz
  induction sz with
  | zero => intro A s E x lo hi tx tl th xs vs vn h1 h2; omega
  | succ sz ih =>
    intro A s E x lo hi tx tl th xs vs vn h1 h2 h3 h4 h5 R kb led hrec hv
    obtain ⟨p, loose, mean, mg, mb, T⟩ := W.T
    obtain ⟨hnd, dp, fr, gd, un⟩ := A
    obtain ⟨rfl, hdp, hun⟩ := R
    dsimp only at hdp hun
    let ads : List Addr := [f, ci, ca, cn, D]
    have inl : ∀ p ∈ iled f (fnMade name qual params body scope clos doc pm c' ctv) ci oci ca oca cn ocn D vs vn, p.1 ∈ ads := fun p hp => by
      have : p.1 ∈ (iled f (fnMade name qual params body scope clos doc pm c' ctv) ci oci ca oca cn ocn D vs vn).map (·.1) := List.mem_map_of_mem hp
      exact this
    have of_ads : ∀ b ∈ ads, base.get? b = none := fun b hb => by
      have : b ∈ (iled f (fnMade name qual params body scope clos doc pm c' ctv) ci oci ca oca cn ocn D vs vn).map (·.1) := hb
      obtain ⟨p, hp, rfl⟩ := List.mem_map.mp this
      exact (led p hp).2
    have hg : ∀ b o, b ∉ ads → s.heap.get? b = some o → (hideAll s.heap ads).get? b = some o := fun b o hb e => hideAll_get _ e hb
    refine wpAny_call (codeAny_call_def (fd := fnX name qual params body scope clos .none .none doc pm none (.ref c') ctv) (body := body) (by show dp < 1000; omega) (led _ (.head _)).1 rfl ((T.keeps kb).nolimit) hrec rfl (hbind s _ _ _) hcell (hloc _ _ _) (fun h₁ hns hk₁ => ?_) hco hgen hk)
    refine wpAny_mono (step sz ih dp un fr gd s x lo hi tx tl th xs vs vn h1 h2 h3 h4 h5 hdp hun hv (hideAll s.heap ads) s.heap.objs.size h₁ _ (fun b o e => hg b o (fun q => by rw [of_ads b q] at e; cases e) (kb b o e)) hg (fun p hp => (led p hp).1)
      ⟨hns, fun b o e => hk₁ b o (of_hideAll _ e), Nat.le_of_eq (hideAll_size _ _)⟩ (fun p hp => ⟨hk₁ _ _ (led p hp).1, Nat.ne_of_lt (Heap.lt_size (led p hp).1), hideAll_none _ (inl p hp)⟩) ?_) (fun fl s' hl => hl) fun _ _ y => y.elim
    obtain ⟨c₂, o₂, vs₂, t₂, e₂, g₂, r₂⟩ := hrec
    cases e₂
    exact ⟨c', o₂, vs₂, t₂, rfl, hg _ _ hc g₂, r₂⟩
theorem endIn {s : Shared} {f : Addr} {fo : Obj} {ci : Addr} {oci : Obj} {ca : Addr} {oca : Obj} {cn : Addr} {ocn : Obj} {D : Addr} {vs vs' : List Value} {vn vn' : Nat} {g h' : Heap} {L' : Addr} {m : Str → Option Value} {tk : Nat} {P : List Value → Prop}
    (hg : ∀ b o, b ∉ [f, ci, ca, cn, D] → s.heap.get? b = some o → g.get? b = some o) (led : ∀ p ∈ iled f fo ci oci ca oca cn ocn D vs vn, s.heap.get? p.1 = some p.2) (F : Fr g L' h' m) (N : News g L' h' (iled f fo ci oci ca oca cn ocn D vs' vn')) (hp : P vs') :
    InOut s D P .none { s with heap := h', toks := tk } := by
  refine ⟨rfl, h', tk, vs', vn', rfl, fun b o hb e => ?_, (N (D, _) (.tail _ (.tail _ (.tail _ (.tail _ (.head _)))))).1, hp⟩
  by_cases hm : b ∈ [f, ci, ca, cn, D]
  · simp only [List.mem_cons, List.not_mem_nil, or_false] at hm
    rcases hm with rfl | rfl | rfl | rfl | rfl
    · rw [led (b, fo) (.head _)] at e; cases e; exact (N (b, fo) (.head _)).1
    · rw [led (b, oci) (.tail _ (.head _))] at e; cases e; exact (N (b, oci) (.tail _ (.head _))).1
    · rw [led (b, oca) (.tail _ (.tail _ (.head _)))] at e; cases e; exact (N (b, oca) (.tail _ (.tail _ (.head _)))).1
    · rw [led (b, ocn) (.tail _ (.tail _ (.tail _ (.head _))))] at e; cases e; exact (N (b, ocn) (.tail _ (.tail _ (.tail _ (.head _))))).1
    · exact absurd rfl hb
  · exact F.keep _ _ (hg b o hm e)
/-- using the inner def's law where the walk stands: one list of the ledger changes -/
theorem useIn {M : Model} {A : Around} {E : Value → Shared → Prop} {s : Shared} {Q : Value → Shared → Prop} {x : Sem Value} {D : Addr} {P : List Value → Prop} {g : Heap} {L : Addr} {m : Str → Option Value} {pre : List (Addr × Obj)} {vs : List Value} {vn : Nat}
    (S : wpAny M A x (InOut s D P) E s) (F : Fr g L s.heap m) (N : News g L s.heap (pre ++ [(D, lsO vs vn)])) (hne : ∀ p ∈ pre, p.1 ≠ D)
    (h : ∀ h' tk vs' vn', P vs' → Fr g L h' m → News g L h' (pre ++ [(D, lsO vs' vn')]) → (∀ b o, b ≠ D → s.heap.get? b = some o → h'.get? b = some o) → Q .none { s with heap := h', toks := tk }) : wpAny M A x Q E s := by
  refine wpAny_mono S (fun v s' hs => ?_) fun _ _ e => e
  obtain ⟨rfl, h', tk, vs', n', rfl, hk, hD, hp⟩ := hs
  have nD := N (D, lsO vs vn) (List.mem_append_right _ (.head _))
  refine h h' tk vs' n' hp ⟨?_, fun b o e => hk b o (fun q => by rw [q, nD.2.2] at e; cases e) (F.keep b o e), F.above⟩ (fun p hp => ?_) hk
  · obtain ⟨oL, es, ep, hL, hLd⟩ := F.ns
    exact ⟨oL, es, ep, hk _ _ (Ne.symm nD.2.1) hL, hLd⟩
  · rcases List.mem_append.mp hp with hp | hp
    · have z := N p (List.mem_append_left _ hp)
      exact ⟨hk _ _ (hne p hp) z.1, z.2⟩
    · rw [List.mem_singleton.mp hp]
      exact ⟨hD, nD.2⟩

end Mine
namespace Mine
local macro_rules | `(tactic| omega) => `(tactic| first | assumption | exact Nat.ne_of_lt (by assumption) | exact Nat.ne_of_gt (by assumption) | exact Nat.le_of_lt (by assumption) | lia | omega (config := {}))
section
variable {prog : Program} {w : World} {A : Around} {E : Value → Shared → Prop} {s : Shared} {g : Heap} {L D : Addr} {m : Str → Option Value} {pre : List (Addr × Obj)} {vs : List Value} {n : Nat}
theorem setK {k : Nat} {t : Tok} {v : Value} {Q : Unit → Shared → Prop} (F : Fr g L s.heap m) (N : News g L s.heap (pre ++ [(D, lsO vs n)])) (hne : ∀ p ∈ pre, p.1 ≠ D) (hk : k < vs.length) (hl : vs.length < 1000)
    (h : ∀ h', Fr g L h' m → News g L h' (pre ++ [(D, lsO (vs.set k v) n)]) → Q () { s with heap := h' }) : wpAny (model prog w) A (setItem (.ref D) (.int (k : Int) t) v) Q E s := by
  have z := N (D, lsO vs n) (List.mem_append_right _ (.head _))
  refine ki_setAt z.1 (by omega) (by omega) (by rw [List.size_toArray]; omega) (h _ (F.change (Heap.SameBut.update ..) z.2.1 z.2.2) (ki_turn _ N hne (fun p hp => nomatch hp) ?_ ?_))
  · apply Array.toList_inj.mp
    simp
  · simp
theorem rsh1 {lo hi : Nat} {t u : Tok} {Q : Value → Shared → Prop} (h : ∀ t' k, Q (.int (((lo + hi) / 2 : Nat) : Int) t') { s with toks := k }) : wpAny (model prog w) A (binaryOp .RShift (.int ((lo : Int) + (hi : Int)) t) (.int 1 u)) Q E s := by
  refine rshift_int (by decide) ?_
  rw [show ((lo : Int) + (hi : Int)).fdiv (2 ^ (1 : Int).toNat) = (((lo + hi) / 2 : Nat) : Int) by
    rw [Int.fdiv_eq_ediv_of_nonneg _ (by decide)]
    show ((lo : Int) + hi) / 2 = _
    omega]
  exact h _ _
theorem mulD {lo mid n : Nat} {t u : Tok} {Q : Value → Shared → Prop} (h1 : lo ≤ mid) (h2 : mid < 1000) (h3 : n < 1000) (h : ∀ t' k, Q (.int ((n * (mid - lo) : Nat) : Int) t') { s with toks := k }) : wpAny (model prog w) A (binaryOp .Mult (.int ((mid : Int) - (lo : Int)) t) (.int (n : Int) u)) Q E s := by
  refine PyProof.Rows.mul_int ?_ ?_
  · rw [show ((mid : Int) - (lo : Int)) * (n : Int) = ((n * (mid - lo) : Nat) : Int) by
      rw [Int.natCast_mul, Int.natCast_sub h1, Int.mul_comm]]
    exact h _ _
  · apply IntMulOk.of_left
    have : Builtin.Int.intBits ((mid : Int) - (lo : Int)) ≤ 10 := by
      rw [show (mid : Int) - (lo : Int) = ((mid - lo : Nat) : Int) by omega]
      unfold Builtin.Int.intBits
      by_cases h0 : mid - lo = 0
      · simp [h0]
      · have e : (((mid - lo : Nat) : Int) == 0) = false := by simpa using h0
        rw [e]
        have := (Nat.log2_lt (n := mid - lo) (k := 10) h0).mpr (by omega)
        simp only [Bool.false_eq_true, if_false, Int.natAbs_natCast]
        omega
    omega
theorem rshX {x sh : Nat} {t u : Tok} {Q : Value → Shared → Prop} (h : ∀ t' k, Q (.int ((x / 2 ^ sh : Nat) : Int) t') { s with toks := k }) : wpAny (model prog w) A (binaryOp .RShift (.int (x : Int) t) (.int (sh : Int) u)) Q E s := by
  refine rshift_int (by omega) ?_
  rw [show (x : Int).fdiv (2 ^ (sh : Int).toNat) = ((x / 2 ^ sh : Nat) : Int) by
    rw [Int.fdiv_eq_ediv_of_nonneg _ (by exact Int.pow_nonneg (by decide)), Int.toNat_natCast, Int.natCast_ediv]
    norm_cast]
  exact h _ _
theorem bitsN {x k : Nat} (h : x < 2 ^ k) : Builtin.Int.intBits (x : Int) ≤ k := by
  unfold Builtin.Int.intBits
  by_cases h0 : x = 0
  · simp [h0]
  · have e : ((x : Int) == 0) = false := by simpa using h0
    rw [e]
    have := (Nat.log2_lt (n := x) (k := k) h0).mpr h
    simp only [Bool.false_eq_true, if_false, Int.natAbs_natCast]
    omega
theorem lshX {x sh : Nat} {t u : Tok} {Q : Value → Shared → Prop} (hx : x < 2 ^ 2000) (hs : sh < 100000) (h : ∀ t' k, Q (.int ((x * 2 ^ sh : Nat) : Int) t') { s with toks := k }) : wpAny (model prog w) A (binaryOp .LShift (.int (x : Int) t) (.int (sh : Int) u)) Q E s := by
  have hb := bitsN hx
  refine lshift_int (by omega) (by omega) ?_
  rw [show (x : Int) * 2 ^ (sh : Int).toNat = ((x * 2 ^ sh : Nat) : Int) by
    rw [Int.toNat_natCast, Int.natCast_mul]; norm_cast]
  exact h _ _
theorem and_shl (x k : Nat) : x &&& (x / 2 ^ k * 2 ^ k) = x / 2 ^ k * 2 ^ k := by
  apply Nat.eq_of_testBit_eq
  intro i
  rw [Nat.testBit_and, Nat.testBit_mul_two_pow, Nat.testBit_div_two_pow]
  by_cases h : k ≤ i
  · simp [h, Nat.sub_add_cancel h]
  · simp [h]
theorem bitAnd_nat (x y : Nat) : Builtin.bitAnd (x : Int) (y : Int) = ((x &&& y : Nat) : Int) := by
  unfold Builtin.bitAnd
  simp
theorem xorX {x sh : Nat} {t u : Tok} {Q : Value → Shared → Prop} (h : ∀ t' k, Q (.int ((x % 2 ^ sh : Nat) : Int) t') { s with toks := k }) : wpAny (model prog w) A (binaryOp .BitXor (.int (x : Int) t) (.int ((x / 2 ^ sh * 2 ^ sh : Nat) : Int) u)) Q E s := by
  refine xor_int ?_
  rw [show Builtin.bitXor (x : Int) ((x / 2 ^ sh * 2 ^ sh : Nat) : Int) = ((x % 2 ^ sh : Nat) : Int) by
    rw [bitXor_and, bitAnd_nat, and_shl]
    have := Nat.div_add_mod x (2 ^ sh)
    rw [Nat.mul_comm] at this
    omega]
  exact h _ _
end
theorem digs_len (n x k : Nat) : (digs n x k).length = k := by simp [digs]
theorem digs_join (n x a b : Nat) : digs n (x % 2 ^ (n * a)) a ++ digs n (x / 2 ^ (n * a)) b = digs n x (a + b) := by
  unfold digs
  rw [List.range_add, List.map_append, List.map_map]
  congr 1
  · apply List.map_congr_left
    intro i hi
    have hi : i < a := List.mem_range.mp hi
    congr 1
    have e : 2 ^ (n * a) = 2 ^ (n * i) * 2 ^ (n * (a - i)) := by rw [← Nat.pow_add, ← Nat.mul_add]; congr 2; omega
    rw [e, Nat.mod_mul_right_div_self]
    apply Nat.mod_mod_of_dvd
    apply Nat.pow_dvd_pow
    have : 1 ≤ a - i := by omega
    calc n = n * 1 := by omega
      _ ≤ n * (a - i) := Nat.mul_le_mul_left _ this
  · apply List.map_congr_left
    intro i _
    show ((x / 2 ^ (n * a) / 2 ^ (n * i) % 2 ^ n : Nat) : Int) = ((x / 2 ^ (n * (a + i)) % 2 ^ n : Nat) : Int)
    congr 1
    rw [Nat.div_div_eq_div_mul, ← Nat.pow_add, ← Nat.mul_add]
theorem digs_one {n x : Nat} (h : x < 2 ^ (n * 1)) : digs n x 1 = [(x : Int)] := by
  rw [Nat.mul_one] at h
  show [((x / 2 ^ (n * 0) % 2 ^ n : Nat) : Int)] = _
  rw [Nat.mul_zero, Nat.pow_zero, Nat.div_one, Nat.mod_eq_of_lt h]
/-- the two halves written one after the other -/
theorem write_two {xs A B : List Int} {lo mid hi : Nat} (h1 : lo ≤ mid) (h2 : mid ≤ hi) (h3 : hi ≤ xs.length) (ha : A.length = mid - lo) :
    (xs.take lo ++ A ++ xs.drop mid).take mid ++ B ++ (xs.take lo ++ A ++ xs.drop mid).drop hi = xs.take lo ++ (A ++ B) ++ xs.drop hi := by
  have hl : (xs.take lo ++ A).length = mid := by rw [List.length_append, List.length_take, ha]; omega
  have e1 : (xs.take lo ++ A ++ xs.drop mid).take mid = xs.take lo ++ A := by
    rw [List.take_append_of_le_length (by omega), List.take_of_length_le (by omega)]
  have e2 : (xs.take lo ++ A ++ xs.drop mid).drop hi = xs.drop hi := by
    rw [List.drop_append, List.drop_of_length_le (by omega), hl, List.drop_drop]
    simp; congr 1; omega
  rw [e1, e2]
  simp
theorem write_one {xs : List Int} {vs : List Value} {lo : Nat} {x : Nat} {t : Tok} (hv : LR IntV xs vs) (h : lo < xs.length) : LR IntV (xs.take lo ++ [(x : Int)] ++ xs.drop (lo + 1)) (vs.set lo (.int x t)) := by
  induction hv generalizing lo with
  | nil => simp at h
  | cons r hv ih =>
    cases lo with
    | zero => exact .cons ⟨t, rfl⟩ hv
    | succ lo => exact .cons r (ih (by simpa using h))

end Mine
namespace Mine
local macro_rules | `(tactic| omega) => `(tactic| first | assumption | exact Nat.ne_of_lt (by assumption) | exact Nat.ne_of_gt (by assumption) | exact Nat.le_of_lt (by assumption) | lia | omega (config := {}))
local macro_rules | `(tactic| walk_at "exec FunctionDef") => `(tactic| (k_here; refine Here.out ?_))
local macro_rules | `(tactic| walk_at "call ref") => `(tactic| (k_here; refine Here.out ?_))
local macro_rules | `(tactic| walk_at "binaryOp RShift int int") => `(tactic| (k_here; refine Here.out ?_))
local macro_rules | `(tactic| walk_at "binaryOp Mult int int") => `(tactic| (k_here; refine Here.out ?_))
local macro_rules | `(tactic| walk_at "binaryOp BitXor int int") => `(tactic| (k_here; refine Here.out ?_))
local macro_rules | `(tactic| walk_at "setItem ref int") => `(tactic| (k_here; refine Here.out ?_))
local macro_rules | `(tactic| walk_at "binaryOp LShift int int") => `(tactic| (k_here; refine Here.out ?_))
local macro_rules | `(tactic| walk_at "call builtin:len") => `(tactic| (k_here; refine Here.out ?_))
/-- how many figures of n bits -/
def dcnt (n a : Nat) : Nat := (Builtin.Int.intBits (a : Int) + n - 1) / n
theorem dcnt_eq {n a : Nat} (hn : 1 ≤ n) : ((Builtin.Int.intBits (a : Int) : Int) + (n : Int) - 1).fdiv (n : Int) = ((dcnt n a : Nat) : Int) := by
  unfold dcnt
  rw [Int.fdiv_eq_ediv_of_nonneg _ (by omega), Int.natCast_ediv]
  congr 1
  omega
theorem bits_le {a k : Nat} (h : a < 2 ^ k) : Builtin.Int.intBits (a : Int) ≤ k := by
  unfold Builtin.Int.intBits
  by_cases h0 : a = 0
  · simp [h0]
  · have e : ((a : Int) == 0) = false := by simpa using h0
    rw [e]
    have := (Nat.log2_lt (n := a) (k := k) h0).mpr h
    simp only [Bool.false_eq_true, if_false, Int.natAbs_natCast]
    omega
theorem lt_bits (a : Nat) : a < 2 ^ Builtin.Int.intBits (a : Int) := by
  unfold Builtin.Int.intBits
  by_cases h0 : a = 0
  · simp [h0]
  · have e : ((a : Int) == 0) = false := by simpa using h0
    rw [e]
    simp only [Bool.false_eq_true, if_false, Int.natAbs_natCast]
    exact Nat.lt_log2_self
theorem dcnt_le {n a k : Nat} (hn : 1 ≤ n) (h : a < 2 ^ (n * k)) : dcnt n a ≤ k := by
  unfold dcnt
  have := bits_le h
  rw [Nat.div_le_iff_le_mul_add_pred (by omega)]
  omega
theorem lt_dcnt {n a : Nat} (hn : 1 ≤ n) : a < 2 ^ (n * dcnt n a) := by
  refine Nat.lt_of_lt_of_le (lt_bits a) (Nat.pow_le_pow_right (by decide) ?_)
  unfold dcnt
  have h1 := Nat.div_add_mod (Builtin.Int.intBits (a : Int) + n - 1) n
  have h2 := Nat.mod_lt (Builtin.Int.intBits (a : Int) + n - 1) (show 0 < n by omega)
  omega
theorem lr_rep (c : Nat) (tk : Tok) : LR IntV (List.replicate c 0) (List.replicate c (Value.int 0 tk)) := by
  induction c with
  | zero => exact .nil
  | succ c ih => exact .cons ⟨tk, rfl⟩ ih
theorem i2d_spec {w : World} {A : Around} {s : Shared} {E : Value → Shared → Prop} {t : Tb} {a n : Nat} {ta tn : Tok} (R : Rm A 20) (W : Wd w (gh s.heap t)) (TT : TbAt s.heap t) (ha : a < 2 ^ 300) (hn : 1 ≤ n ∧ n < 100) (hk : a < 2 ^ (n * 10)) :
  wpAny (model PySem.Challenge.rw_ti0023_01.row.prog w) A (call (.ref 42) [.int a ta, .int n tn]) (OutT s t (NewLT s t fun vs => LR IntV (digs n a (dcnt n a)) vs)) E s := by
  revert W; obtain ⟨hnd, dp, fr, gd, un⟩ := A; obtain ⟨rfl, hdp, hun⟩ := R; dsimp only at hdp hun
  intro W; have X := W.X; revert X; k_fill; intro X; obtain ⟨p, loose, mean, mg, mb, T⟩ := W.T
  refine enterTC (binds := [(Str.ofString "a", .int a ta), (Str.ofString "n", .int n tn)]) TT (X.keeps fun b o e => gh_of e) (T.keeps fun b o e => gh_of e) (by k_is) (by k_is) (by show dp < 1000; omega) (BindsTo.of_eq rfl) rfl (by decide) rfl rfl rfl ?_
  intro L' h' tk' cells F' N' Y' O' lt'
  k_cells Y'
  rename Obj => on
  simp only [Tb.led, List.cons_append, List.nil_append] at N'
  have hc10 := dcnt_le hn.1 hk
  obtain ⟨p1, p2, p3⟩ := tb_apart TT
  have q1 : @LT.lt Nat _ 37 L' := lt' (37, t.o1) (.head _)
  have q2 : @LT.lt Nat _ t.c1 L' := lt' (t.c1, t.oc1) (.tail _ (.head _))
  have q3 : @LT.lt Nat _ 44 L' := lt' (44, t.o2) (.tail _ (.tail _ (.head _)))
  have q4 : @LT.lt Nat _ t.c2 L' := lt' (t.c2, t.oc2) (.tail _ (.tail _ (.tail _ (.head _))))
  clear lt'
  k_steps
  rw [dcnt_eq hn.1]
  (rename News _ _ _ _ => N1); (rename Fr _ _ _ _ => F1)
  refine KM.mul (vs := [.int 0 tk']) (ns := [0]) F1 N1 (News.isList N1 (.head _)) (.cons _ _ .nil) (by omega) (by omega) (by simp; omega) ?_
  intro D h1 F2 N2 lD _ _ _ _ _ _
  rw [show (List.replicate ((dcnt n a : Nat) : Int).toNat [Value.int 0 tk']).flatten = List.replicate (dcnt n a) (Value.int 0 tk') by rw [Int.toNat_natCast]; generalize dcnt n a = c; induction c with | zero => rfl | succ c ih => rw [List.replicate_succ, List.flatten_cons, ih]; rfl] at N2
  clear F1 N1
  k_lt lD
  k_steps
  refine Here.in ?_
  (rename News _ _ _ _ => N3); (rename Fr _ _ _ _ => F3); rename Obj => o9
  refine nestDef_K rfl rfl rfl ?_
  have N4 : News (gh s.heap t) L' _ [(37, t.o1), (t.c1, t.oc1), (44, t.o2), (t.c2, t.oc2), (D, lsO (List.replicate (dcnt n a) (Value.int 0 tk')) 0), (L' + 1 + 1 + 1, _), (L' + 1 + 1, _), (L' + 1, _)] := fun p hp => N3 p (sub [2, 3, 4, 5, 0, 6, 7, 8] p hp)
  clear N3
  refine nestAny_K (qual := Str.ofString "_int2digits.<locals>.inner") (rest := [(44, t.o2), (t.c2, t.oc2), (D, lsO (List.replicate (dcnt n a) (Value.int 0 tk')) 0), (L' + 1 + 1 + 1, _), (L' + 1 + 1, _), (L' + 1, _)]) F3 N4 T (i2d_head W.X) rfl TT.2.1 ?_ ?_ rfl ?_
  · exact neC (by decide) (neC (by show @Ne Nat _ _; omega) (neC (by show @Ne Nat _ _; omega) (neC (ne3 q1) (neC (ne2 q1) (neC (ne1 q1) neE)))))
  · exact neC (by show @Ne Nat _ _; omega) (neC (by show @Ne Nat _ _; omega) (neC (by show @Ne Nat _ _; omega) (neC (ne3 q2) (neC (ne2 q2) (neC (ne1 q2) neE)))))
  intro f c' oc oN ctv doc pm h2 tk2 F5 N5 st' hrec hne hlf hcf hPf
  have am := allNe_of (d := c') hne
  have af := allLt_of (d := f) hlf
  have m1 := am.hd
  have m2 := am.tl.hd
  have m3 := am.tl.tl.hd
  have m4 := am.tl.tl.tl.hd
  have m5 := am.tl.tl.tl.tl.hd
  have m6 := am.tl.tl.tl.tl.tl.hd
  have f1 := af.hd
  have f2 := af.tl.hd
  have f3 := af.tl.tl.hd
  have f4 := af.tl.tl.tl.hd
  have f5 := af.tl.tl.tl.tl.hd
  have f6 := af.tl.tl.tl.tl.tl.hd
  have m7 : @Ne Nat c' f := Nat.ne_of_lt hcf
  clear hne hlf N4
  have C0 : CodeHd (gh s.heap t) 41 37 := i2d_head W.X
  k_steps
  · refine Here.in ?_
    (rename News _ _ _ _ => N6); (rename Fr _ _ _ _ => F6); rename Obj => o10
    refine lenL_K (vs := List.replicate (dcnt n a) (Value.int 0 tk')) (by exact News.isList N6 (.tail _ (.tail _ (.tail _ (.tail _ (.tail _ (.head _))))))) List.length_replicate (by omega) ?_
    intro t6 k6
    k_steps
    refine Here.in ?_
    have inner := inner_of (n := n) (f := f) (ci := L' + 1 + 1 + 1) (oci := o10) (ca := L' + 1 + 1) (oca := o9) (cn := L' + 1) (ocn := on) (D := D) (n1 := Str.ofString "x") (n2 := Str.ofString "L") (n3 := Str.ofString "R") W N6 (fun _ _ _ _ => BindsTo.of_eq rfl) (fun _ _ _ => locs rfl) (by decide) rfl rfl rfl ?_ ?_
    · have hpos : 0 < dcnt n a := by
        rcases Nat.eq_zero_or_pos (dcnt n a) with h0 | h0
        · have := lt_dcnt (a := a) hn.1
          rw [h0] at this
          rename ¬ (a : Int) = 0 => ha0
          simp at this; omega
        · exact h0
      obtain ⟨rvs, rt, hr1, hr2⟩ := hrec
      have N7 : News (gh s.heap t) L' _ ([(f, _), (37, oN), (c', oc), (44, t.o2), (t.c2, t.oc2), (L' + 1 + 1 + 1, o10), (L' + 1 + 1, o9), (L' + 1, on)] ++ [(D, lsO (List.replicate (dcnt n a) (Value.int 0 tk')) 0)]) := fun p hp => N6 p (sub [0, 1, 2, 3, 4, 6, 7, 8, 5] p hp)
      refine useIn (inner 10 _ _ _ a 0 (dcnt n a) _ _ _ (List.replicate (dcnt n a) 0) (List.replicate (dcnt n a) (Value.int 0 tk')) 0 (by omega) hpos (by rw [List.length_replicate]; omega) (by rw [List.length_replicate]; omega) (lt_dcnt hn.1) (rmK hdp hun (by decide)) F6.keep (fun p hp => ⟨(N6 p (sub [0, 6, 7, 8, 5] p hp)).1, (N6 p (sub [0, 6, 7, 8, 5] p hp)).2.2⟩) (codeRec_news N6 (.tail _ (.tail _ (.head _))) hr1 hr2) (lr_rep _ _)) F6 N7 ?_ ?_
      · intro p hp
        exact neC (by show @Ne Nat _ _; omega) (neC (by show @Ne Nat _ _; omega) (neC (by show @Ne Nat _ _; omega) (neC (by show @Ne Nat _ _; omega) (neC (by show @Ne Nat _ _; omega) (neC (by show @Ne Nat _ _; omega) (neC (by show @Ne Nat _ _; omega) (neC (by show @Ne Nat _ _; omega) neE))))))) p hp
      intro h8 tk8 vs8 vn8 hv8 F8 N8 _
      clear F6 N6 N7
      k_steps
      refine endOT (t' := ⟨oN, c', oc, t.o2, t.c2, t.oc2⟩) F8 N8 (fun p hp => sub [1, 2, 3, 4] p hp) ⟨st', TT.2.2⟩ ⟨D, vs8, vn8, ?_, rfl, N8.fresh (List.mem_append_right _ (.head _)), N8.get (List.mem_append_right _ (.head _))⟩
      rw [List.take_zero, Nat.sub_zero, List.nil_append, List.drop_of_length_le (by rw [List.length_replicate]; omega), List.append_nil] at hv8
      exact hv8
    · clear F6 N6
      intro sz IH dp2 un2 fr2 gd2 s2 x lo hi tx tl th xs vs vn z1 z2 z3 z4 z5 z6 z7 hv g L2 h1 tk1 kb hg led F N hrec2
      have Tg := T.keeps kb
      have Xg := X.keeps kb
      have Cg := C0.keeps kb
      clear T X C0 W
      have hvl := hv.length
      replace hrec2 := Here.in hrec2
      have hne4 : ∀ (fo : Obj), ∀ p ∈ [(f, fo), (L' + 1 + 1 + 1, o10), (L' + 1 + 1, o9), (L' + 1, on)], p.1 ≠ D := by
        intro fo p hp
        exact neC (by show @Ne Nat _ _; omega) (neC (by show @Ne Nat _ _; omega) (neC (by show @Ne Nat _ _; omega) (neC (by show @Ne Nat _ _; omega) neE))) p hp
      k_steps
      · refine Here.in ?_
        rename _ = (hi : Int) => hlh
        have hi1 : hi = lo + 1 := by omega
        subst hi1
        (rename News _ _ _ _ => Na); (rename Fr _ _ _ _ => Fa)
        refine setK (pre := [(f, _), (L' + 1 + 1 + 1, o10), (L' + 1 + 1, o9), (L' + 1, on)]) Fa Na (hne4 _) (by omega) (by omega) ?_
        intro h3 F3 N3
        k_steps
        refine endIn hg led F3 N3 ?_
        rw [show lo + 1 - lo = 1 by omega] at z5 ⊢
        rw [digs_one z5]
        exact write_one hv (by omega)
      · refine Here.in ?_
        rename ¬ _ = (hi : Int) => hlh
        refine rsh1 ?_
        intro t1 k1
        have hmid : lo < (lo + hi) / 2 ∧ (lo + hi) / 2 < hi := by omega
        have hmidd : (lo + hi) / 2 < 1000 := by omega
        generalize (lo + hi) / 2 = mid at hmid hmidd ⊢
        obtain ⟨hm1, hm2⟩ := hmid
        k_steps
        refine Here.in ?_
        refine mulD (by omega) hmidd (by omega) ?_
        intro t2 k2
        generalize hsh : n * (mid - lo) = sh
        have hsh2 : sh < 100000 := by
          rw [← hsh]
          have : n * (mid - lo) ≤ 100 * 10 := Nat.mul_le_mul (by omega) (by omega)
          omega
        k_steps
        refine Here.in ?_
        refine rshX ?_
        intro t3 k3
        k_steps
        refine Here.in ?_
        refine lshX (Nat.lt_of_le_of_lt (Nat.div_le_self _ _) (Nat.lt_of_lt_of_le z5 (Nat.pow_le_pow_right (by decide) (by have : n * (hi - lo) ≤ 100 * 10 := Nat.mul_le_mul (by omega) (by omega); omega)))) hsh2 ?_
        intro t4 k4
        k_steps
        refine Here.in ?_
        refine xorX ?_
        intro t5 k5
        k_steps
        refine Here.in ?_
        (rename News _ _ _ _ => Na); (rename Fr _ _ _ _ => Fa)
        have e2 : 2 ^ (n * (hi - lo)) = 2 ^ sh * 2 ^ (n * (hi - mid)) := by rw [← hsh, ← Nat.pow_add, ← Nat.mul_add]; congr 2; omega
        have zl : x % 2 ^ sh < 2 ^ (n * (mid - lo)) := by rw [hsh]; exact Nat.mod_lt _ (Nat.two_pow_pos _)
        have zu : x / 2 ^ sh < 2 ^ (n * (hi - mid)) := by rw [Nat.div_lt_iff_lt_mul (Nat.two_pow_pos _), Nat.mul_comm, ← e2]; exact z5
        have bn : ∀ p : Addr × Obj, g.get? p.1 = none → (gh s.heap t).get? p.1 = none := fun p e => by
          cases q : (gh s.heap t).get? p.1 with
          | none => rfl
          | some o => have := kb _ _ q; rw [e] at this; cases this
        refine useIn (pre := [(f, _), (L' + 1 + 1 + 1, o10), (L' + 1 + 1, o9), (L' + 1, on)]) (IH _ _ _ (x % 2 ^ sh) lo mid t5 tl t1 xs vs vn (by omega) hm1 (by omega) z4 zl (rmK z6 z7 (Nat.le_refl _)) (fun b o e => Fa.keep _ _ (kb b o e)) (fun p hp => ⟨(Na p hp).1, bn p (Na p hp).2.2⟩) ((Here.out hrec2).keeps Fa.keep) hv) Fa Na (hne4 _) ?_
        intro h3 tk3 vs3 vn3 hv3 F3 N3 _
        clear Na Fa
        k_steps
        refine Here.in ?_
        (rename News _ _ _ _ => Na); (rename Fr _ _ _ _ => Fa)
        refine useIn (pre := [(f, _), (L' + 1 + 1 + 1, o10), (L' + 1 + 1, o9), (L' + 1, on)]) (IH _ _ _ (x / 2 ^ sh) mid hi t3 t1 th _ vs3 vn3 (by omega) hm2 ?_ ?_ zu (rmK z6 z7 (Nat.le_refl _)) (fun b o e => Fa.keep _ _ (kb b o e)) (fun p hp => ⟨(Na p hp).1, bn p (Na p hp).2.2⟩) ((Here.out hrec2).keeps Fa.keep) hv3) Fa Na (hne4 _) ?_
        · simp only [List.length_append, List.length_take, List.length_drop, digs_len]; omega
        · simp only [List.length_append, List.length_take, List.length_drop, digs_len]; omega
        intro h4 tk4 vs4 vn4 hv4 F4 N4 _
        clear Na Fa
        k_steps
        refine endIn hg led (by assumption) (by assumption) ?_
        rw [write_two (by omega) (by omega) (by omega) (digs_len _ _ _), ← hsh, digs_join, show mid - lo + (hi - mid) = hi - lo by omega] at hv4
        exact hv4
    · simp only [List.mem_cons, List.not_mem_nil, or_false]
      rintro (e | e | e | e | e)
      · exact m7 e
      · exact m4 e.symm
      · exact m5 e.symm
      · exact m6 e.symm
      · exact m3 e.symm
  · rename (a : Int) = 0 => ha0
    have ha1 : a = 0 := by omega
    subst ha1
    (rename News _ _ _ _ => N6); (rename Fr _ _ _ _ => F6); rename Obj => o10
    show OutT s t _ _ _
    have hd0 : dcnt n 0 = 0 := by unfold dcnt Builtin.Int.intBits; exact Nat.div_eq_of_lt (by simp; omega)
    rw [hd0] at N6
    refine endOT (t' := ⟨oN, c', oc, t.o2, t.c2, t.oc2⟩) F6 N6 (fun p hp => sub [1, 2, 3, 4] p hp) ⟨st', TT.2.2⟩ ⟨D, _, 0, ?_, rfl, N6.fresh (.tail _ (.tail _ (.tail _ (.tail _ (.tail _ (.head _)))))), N6.get (.tail _ (.tail _ (.tail _ (.tail _ (.tail _ (.head _))))))⟩
    rw [hd0]
    exact .nil

end Mine
namespace Mine
local macro_rules | `(tactic| omega) => `(tactic| first | assumption | exact Nat.ne_of_lt (by assumption) | exact Nat.ne_of_gt (by assumption) | exact Nat.le_of_lt (by assumption) | lia | omega (config := {}))
/-- the number that figures of n bits tell, the lowest first -/
def dval (n : Nat) : List Nat → Nat
  | [] => 0
  | d :: r => d + 2 ^ n * dval n r
theorem dval_append (n : Nat) (a b : List Nat) : dval n (a ++ b) = dval n a + 2 ^ (n * a.length) * dval n b := by
  induction a with
  | nil => simp [dval]
  | cons d a ih =>
    show d + 2 ^ n * dval n (a ++ b) = d + 2 ^ n * dval n a + _
    rw [ih, List.length_cons, Nat.mul_add, ← Nat.mul_assoc, ← Nat.pow_add, Nat.mul_succ, Nat.add_comm n]
    omega
theorem dval_lt {n : Nat} {l : List Nat} (h : ∀ d ∈ l, d < 2 ^ n) : dval n l < 2 ^ (n * l.length) := by
  induction l with
  | nil => simp [dval]
  | cons d l ih =>
    have h1 := h d (.head _)
    have h2 := ih fun d hd => h d (.tail _ hd)
    show d + 2 ^ n * dval n l < _
    rw [List.length_cons, Nat.mul_succ, Nat.add_comm, Nat.pow_add, Nat.mul_comm (2 ^ (n * l.length))]
    have : 2 ^ n * (dval n l + 1) ≤ 2 ^ n * 2 ^ (n * l.length) := Nat.mul_le_mul_left _ h2
    rw [Nat.mul_add] at this
    omega
abbrev NumV (k : Nat) (v : Value) : Prop := IntV (k : Int) v
abbrev jled (f : Addr) (fo : Obj) (ci : Addr) (oci : Obj) (ca : Addr) (oca : Obj) (cn : Addr) (ocn : Obj) : List (Addr × Obj) := [(f, fo), (ci, oci), (ca, oca), (cn, ocn)]
def InnerOk2 (w : World) (n : Nat) (f : Addr) (fo : Obj) (ci : Addr) (oci : Obj) (ca : Addr) (oca : Obj) (cn : Addr) (ocn : Obj) (c' : Addr) (qual : Str) (ds : List Nat) (base : Heap) (sz : Nat) : Prop :=
  ∀ (A : Around) (s : Shared) (E : Value → Shared → Prop) (lo hi : Nat) (tl th : Tok), hi - lo ≤ sz → lo < hi → hi ≤ ds.length → Rm A sz →
    (∀ b o, base.get? b = some o → s.heap.get? b = some o) → (∀ p ∈ jled f fo ci oci ca oca cn ocn, s.heap.get? p.1 = some p.2 ∧ base.get? p.1 = none) → s.heap.CodeRec (.ref c') qual →
    wpAny (model PySem.Challenge.rw_ti0023_01.row.prog w) A (call (.ref f) [.int lo tl, .int hi th]) (Out s fun v _ => NumV (dval n ((ds.drop lo).take (hi - lo))) v) E s
theorem inner_of2 {w : World} {n : Nat} {f : Addr} {ci : Addr} {oci : Obj} {ca : Addr} {oca : Obj} {cn : Addr} {ocn : Obj} {c' : Addr} {ds : List Nat} {base h00 h01 : Heap} {L00 : Addr} {r0 : List (Addr × Obj)}
    {name qual : Str} {params : Arguments} {body : List Stmt} {scope : Scope} {clos : List (Str × Addr)} {doc pm ctv : Value} {n2 n3 : Str} (W : Wd w base) (N : News h00 L00 h01 ((f, fnMade name qual params body scope clos doc pm c' ctv) :: r0))
    (hbind : ∀ (s : Shared) (v2 v3 : Value), BindsTo s (fnX name qual params body scope clos .none .none doc pm none (.ref c') ctv) ⟨[v2, v3], []⟩ [(n2, v2), (n3, v3)])
    (hloc : ∀ v2 v3 : Value, ∀ y ∈ [(n2, v2), (n3, v3)], scope.names.lookup y.1 = some .local) (hcell : ∀ x ∈ scope.names, x.2 ≠ .cell)
    (hco : scope.isCoroutine = false) (hgen : scope.isGenerator = false) (hk : scope.kind = .function)
    (step : ∀ (sz : Nat), InnerOk2 w n f (fnMade name qual params body scope clos doc pm c' ctv) ci oci ca oca cn ocn c' qual ds base sz →
      ∀ (dp un : Nat) (fr : Option (List Env)) (gd : Option (List Code)) (s : Shared) (lo hi : Nat) (tl th : Tok), hi - lo ≤ sz + 1 → lo < hi → hi ≤ ds.length → dp + (sz + 1) < 1000 → un + 100 * (sz + 1) + 100 < 9900 →
        ∀ (g : Heap) (L' : Addr) (h1 : Heap) (tk : Nat), (∀ b o, base.get? b = some o → g.get? b = some o) → (∀ b o, b ∉ [f, ci, ca, cn] → s.heap.get? b = some o → g.get? b = some o) → (∀ p ∈ jled f (fnMade name qual params body scope clos doc pm c' ctv) ci oci ca oca cn ocn, s.heap.get? p.1 = some p.2) →
          Fr g L' h1 (fun y => [(n2, .int lo tl), (n3, .int hi th)].reverse.lookup y) → News g L' h1 (jled f (fnMade name qual params body scope clos doc pm c' ctv) ci oci ca oca cn ocn) → g.CodeRec (.ref c') qual →
          wpAny (model PySem.Challenge.rw_ti0023_01.row.prog w) (Around.deeper { depth := dp, frames := fr, guards := gd, units := un, handled := none } (envX qual scope L' f (.ref c') clos)) (execs body (envX qual scope L' f (.ref c') clos))
            (fun fl s' => Out s (fun v _ => NumV (dval n ((ds.drop lo).take (hi - lo))) v) (match fl with | .ret v => v | _ => .none) s') (fun _ _ => False) { s with heap := h1, toks := tk })
    (hc : c' ∉ [f, ci, ca, cn]) :
    ∀ sz, InnerOk2 w n f (fnMade name qual params body scope clos doc pm c' ctv) ci oci ca oca cn ocn c' qual ds base sz := by
  intro sz
  induction sz with
  | zero => intro A s E lo hi tl th h1 h2; omega
  | succ sz ih =>
    intro A s E lo hi tl th h1 h2 h3 R kb led hrec
    obtain ⟨p, loose, mean, mg, mb, T⟩ := W.T
    obtain ⟨hnd, dp, fr, gd, un⟩ := A
    obtain ⟨rfl, hdp, hun⟩ := R
    dsimp only at hdp hun
    let ads : List Addr := [f, ci, ca, cn]
    have inl : ∀ p ∈ jled f (fnMade name qual params body scope clos doc pm c' ctv) ci oci ca oca cn ocn, p.1 ∈ ads := fun p hp => by
      have : p.1 ∈ (jled f (fnMade name qual params body scope clos doc pm c' ctv) ci oci ca oca cn ocn).map (·.1) := List.mem_map_of_mem hp
      exact this
    have of_ads : ∀ b ∈ ads, base.get? b = none := fun b hb => by
      have : b ∈ (jled f (fnMade name qual params body scope clos doc pm c' ctv) ci oci ca oca cn ocn).map (·.1) := hb
      obtain ⟨p, hp, rfl⟩ := List.mem_map.mp this
      exact (led p hp).2
    have hg : ∀ b o, b ∉ ads → s.heap.get? b = some o → (hideAll s.heap ads).get? b = some o := fun b o hb e => hideAll_get _ e hb
    refine wpAny_call (codeAny_call_def (fd := fnX name qual params body scope clos .none .none doc pm none (.ref c') ctv) (body := body) (by show dp < 1000; omega) (led _ (.head _)).1 rfl ((T.keeps kb).nolimit) hrec rfl (hbind s _ _) hcell (hloc _ _) (fun h₁ hns hk₁ => ?_) hco hgen hk)
    refine wpAny_mono (step sz ih dp un fr gd s lo hi tl th h1 h2 h3 hdp hun (hideAll s.heap ads) s.heap.objs.size h₁ _ (fun b o e => hg b o (fun q => by rw [of_ads b q] at e; cases e) (kb b o e)) hg (fun p hp => (led p hp).1)
      ⟨hns, fun b o e => hk₁ b o (of_hideAll _ e), Nat.le_of_eq (hideAll_size _ _)⟩ (fun p hp => ⟨hk₁ _ _ (led p hp).1, Nat.ne_of_lt (Heap.lt_size (led p hp).1), hideAll_none _ (inl p hp)⟩) ?_) (fun fl s' hl => hl) fun _ _ y => y.elim
    obtain ⟨c₂, o₂, vs₂, t₂, e₂, g₂, r₂⟩ := hrec
    cases e₂
    exact ⟨c', o₂, vs₂, t₂, rfl, hg _ _ hc g₂, r₂⟩
theorem endIn2 {s : Shared} {f : Addr} {fo : Obj} {ci : Addr} {oci : Obj} {ca : Addr} {oca : Obj} {cn : Addr} {ocn : Obj} {g h' : Heap} {L' : Addr} {m : Str → Option Value} {tk : Nat} {P : Value → Shared → Prop} {v : Value}
    (hg : ∀ b o, b ∉ [f, ci, ca, cn] → s.heap.get? b = some o → g.get? b = some o) (led : ∀ p ∈ jled f fo ci oci ca oca cn ocn, s.heap.get? p.1 = some p.2) (F : Fr g L' h' m) (N : News g L' h' (jled f fo ci oci ca oca cn ocn)) (hp : P v { s with heap := h', toks := tk }) :
    Out s P v { s with heap := h', toks := tk } := by
  refine ⟨hp, h', tk, rfl, fun b o e => ?_⟩
  by_cases hm : b ∈ [f, ci, ca, cn]
  · simp only [List.mem_cons, List.not_mem_nil, or_false] at hm
    rcases hm with rfl | rfl | rfl | rfl
    · rw [led (b, fo) (.head _)] at e; cases e; exact (N (b, fo) (.head _)).1
    · rw [led (b, oci) (.tail _ (.head _))] at e; cases e; exact (N (b, oci) (.tail _ (.head _))).1
    · rw [led (b, oca) (.tail _ (.tail _ (.head _)))] at e; cases e; exact (N (b, oca) (.tail _ (.tail _ (.head _)))).1
    · rw [led (b, ocn) (.tail _ (.tail _ (.tail _ (.head _))))] at e; cases e; exact (N (b, ocn) (.tail _ (.tail _ (.tail _ (.head _))))).1
  · exact F.keep _ _ (hg b o hm e)

end Mine
namespace Mine
local macro_rules | `(tactic| omega) => `(tactic| first | assumption | exact Nat.ne_of_lt (by assumption) | exact Nat.ne_of_gt (by assumption) | exact Nat.le_of_lt (by assumption) | lia | omega (config := {}))
local macro_rules | `(tactic| walk_at "exec FunctionDef") => `(tactic| (k_here; refine Here.out ?_))
local macro_rules | `(tactic| walk_at "call ref") => `(tactic| (k_here; refine Here.out ?_))
local macro_rules | `(tactic| walk_at "binaryOp RShift int int") => `(tactic| (k_here; refine Here.out ?_))
local macro_rules | `(tactic| walk_at "binaryOp Mult int int") => `(tactic| (k_here; refine Here.out ?_))
local macro_rules | `(tactic| walk_at "binaryOp LShift int int") => `(tactic| (k_here; refine Here.out ?_))
local macro_rules | `(tactic| walk_at "eval IfExp") => `(tactic| (k_here; with_reducible refine IfExp_ ?_))
local macro_rules | `(tactic| walk_at "truthy ref") => `(tactic| (k_here; refine Here.out ?_))
local macro_rules | `(tactic| walk_at "subscriptTail Name Name ref int") => `(tactic| (k_here; refine Here.out ?_))
local macro_rules | `(tactic| walk_at "call builtin:len") => `(tactic| (k_here; refine Here.out ?_))
theorem d2i_spec {w : World} {A : Around} {s : Shared} {E : Value → Shared → Prop} {t : Tb} {a : Addr} {n : Nat} {vs : List Value} {ds : List Nat} {tn : Tok} (R : Rm A 20) (W : Wd w (gh s.heap t)) (TT : TbAt s.heap t) (hn : 1 ≤ n ∧ n < 100)
  (hl : (gh s.heap t).IsList a vs.toArray) (hv : LR NumV ds vs) (hd : ∀ d ∈ ds, d < 2 ^ n) (hlen : ds.length ≤ 10) :
  wpAny (model PySem.Challenge.rw_ti0023_01.row.prog w) A (call (.ref 49) [.ref a, .int n tn]) (OutT s t (fun v _ => NumV (dval n ds) v)) E s := by
  revert W; obtain ⟨hnd, dp, fr, gd, un⟩ := A; obtain ⟨rfl, hdp, hun⟩ := R; dsimp only at hdp hun
  intro W; have X := W.X; revert X; k_fill; intro X; obtain ⟨p, loose, mean, mg, mb, T⟩ := W.T
  refine enterTC (binds := [(Str.ofString "digits", .ref a), (Str.ofString "n", .int n tn)]) TT (X.keeps fun b o e => gh_of e) (T.keeps fun b o e => gh_of e) (by k_is) (by k_is) (by show dp < 1000; omega) (BindsTo.of_eq rfl) rfl (by decide) rfl rfl rfl ?_
  intro L' h' tk' cells F' N' Y' O' lt'
  k_cells Y'
  rename_i oi9 on9 oa9 _ _ _
  simp only [Tb.led, List.cons_append, List.nil_append] at N'
  obtain ⟨p1, p2, p3⟩ := tb_apart TT
  have q1 : @LT.lt Nat _ 37 L' := lt' (37, t.o1) (.head _)
  have q2 : @LT.lt Nat _ t.c1 L' := lt' (t.c1, t.oc1) (.tail _ (.head _))
  have q3 : @LT.lt Nat _ 44 L' := lt' (44, t.o2) (.tail _ (.tail _ (.head _)))
  have q4 : @LT.lt Nat _ t.c2 L' := lt' (t.c2, t.oc2) (.tail _ (.tail _ (.tail _ (.head _))))
  clear lt'
  k_steps
  refine Here.in ?_
  (rename News _ _ _ _ => N3); (rename Fr _ _ _ _ => F3)
  refine nestDef_K rfl rfl rfl ?_
  have N4 : News (gh s.heap t) L' _ [(44, t.o2), (t.c2, t.oc2), (37, t.o1), (t.c1, t.oc1), (L' + 1 + 1 + 1, _), (L' + 1 + 1, _), (L' + 1, _)] := fun p hp => N3 p (sub [2, 3, 0, 1, 4, 5, 6] p hp)
  clear N3
  refine nestAny_K (qual := Str.ofString "_digits2int.<locals>.inner") (rest := [(37, t.o1), (t.c1, t.oc1), (L' + 1 + 1 + 1, _), (L' + 1 + 1, _), (L' + 1, _)]) F3 N4 T (d2i_head W.X) rfl TT.2.2 ?_ ?_ rfl ?_
  · exact neC (by show @Ne Nat _ _; omega) (neC (by show @Ne Nat _ _; omega) (neC (by show @Ne Nat _ _; omega) (neC (by show @Ne Nat _ _; omega) (neC (by show @Ne Nat _ _; omega) neE))))
  · exact neC (by show @Ne Nat _ _; omega) (neC (by show @Ne Nat _ _; omega) (neC (by show @Ne Nat _ _; omega) (neC (by show @Ne Nat _ _; omega) (neC (by show @Ne Nat _ _; omega) neE))))
  intro f c' oc oN ctv doc pm h2 tk2 F5 N5 st' hrec hne hlf hcf hPf
  have am := allNe_of (d := c') hne
  have af := allLt_of (d := f) hlf
  have m1 := am.hd
  have m2 := am.tl.hd
  have m4 := am.tl.tl.hd
  have m5 := am.tl.tl.tl.hd
  have m6 := am.tl.tl.tl.tl.hd
  have f1 := af.hd
  have f2 := af.tl.hd
  have f4 := af.tl.tl.hd
  have f5 := af.tl.tl.tl.hd
  have f6 := af.tl.tl.tl.tl.hd
  have m7 : @Ne Nat c' f := Nat.ne_of_lt hcf
  clear hne hlf N4
  have C0 : CodeHd (gh s.heap t) 48 44 := d2i_head W.X
  k_steps
  refine Here.in ?_
  (rename News _ _ _ _ => N6); (rename Fr _ _ _ _ => F6); rename Obj => o10
  have hvl := hv.length
  refine wpAny_truthy_list (hl.at fun o e => F6.keep _ _ e) (by rw [List.size_toArray]; omega) ?_
  rw [show (!vs.toArray.isEmpty) = decide (0 < ds.length) by cases hv <;> simp]
  by_cases h0 : 0 < ds.length
  · rw [decide_eq_true h0]
    simp only [if_true]
    k_steps
    refine Here.in ?_
    refine lenL_K (hl.at fun o e => F6.keep _ _ e) hvl (by omega) ?_
    intro t6 k6
    k_steps
    refine Here.in ?_
    have inner := inner_of2 (n := n) (f := f) (ci := L' + 1 + 1 + 1) (oci := o10) (ca := L' + 1) (oca := oa9) (cn := L' + 1 + 1) (ocn := on9) (ds := ds) (n2 := Str.ofString "L") (n3 := Str.ofString "R") W N6 (fun _ _ _ => BindsTo.of_eq rfl) (fun _ _ => locs rfl) (by decide) rfl rfl rfl ?_ ?_
    · obtain ⟨rvs, rt, hr1, hr2⟩ := hrec
      refine useI (inner 10 _ _ _ 0 ds.length _ _ (by omega) h0 (by omega) (rmK hdp hun (by decide)) F6.keep (fun p hp => ⟨(N6 p (sub [0, 5, 7, 6] p hp)).1, (N6 p (sub [0, 5, 7, 6] p hp)).2.2⟩) (codeRec_news N6 (.tail _ (.tail _ (.head _))) hr1 hr2)) F6 N6 ?_
      intro t8 h8 tk8 F8 N8
      k_steps
      refine endOT (t' := ⟨t.o1, t.c1, t.oc1, oN, c', oc⟩) F8 N8 (fun p hp => sub [3, 4, 1, 2] p hp) ⟨TT.2.1, st'⟩ ⟨t8, ?_⟩
      rw [List.drop_zero, Nat.sub_zero, List.take_of_length_le (Nat.le_refl _)]
    · clear F6 N6
      intro sz IH dp2 un2 fr2 gd2 s2 lo hi tl th z1 z2 z3 z6 z7 g L2 h1 tk1 kb hg led F N hrec2
      replace hrec2 := Here.in hrec2
      have Tg := T.keeps kb
      have Xg := X.keeps kb
      have Cg := C0.keeps kb
      clear T X C0
      k_steps
      · rename _ = (hi : Int) => hlh
        have hi1 : hi = lo + 1 := by omega
        subst hi1
        (rename News _ _ _ _ => Na); (rename Fr _ _ _ _ => Fa)
        have hlo : lo < ds.length := by omega
        refine Here.in ?_
        refine item_LR (k := lo) (a := ds[lo]) (hl.at fun o e => Fa.keep _ _ (kb _ _ e)) hv (List.getElem?_eq_getElem hlo) (by omega) ?_
        intro v hv1
        show Out s2 _ v _
        refine endIn2 hg led Fa Na ?_
        rw [show lo + 1 - lo = 1 by omega, List.drop_eq_getElem_cons hlo]
        show NumV (ds[lo] + 2 ^ n * 0) v
        rw [Nat.mul_zero, Nat.add_zero]
        exact hv1
      · refine Here.in ?_
        rename ¬ _ = (hi : Int) => hlh
        refine rsh1 ?_
        intro t1 k1
        have hmid : lo < (lo + hi) / 2 ∧ (lo + hi) / 2 < hi := by omega
        have hmidd : (lo + hi) / 2 < 1000 := by omega
        generalize (lo + hi) / 2 = mid at hmid hmidd ⊢
        obtain ⟨hm1, hm2⟩ := hmid
        k_steps
        refine Here.in ?_
        refine mulD (by omega) hmidd (by omega) ?_
        intro t2 k2
        generalize hsh : n * (mid - lo) = sh
        have hsh2 : sh < 100000 := by
          rw [← hsh]
          have : n * (mid - lo) ≤ 100 * 10 := Nat.mul_le_mul (by omega) (by omega)
          omega
        k_steps
        refine Here.in ?_
        (rename News _ _ _ _ => Na); (rename Fr _ _ _ _ => Fa)
        have bn : ∀ p : Addr × Obj, g.get? p.1 = none → (gh s.heap t).get? p.1 = none := fun p e => by
          cases q : (gh s.heap t).get? p.1 with
          | none => rfl
          | some o => have := kb _ _ q; rw [e] at this; cases this
        refine useI (IH _ _ _ mid hi t1 th (by omega) hm2 (by omega) (rmK z6 z7 (Nat.le_refl _)) (fun b o e => Fa.keep _ _ (kb b o e)) (fun p hp => ⟨(Na p hp).1, bn p (Na p hp).2.2⟩) ((Here.out hrec2).keeps Fa.keep)) Fa Na ?_
        intro t3 h3 tk3 F3 N3
        clear Na Fa
        have hup : dval n (List.take (hi - mid) (List.drop mid ds)) < 2 ^ 2000 := by
          refine Nat.lt_of_lt_of_le (dval_lt fun d hd1 => hd d (List.mem_of_mem_drop (List.mem_of_mem_take hd1))) (Nat.pow_le_pow_right (by decide) ?_)
          have : n * (List.take (hi - mid) (List.drop mid ds)).length ≤ 100 * 10 := Nat.mul_le_mul (by omega) (by rw [List.length_take]; omega)
          omega
        k_steps
        refine Here.in ?_
        refine lshX hup hsh2 ?_
        intro t4 k4
        k_steps
        refine Here.in ?_
        (rename News _ _ _ _ => Na); (rename Fr _ _ _ _ => Fa)
        refine useI (IH _ _ _ lo mid tl t1 (by omega) hm1 (by omega) (rmK z6 z7 (Nat.le_refl _)) (fun b o e => Fa.keep _ _ (kb b o e)) (fun p hp => ⟨(Na p hp).1, bn p (Na p hp).2.2⟩) ((Here.out hrec2).keeps Fa.keep)) Fa Na ?_
        intro t5 h5 tk5 F5 N5
        clear Na Fa
        k_steps
        show Out s2 _ (Value.int _ _) _
        refine endIn2 hg led (by assumption) (by assumption) ?_
        have e1 : List.take (hi - lo) (List.drop lo ds) = List.take (mid - lo) (List.drop lo ds) ++ List.take (hi - mid) (List.drop mid ds) := by
          rw [show hi - lo = (mid - lo) + (hi - mid) by omega, List.take_add, List.drop_drop, show lo + (mid - lo) = mid by omega]
        refine ⟨_, congrArg (fun z => Value.int z _) ?_⟩
        rw [e1, dval_append, List.length_take, List.length_drop, Nat.min_eq_left (by omega), hsh, Int.natCast_add, Nat.mul_comm (2 ^ sh), Int.add_comm]
    · simp only [List.mem_cons, List.not_mem_nil, or_false]
      rintro (e | e | e | e)
      · exact m7 e
      · exact m4 e.symm
      · exact m6 e.symm
      · exact m5 e.symm
  · rw [decide_eq_false h0]
    simp only [Bool.false_eq_true, if_false]
    k_steps
    have hnil : ds = [] := List.eq_nil_of_length_eq_zero (by omega)
    subst hnil
    exact endOT (t' := ⟨t.o1, t.c1, t.oc1, oN, c', oc⟩) F6 N6 (fun p hp => sub [3, 4, 1, 2] p hp) ⟨TT.2.1, st'⟩ ⟨_, rfl⟩

end Mine
namespace Mine
local macro_rules | `(tactic| omega) => `(tactic| first | assumption | exact Nat.ne_of_lt (by assumption) | exact Nat.ne_of_gt (by assumption) | exact Nat.le_of_lt (by assumption) | lia | omega (config := {}))
/-- the iterator lies apart from the four table entries and above the rest -/
def TOk (d : Nat) (l : List (Addr × Obj)) : Prop := AllNe d (l.take 5) ∧ AllLt d (l.drop 5)
theorem tok_of {d : Nat} {l : List (Addr × Obj)} (h : ∀ p ∈ l, @LT.lt Nat _ p.1 d) : TOk d l :=
  ⟨allNe_of fun p hp => Nat.ne_of_lt (h p (List.mem_of_mem_take hp)), allLt_of fun p hp => h p (List.mem_of_mem_drop hp)⟩
theorem TOk.all {d : Nat} {l : List (Addr × Obj)} (h : TOk d l) : ∀ p ∈ l, p.1 ≠ d := fun p hp => by
  rw [← List.take_append_drop 5 l] at hp
  rcases List.mem_append.mp hp with hp | hp
  · exact h.1.all p hp
  · exact h.2.all p hp
/-- a turn's end: the iterator stands as it stood, the word holds -/
def LEndB (h₀ : Heap) (L : Addr) (I : Addr) (oI : Obj) (J : (Str → Option Value) → List (Addr × Obj) → Prop) (s₁ s₂ : Shared) : Prop :=
  ∃ h' tk m' news', s₂ = { s₁ with heap := h', toks := tk } ∧ Fr h₀ L h' m' ∧ News h₀ L h' ((I, oI) :: news') ∧ TOk I news' ∧ J m' news'
def LPostB (h₀ : Heap) (L : Addr) (I : Addr) (oI : Obj) (J : (Str → Option Value) → List (Addr × Obj) → Prop) (s₁ : Shared) (Q : Flow → Shared → Prop) (f : Flow) (s₂ : Shared) : Prop :=
  match f with
  | .ret v => Q (.ret v) s₂
  | .brk => Q .next s₂
  | _ => LEndB h₀ L I oI J s₁ s₂
theorem LPostB.end {h₀ : Heap} {L I : Addr} {oI : Obj} {J : (Str → Option Value) → List (Addr × Obj) → Prop} {s₁ : Shared} {Q : Flow → Shared → Prop} {h' : Heap} {tk : Nat} {m' : Str → Option Value} {all : List (Addr × Obj)}
    (F : Fr h₀ L h' m') (N : News h₀ L h' all) (news' : List (Addr × Obj)) (sub : ∀ p ∈ (I, oI) :: news', p ∈ all) (hne : TOk I news') (hJ : J m' news') : LPostB h₀ L I oI J s₁ Q .next { s₁ with heap := h', toks := tk } :=
  ⟨h', tk, m', news', rfl, F, fun p hp => N p (sub p hp), hne, hJ⟩
theorem LPostB.ret {h₀ : Heap} {L I : Addr} {oI : Obj} {J : (Str → Option Value) → List (Addr × Obj) → Prop} {s₁ s₂ : Shared} {Q : Flow → Shared → Prop} {v : Value} (h : Q (.ret v) s₂) : LPostB h₀ L I oI J s₁ Q (.ret v) s₂ := h
theorem LPostB.brk {h₀ : Heap} {L I : Addr} {oI : Obj} {J : (Str → Option Value) → List (Addr × Obj) → Prop} {s₁ s₂ : Shared} {Q : Flow → Shared → Prop} (h : Q .next s₂) : LPostB h₀ L I oI J s₁ Q .brk s₂ := h
section
variable {prog : Program} {w : World} {A : Around} {s : Shared} {env : Env} {h₀ : Heap} {target : Expr} {body : List Stmt}
theorem forB {R : Result → Shared → Prop} {I : Addr} {fp : List Addr} {n : Nat} {P : Nat → Value → Prop} {St : Nat → Heap → Prop} {m : Str → Option Value} {news : List (Addr × Obj)}
    (W : Walks prog w A I fp [I] n P St) (hIo : ∀ i h, St i h → ∃ o, h.get? I = some o)
    (hLI : env.locals ≠ I) (hI0 : h₀.get? I = none)
    (J : Nat → (Str → Option Value) → List (Addr × Obj) → Prop)
    (hne : TOk I news) (hst : St 0 s.heap) (F : Fr h₀ env.locals s.heap m) (N : News h₀ env.locals s.heap news) (h0 : J 0 m news)
    (ht : ∀ v, letOwnedTupleGo target (.ref I) v = pure ())
    (step : ∀ i v m₁ news₁ h tk oI, i < n → P i v → J i m₁ news₁ → TOk I news₁ → Fr h₀ env.locals h m₁ → News h₀ env.locals h ((I, oI) :: news₁) →
      wpAny (model prog w) A (assign target env v) (fun _ s₂ => wpAny (model prog w) A (execs body env)
        (LPostB h₀ env.locals I oI (J (i + 1)) { s with heap := h, toks := tk } fun f s' => R (.ok f) s') (fun _ _ => False) s₂) (fun _ _ => False) { s with heap := h, toks := tk })
    (hR : ∀ h' tk m' news', Fr h₀ env.locals h' m' → News h₀ env.locals h' news' → J n m' news' → R (.ok .next) { s with heap := h', toks := tk })
    (hfr2 : ∀ i h h' oI m' news', St (i + 1) h → h.get? I = some oI → Fr h₀ env.locals h' m' → News h₀ env.locals h' ((I, oI) :: news') → J (i + 1) m' news' → St (i + 1) h') :
    codeAny (model prog w) A (.forLoop target (.ref I) body [] env) R s := by
  refine codeAny_forLoop
    (fun k s' => ∃ h' tk m' news' i, s' = { s with heap := h', toks := tk } ∧ St i h' ∧ Fr h₀ env.locals h' m' ∧ News h₀ env.locals h' news' ∧ TOk I news' ∧ J i m' news' ∧ i ≤ n ∧ k = n + 1 - i) ?_ (n + 1)
    ⟨s.heap, s.toks, m, news, 0, rfl, hst, F, N, hne, h0, Nat.zero_le _, rfl⟩ ht
  rintro k s' ⟨h', tk, m', news', i, rfl, hst', F', N', hnw', hJ, hi, rfl⟩
  have next : ∀ h₁ : Heap, (∀ b o, b ∉ [I] → h'.get? b = some o → h₁.get? b = some o) → Fr h₀ env.locals h₁ m' ∧ News h₀ env.locals h₁ news' := fun h₁ hk₁ =>
    ⟨⟨F'.ns.at' fun o e => hk₁ _ o (by simpa using hLI) e, fun b o e => hk₁ b o (fun hb => by rw [List.mem_singleton.mp hb, hI0] at e; cases e) (F'.keep b o e), F'.above⟩,
      fun p hp => ⟨hk₁ _ _ (by simpa using hnw'.all p hp) (N' p hp).1, (N' p hp).2⟩⟩
  by_cases hlt : i < n
  · refine W.item i _ _ _ hlt hst' fun v h₁ tk₁ hP hst₁ hk₁ => ?_
    obtain ⟨F₁, N₁⟩ := next h₁ hk₁
    obtain ⟨oI, hoI⟩ := hIo _ _ hst₁
    have N₁' : News h₀ env.locals h₁ ((I, oI) :: news') := fun p hp => by
      rcases List.mem_cons.mp hp with rfl | hp
      · exact ⟨hoI, hLI.symm, hI0⟩
      · exact N₁ p hp
    refine wpAny_mono (step i v m' news' h₁ tk₁ oI hlt hP hJ hnw' F₁ N₁') (fun _ s₂ h₂ => wpAny_mono h₂ (fun f s₃ h₃ => ?_) fun _ _ e => e.elim) fun _ _ e => e.elim
    have go : LEndB h₀ env.locals I oI (J (i + 1)) { s with heap := h₁, toks := tk₁ } s₃ → ∃ m_1, m_1 < n + 1 - i ∧ ∃ h'_1 tk_1 m'_1 news'_1 i_1, s₃ = { s with heap := h'_1, toks := tk_1 } ∧ St i_1 h'_1 ∧ Fr h₀ env.locals h'_1 m'_1 ∧ News h₀ env.locals h'_1 news'_1 ∧ TOk I news'_1 ∧ J i_1 m'_1 news'_1 ∧ i_1 ≤ n ∧ m_1 = n + 1 - i_1 := by
      rintro ⟨h₃', tk₃, m₂, news₂, rfl, F₃, N₃, ha₃, hJ₃⟩
      exact ⟨n + 1 - (i + 1), by omega, h₃', tk₃, m₂, news₂, i + 1, rfl, hfr2 _ _ _ _ _ _ hst₁ hoI F₃ N₃ hJ₃, F₃, fun p hp => N₃ p (.tail _ hp), ha₃, hJ₃, hlt, rfl⟩
    cases f with
    | ret v => exact h₃
    | brk => exact h₃
    | cont => exact go h₃
    | next => exact go h₃
  · have hin : i = n := by omega
    subst hin
    refine W.done _ _ _ hst' fun h₁ tk₁ hk₁ => wpAny_execs_nil ?_
    obtain ⟨F₁, N₁⟩ := next h₁ hk₁
    exact hR h₁ tk₁ m' news' F₁ N₁ hJ

theorem LoopGo.listB {l : Addr} {vs : List Value} {Q : Flow → Shared → Prop} {m : Str → Option Value} {news : List (Addr × Obj)} (J : Nat → (Str → Option Value) → List (Addr × Obj) → Prop)
    (hh : A.handled = none) (F : Fr h₀ env.locals s.heap m) (N : News h₀ env.locals s.heap news) (ht : ∀ I v, letOwnedTupleGo target (.ref I) v = pure ())
    (h0 : J 0 m news) (hJ : ∀ i m' news', J i m' news' → LCg.SrcAt h₀ l vs.toArray news')
    (step : ∀ i v m₁ news₁ I (sh : Shared) oI, vs[i]? = some v → J i m₁ news₁ → TOk I news₁ → Fr h₀ env.locals sh.heap m₁ → News h₀ env.locals sh.heap ((I, oI) :: news₁) →
      ∀ K : Flow → Shared → Prop, (∀ f s', LPostB h₀ env.locals I oI (J (i + 1)) sh Q f s' → K f s') → SameS s sh →
      wpAny (model prog w) A (assign target env v) (fun _ s₂ => wpAny (model prog w) A (execs body env) K (fun _ _ => False) s₂) (fun _ _ => False) sh)
    (done : ∀ h' tk m' news', Fr h₀ env.locals h' m' → News h₀ env.locals h' news' → J vs.length m' news' → Q .next { s with heap := h', toks := tk }) :
    LoopGo prog w A target body env Q (.ref l) s := by
  have hls : s.heap.IsList l vs.toArray := (hJ 0 m news h0).list F.keep N
  obtain ⟨ol, hol, _⟩ := id hls
  have hne : l ≠ s.heap.objs.size := Nat.ne_of_lt (Heap.lt_size hol)
  refine wpAny_pyIter_list hls ?_
  have up : ∀ b o, s.heap.get? b = some o → (s.heap.push { cls := .type "list_iterator", data := .fields #[.ref l, .int 0 0] }).get? b = some o := fun b o e => Heap.get?_push_of_some _ e
  have W := Walks.list (prog := prog) (w := w) hh s.heap.objs.size l hne vs.toArray
  have hsz : vs.toArray.size = vs.length := by simp
  rw [hsz] at W
  refine forB (s := { s with heap := _ }) W (fun i h st => by obtain ⟨o, e, _⟩ := st.1; exact ⟨o, e⟩) (Nat.ne_of_lt F.ns.lt) (next_is_new F) J
    (tok_of fun p hp => Heap.lt_size (N p hp).1) ⟨⟨_, Heap.get?_push_size _ rfl, rfl, rfl⟩, hls.push _⟩ (F.keeps up) (N.grown up) h0 (ht _)
    (fun i v m₁ news₁ h tk oI hi hP hj ha F₁ N₁ => step i v m₁ news₁ _ _ oI (by simpa using hP) hj ha F₁ N₁ _ (fun _ _ h => h) ⟨rfl, rfl, rfl⟩) done ?_
  intro i h h' oI m' news' st e F' N' hj
  exact ⟨by obtain ⟨o', q, r⟩ := st.1; rw [e] at q; cases q; exact ⟨oI, (N' _ (.head _)).1, r⟩, (hJ _ _ _ hj).list F'.keep fun p hp => N' p (.tail _ hp)⟩
theorem LoopGo.rangeB {r : Addr} {a b : Int} {t u v : Tok} {n : Nat} {Q : Flow → Shared → Prop} {m : Str → Option Value} {news : List (Addr × Obj)} (J : Nat → (Str → Option Value) → List (Addr × Obj) → Prop)
    (hh : A.handled = none) (hr : IsRange s.heap r a b 1 t u v) (hsm : Builtin.Range.small a b 1 = true) (hn : Builtin.Range.rangeSize a b 1 = ((n : Nat) : Int))
    (F : Fr h₀ env.locals s.heap m) (N : News h₀ env.locals s.heap news) (ht : ∀ I v, letOwnedTupleGo target (.ref I) v = pure ())
    (h0 : J 0 m news)
    (step : ∀ (i : Nat) k m₁ news₁ I (sh : Shared) oI, i < n → J i m₁ news₁ → TOk I news₁ → Fr h₀ env.locals sh.heap m₁ → News h₀ env.locals sh.heap ((I, oI) :: news₁) →
      ∀ K : Flow → Shared → Prop, (∀ f s', LPostB h₀ env.locals I oI (J (i + 1)) sh Q f s' → K f s') → SameS s sh →
      wpAny (model prog w) A (assign target env (.int (a + (i : Int)) k)) (fun _ s₂ => wpAny (model prog w) A (execs body env) K (fun _ _ => False) s₂) (fun _ _ => False) sh)
    (done : ∀ h' tk m' news', Fr h₀ env.locals h' m' → News h₀ env.locals h' news' → J n m' news' → Q .next { s with heap := h', toks := tk }) :
    LoopGo prog w A target body env Q (.ref r) s := by
  refine wpAny_pyIter_range hr hsm ?_
  have up : ∀ o b o', s.heap.get? b = some o' → (s.heap.push o).get? b = some o' := fun o b o' e => Heap.get?_push_of_some _ e
  refine forB (s := { s with heap := _ }) (LCg.range_walks hh a n) (fun i h st => ⟨_, st⟩) (Nat.ne_of_lt F.ns.lt) (next_is_new F) J
    (tok_of fun p hp => Heap.lt_size (N p hp).1) (by show IsRangeIter _ _ _ _ _; rw [hn]; simpa using Heap.get?_push_size _ rfl) (F.keeps (up _)) (N.grown (up _)) h0 (ht _)
    (fun i v m₁ news₁ h tk oI hi hP hj ha F₁ N₁ => by obtain ⟨k, rfl⟩ := hP; exact step i k m₁ news₁ _ _ oI hi hj ha F₁ N₁ _ (fun _ _ h => h) ⟨rfl, rfl, rfl⟩) done ?_
  intro i h h' oI m' news' st e F' N' hj
  have st' : h.get? _ = some _ := st
  show h'.get? _ = some _
  rw [(N' _ (.head _)).1, ← e]; exact st'
theorem LoopGo.rev {I l : Addr} {vs : List Value} {Q : Flow → Shared → Prop} {m : Str → Option Value} {news : List (Addr × Obj)} (J : Nat → (Str → Option Value) → List (Addr × Obj) → Prop)
    (hh : A.handled = none) (F : Fr h₀ env.locals s.heap m) (N : News h₀ env.locals s.heap ((I, revObj l ((vs.length : Int) - 1)) :: news)) (ha : AllLt I news) (ht : ∀ v, letOwnedTupleGo target (.ref I) v = pure ())
    (h0 : J 0 m news) (hJ : ∀ i m' news', J i m' news' → LCg.SrcAt h₀ l vs.toArray news') (hne : l ≠ I)
    (step : ∀ i v m₁ news₁ (sh : Shared) oI, vs.reverse[i]? = some v → J i m₁ news₁ → AllLt I news₁ → Fr h₀ env.locals sh.heap m₁ → News h₀ env.locals sh.heap ((I, oI) :: news₁) →
      ∀ K : Flow → Shared → Prop, (∀ f s', LPost h₀ env.locals I oI (J (i + 1)) sh Q f s' → K f s') → SameS s sh →
      wpAny (model prog w) A (assign target env v) (fun _ s₂ => wpAny (model prog w) A (execs body env) K (fun _ _ => False) s₂) (fun _ _ => False) sh)
    (done : ∀ h' tk m' news', Fr h₀ env.locals h' m' → News h₀ env.locals h' news' → J vs.length m' news' → Q .next { s with heap := h', toks := tk }) :
    LoopGo prog w A target body env Q (.ref I) s := by
  have N' : News h₀ env.locals s.heap news := fun p hp => N p (.tail _ hp)
  have hls : s.heap.IsList l vs.toArray := (hJ 0 m news h0).list F.keep N'
  have z := N (I, _) (.head _)
  have hit : s.heap.IsRevIter I l ((vs.length : Int) - 1) := ⟨_, z.1, rfl, rfl⟩
  refine wpAny_pyIter_revIter hit ?_
  have W := Walks.listRev (prog := prog) (w := w) hh I l hne vs.toArray
  have hsz : vs.toArray.size = vs.length := by simp
  rw [hsz] at W
  refine forA W (fun i h st => by obtain ⟨o, e, _⟩ := st.2.1; exact ⟨o, e⟩) (Ne.symm z.2.1) z.2.2 J
    ha ⟨Nat.zero_le _, by rw [show (vs.length : Int) - 1 - ((0 : Nat) : Int) = (vs.length : Int) - 1 by omega]; exact hit, hls⟩ F N' h0 ht
    (fun i v m₁ news₁ h tk oI hi hP hj ha F₁ N₁ => step i v m₁ news₁ _ oI (by rw [List.getElem?_reverse hi]; simpa using hP) hj ha F₁ N₁ _ (fun _ _ h => h) ⟨rfl, rfl, rfl⟩) done ?_
  intro i h h' oI m' news' st e F' N' hj
  exact ⟨st.1, by obtain ⟨o', q, r⟩ := st.2.1; rw [e] at q; cases q; exact ⟨oI, (N' _ (.head _)).1, r⟩, (hJ _ _ _ hj).list F'.keep fun p hp => N' p (.tail _ hp)⟩
end

end Mine
namespace Mine
local macro_rules | `(tactic| omega) => `(tactic| first | assumption | exact Nat.ne_of_lt (by assumption) | exact Nat.ne_of_gt (by assumption) | exact Nat.le_of_lt (by assumption) | lia | omega (config := {}))
theorem tab_fields {P : Addr} {q : Str} {l k : Nat} {o oc : Obj} {c : Addr} (h : TabW P q l k o c oc) : (∃ vs, o.data = .fields vs) ∧ ∃ vs, oc.data = .fields vs := by
  rcases h with ⟨rfl, rfl, rfl⟩ | ⟨rfl, vs, t, h1, h2⟩
  · exact ⟨⟨_, rfl⟩, _, rfl⟩
  · exact ⟨⟨_, rfl⟩, vs, h1⟩
theorem seq_off {h : Heap} {t : Tb} {a : Addr} {o : Obj} {its : Array Value} {n : Nat} (hl : ∀ p ∈ t.led, h.get? p.1 = some p.2) (ok : t.Ok) (e : h.get? a = some o) (hd : o.data = .seq its n) : a ∉ t.ads := fun q => by
  obtain ⟨⟨vs1, e1⟩, vs2, e2⟩ := tab_fields ok.1
  obtain ⟨⟨vs3, e3⟩, vs4, e4⟩ := tab_fields ok.2
  have key : ∀ o', h.get? a = some o' → ∀ vs, o'.data = .fields vs → False := fun o' e' vs hf => by rw [e] at e'; cases e'; rw [hd] at hf; cases hf
  simp only [List.mem_cons, List.not_mem_nil, or_false] at q
  rcases q with rfl | rfl | rfl | rfl
  · exact key _ (hl (37, t.o1) (.head _)) _ e1
  · exact key _ (hl (t.c1, t.oc1) (.tail _ (.head _))) _ e2
  · exact key _ (hl (44, t.o2) (.tail _ (.tail _ (.head _)))) _ e3
  · exact key _ (hl (t.c2, t.oc2) (.tail _ (.tail _ (.tail _ (.head _))))) _ e4
section
variable {w : World} {A : Around} {s : Shared} {Q : Value → Shared → Prop} {E : Value → Shared → Prop} {M : Model} {x : Sem Value} {h₀ : Heap} {L : Addr} {m : Str → Option Value} {t : Tb} {rest : List (Addr × Obj)}
theorem useLT {P : List Value → Prop} (S : wpAny M A x (OutT s t (NewLT s t P)) E s) (F : Fr h₀ L s.heap m) (N : News h₀ L s.heap (t.led ++ rest)) (O : Off t rest)
    (h : ∀ a vs n (h' : Heap) (tk : Nat) (t' : Tb), P vs → Fr h₀ L h' m → News h₀ L h' (t'.led ++ (a, lsO vs n) :: rest) → t'.Ok → Off t' ((a, lsO vs n) :: rest) → AllNe a rest → Q (.ref a) { s with heap := h', toks := tk }) :
    wpAny M A x Q E s := by
  refine useT4 S F N O fun v h' tk t' F' N' ok O' _ hp => ?_
  obtain ⟨a, vs, n, hP, rfl, hn, ho⟩ := hp
  have nt := new_tb F N O N' hn ho
  refine h a vs n h' tk t' hP F' (fun p hp => nt.1 p ?_) ok ⟨seq_off (h := h') (fun p hp => (N' p (List.mem_append_left _ hp)).1) ok ho rfl, O'⟩ nt.2
  rcases List.mem_append.mp hp with hp | hp
  · exact .tail _ (List.mem_append_left _ hp)
  · rcases List.mem_cons.mp hp with rfl | hp
    · exact .head _
    · exact .tail _ (List.mem_append_right _ hp)
theorem useTT {P : List Value → Prop} (S : wpAny M A x (OutT s t (NewTT s t P)) E s) (F : Fr h₀ L s.heap m) (N : News h₀ L s.heap (t.led ++ rest)) (O : Off t rest)
    (h : ∀ a vs n (h' : Heap) (tk : Nat) (t' : Tb), P vs → Fr h₀ L h' m → News h₀ L h' (t'.led ++ (a, tpO vs n) :: rest) → t'.Ok → Off t' ((a, tpO vs n) :: rest) → AllNe a rest → Q (.ref a) { s with heap := h', toks := tk }) :
    wpAny M A x Q E s := by
  refine useT4 S F N O fun v h' tk t' F' N' ok O' _ hp => ?_
  obtain ⟨a, vs, n, hP, rfl, hn, ho⟩ := hp
  have nt := new_tb F N O N' hn ho
  refine h a vs n h' tk t' hP F' (fun p hp => nt.1 p ?_) ok ⟨seq_off (h := h') (fun p hp => (N' p (List.mem_append_left _ hp)).1) ok ho rfl, O'⟩ nt.2
  rcases List.mem_append.mp hp with hp | hp
  · exact .tail _ (List.mem_append_left _ hp)
  · rcases List.mem_cons.mp hp with rfl | hp
    · exact .head _
    · exact .tail _ (List.mem_append_right _ hp)
theorem useNT {k : Nat} (S : wpAny M A x (OutT s t fun v _ => NumV k v) E s) (F : Fr h₀ L s.heap m) (N : News h₀ L s.heap (t.led ++ rest)) (O : Off t rest)
    (h : ∀ u (h' : Heap) (tk : Nat) (t' : Tb), Fr h₀ L h' m → News h₀ L h' (t'.led ++ rest) → t'.Ok → Off t' rest → Q (.int (k : Int) u) { s with heap := h', toks := tk }) :
    wpAny M A x Q E s := by
  refine useT4 S F N O fun v h' tk t' F' N' ok O' _ hp => ?_
  obtain ⟨u, rfl⟩ := hp
  exact h u h' tk t' F' N' ok O'
/-- the table entries stand where a call needs them -/
theorem tb_at (N : News h₀ L s.heap (t.led ++ rest)) (ok : t.Ok) : TbAt s.heap t := ⟨fun p hp => (N p (List.mem_append_left _ hp)).1, ok⟩
theorem wd_gh (W : Wd w h₀) (F : Fr h₀ L s.heap m) (N : News h₀ L s.heap (t.led ++ rest)) : Wd w (gh s.heap t) := W.keeps (gh_base F N)
end

end Mine
namespace Mine
local macro_rules | `(tactic| omega) => `(tactic| first | assumption | exact Nat.ne_of_lt (by assumption) | exact Nat.ne_of_gt (by assumption) | exact Nat.le_of_lt (by assumption) | lia | omega (config := {}))
local macro_rules | `(tactic| walk_at "call builtin:list.append") => `(tactic| (k_here; refine Here.out ?_))
local macro_rules | `(tactic| walk_at "call ref") => `(tactic| (k_here; refine Here.out ?_))
local macro_rules | `(tactic| walk_at "exec For Name Call cons nil") => `(tactic| (k_here; k_dflt (refine For_go ?_)))
local macro_rules | `(tactic| walk_at "call builtin:list.reverse") => `(tactic| (k_here; refine Here.out ?_))
local macro_rules | `(tactic| walk_at "binaryOp LShift int int") => `(tactic| (k_here; refine Here.out ?_))
def digN (n x k : Nat) : List Nat := (List.range k).map fun i => x / 2 ^ (n * i) % 2 ^ n
theorem digs_eq (n x k : Nat) : digs n x k = (digN n x k).map fun d : Nat => (d : Int) := by unfold digs digN; rw [List.map_map]; rfl
theorem digN_len (n x k : Nat) : (digN n x k).length = k := by simp [digN]
theorem digN_lt {n x k d : Nat} (h : d ∈ digN n x k) : d < 2 ^ n := by
  obtain ⟨i, _, rfl⟩ := List.mem_map.mp h
  exact Nat.mod_lt _ (Nat.two_pow_pos _)
theorem LR.unmap {as : List Nat} {vs : List Value} (h : LR IntV (as.map fun d : Nat => (d : Int)) vs) : LR NumV as vs := by
  induction as generalizing vs with
  | nil => cases h; exact .nil
  | cons a as ih =>
    cases h with
    | cons r h => exact .cons r (ih h)
theorem LR.rev {α : Type} {R : α → Value → Prop} {as : List α} {vs : List Value} (h : LR R as vs) : LR R as.reverse vs.reverse := by
  induction h with
  | nil => exact .nil
  | cons r _ ih => rw [List.reverse_cons, List.reverse_cons]; exact ih.snoc r
/-- one step of the long division -/
def dvStep (n b : Nat) (st : List Nat × Nat) (d : Nat) : List Nat × Nat := (st.1 ++ [(st.2 * 2 ^ n + d) / b], (st.2 * 2 ^ n + d) % b)
def dvSt (n b : Nat) (l : List Nat) : List Nat × Nat := l.foldl (dvStep n b) ([], 0)
theorem dvSt_snoc (n b : Nat) (l : List Nat) (d : Nat) : dvSt n b (l ++ [d]) = dvStep n b (dvSt n b l) d := by unfold dvSt; rw [List.foldl_append]; rfl
theorem dvSt_len (n b : Nat) (l : List Nat) : (dvSt n b l).1.length = l.length := by
  have key : ∀ (l : List Nat) (st : List Nat × Nat), (l.foldl (dvStep n b) st).1.length = st.1.length + l.length := by
    intro l
    induction l with
    | nil => intro st; rfl
    | cons d l ih => intro st; rw [List.foldl_cons, ih]; simp [dvStep]; omega
  rw [dvSt, key]; simp
theorem dvSt_lt {n b : Nat} (hb : 0 < b) (l : List Nat) : (dvSt n b l).2 < b := by
  rcases List.eq_nil_or_concat l with rfl | ⟨l', d, rfl⟩
  · exact hb
  · rw [List.concat_eq_append, dvSt_snoc]; exact Nat.mod_lt _ hb
theorem dvSt_dig {n b : Nat} (hb : 0 < b) (hbn : b ≤ 2 ^ n) (l : List Nat) (h : ∀ d ∈ l, d < 2 ^ n) : ∀ q ∈ (dvSt n b l).1, q < 2 ^ n := by
  have key : ∀ (k : Nat) (l : List Nat), l.length = k → (∀ d ∈ l, d < 2 ^ n) → ∀ q ∈ (dvSt n b l).1, q < 2 ^ n := by
    intro k
    induction k with
    | zero => intro l hl _ q hq; rw [List.eq_nil_of_length_eq_zero hl] at hq; cases hq
    | succ k ih =>
      intro l hl hd q hq
      rcases List.eq_nil_or_concat l with rfl | ⟨l', d, rfl⟩
      · cases hq
      · rw [List.concat_eq_append] at hl hd hq
        rw [dvSt_snoc] at hq
        rcases List.mem_append.mp hq with hq | hq
        · exact ih l' (by simpa using hl) (fun d hd' => hd d (List.mem_append_left _ hd')) q hq
        · rw [List.mem_singleton.mp hq]
          have h1 := dvSt_lt (n := n) hb l'
          have h2 := hd d (List.mem_append_right _ (.head _))
          rw [Nat.div_lt_iff_lt_mul hb]
          have h3 : ((dvSt n b l').2 + 1) * 2 ^ n ≤ b * 2 ^ n := Nat.mul_le_mul_right _ h1
          rw [Nat.add_mul, Nat.one_mul] at h3
          rw [Nat.mul_comm (2 ^ n) b]
          omega
  exact key _ l rfl h
theorem dvSt_val (n b : Nat) (l : List Nat) : dval n l.reverse = b * dval n (dvSt n b l).1.reverse + (dvSt n b l).2 := by
  have key : ∀ (k : Nat) (l : List Nat), l.length = k → dval n l.reverse = b * dval n (dvSt n b l).1.reverse + (dvSt n b l).2 := by
    intro k
    induction k with
    | zero => intro l hl; rw [List.eq_nil_of_length_eq_zero hl]; rfl
    | succ k ih =>
      intro l hl
      rcases List.eq_nil_or_concat l with rfl | ⟨l', d, rfl⟩
      · cases hl
      · rw [List.concat_eq_append] at hl ⊢
        have h1 := ih l' (by simpa using hl)
        rw [dvSt_snoc]
        show dval n (l' ++ [d]).reverse = b * dval n ((dvSt n b l').1 ++ [((dvSt n b l').2 * 2 ^ n + d) / b]).reverse + ((dvSt n b l').2 * 2 ^ n + d) % b
        rw [List.reverse_append, List.reverse_append]
        show d + 2 ^ n * dval n l'.reverse = b * (((dvSt n b l').2 * 2 ^ n + d) / b + 2 ^ n * dval n (dvSt n b l').1.reverse) + ((dvSt n b l').2 * 2 ^ n + d) % b
        rw [h1]
        have h2 := Nat.div_add_mod ((dvSt n b l').2 * 2 ^ n + d) b
        generalize (dvSt n b l').2 = r at *
        generalize dval n (dvSt n b l').1.reverse = q at *
        rw [Nat.mul_add b, Nat.mul_add (2 ^ n), Nat.mul_comm (2 ^ n) r, ← Nat.mul_assoc (2 ^ n) b q, Nat.mul_comm (2 ^ n) b, Nat.mul_assoc b]
        omega
  exact key _ l rfl
theorem dval_digN (n : Nat) : ∀ (k a : Nat), dval n (digN n a k) = a % 2 ^ (n * k) := by
  intro k
  induction k with
  | zero => intro a; simp [digN, dval, Nat.mod_one]
  | succ k ih =>
    intro a
    have e : digN n a (k + 1) = a % 2 ^ n :: digN n (a / 2 ^ n) k := by
      unfold digN
      rw [List.range_succ_eq_map, List.map_cons, List.map_map, Nat.mul_zero, Nat.pow_zero, Nat.div_one]
      congr 1
      apply List.map_congr_left
      intro i _
      show a / 2 ^ (n * (i + 1)) % 2 ^ n = a / 2 ^ n / 2 ^ (n * i) % 2 ^ n
      rw [Nat.div_div_eq_div_mul, ← Nat.pow_add, Nat.mul_succ, Nat.add_comm n]
    rw [e]
    show a % 2 ^ n + 2 ^ n * dval n (digN n (a / 2 ^ n) k) = _
    rw [ih, Nat.mul_succ, Nat.add_comm (n * k), Nat.pow_add, Nat.mod_mul]
theorem dv_done {n b a c : Nat} (hb : 0 < b) (ha : a < 2 ^ (n * c)) : dval n (dvSt n b (digN n a c).reverse).1.reverse = a / b ∧ (dvSt n b (digN n a c).reverse).2 = a % b := by
  have h1 := dvSt_val n b (digN n a c).reverse
  rw [List.reverse_reverse, dval_digN, Nat.mod_eq_of_lt ha] at h1
  have h2 := dvSt_lt (n := n) hb (digN n a c).reverse
  generalize (dvSt n b (digN n a c).reverse).2 = r at *
  generalize dval n (dvSt n b (digN n a c).reverse).1.reverse = q at *
  subst h1
  rw [Nat.add_comm]
  exact ⟨by rw [Nat.add_mul_div_left _ _ hb, Nat.div_eq_of_lt h2, Nat.zero_add], by rw [Nat.add_mul_mod_self_left, Nat.mod_eq_of_lt h2]⟩
theorem isl_gh {h : Heap} {t : Tb} {a : Addr} {vs : List Value} {n : Nat} (e : h.get? a = some (lsO vs n)) (hO : a ∉ t.ads) : (gh h t).IsList a vs.toArray := ⟨_, gh_get e hO, rfl, n, rfl⟩
theorem news_nil {g h : Heap} {L : Addr} {l : List (Addr × Obj)} (N : News g L h l) : News g L h (l ++ []) := by rw [List.append_nil]; exact N
theorem LR.pair {x y : Nat} {vs : List Value} (h : LR NumV [x, y] vs) : ∃ t u, vs = [.int (x : Int) t, .int (y : Int) u] := by
  cases h with
  | cons r1 h2 =>
  obtain ⟨tq, rfl⟩ := r1
  cases h2 with
  | cons r2 h3 =>
  obtain ⟨tr, rfl⟩ := r2
  cases h3
  exact ⟨_, _, rfl⟩
inductive DJ (b n : Nat) (tb : Tok) (Dd : Addr) (dv : List Value) (dn : Nat) (t2 : Tb) (st : List Nat × Nat) (m' : Str → Option Value) : List (Addr × Obj) → Prop
  | mk (u2 u3 : Tok) (lq : Addr) (qv : List Value) (qn : Nat) (e1 : m' (Str.ofString "b") = some (.int (b : Int) tb)) (e2 : m' (Str.ofString "n") = some (.int (n : Int) u2)) (e3 : m' (Str.ofString "r") = some (.int (st.2 : Nat) u3)) (e4 : m' (Str.ofString "q_digits") = some (.ref lq))
    (b1 : @LT.lt Nat _ 37 lq) (b2 : @LT.lt Nat _ t2.c1 lq) (b3 : @LT.lt Nat _ 44 lq) (b4 : @LT.lt Nat _ t2.c2 lq) (b5 : @LT.lt Nat _ Dd lq) (hqv : LR NumV st.1 qv) :
    DJ b n tb Dd dv dn t2 st m' [(lq, lsO qv qn), (37, t2.o1), (t2.c1, t2.oc1), (44, t2.o2), (t2.c2, t2.oc2), (Dd, lsO dv dn)]
theorem dmp_spec {w : World} {A : Around} {s : Shared} {E : Value → Shared → Prop} {t : Tb} {a b : Nat} {ta tb : Tok} (R : Rm A 25) (W : Wd w (gh s.heap t)) (TT : TbAt s.heap t) (ha : a < 2 ^ 300) (hb : 0 < b ∧ b < 2 ^ 34) (hk : a < 2 ^ (Builtin.Int.intBits (b : Int) * 10)) :
  wpAny (model PySem.Challenge.rw_ti0023_01.row.prog w) A (call (.ref 56) [.int a ta, .int b tb]) (OutT s t (NewTT s t fun vs => LR NumV [a / b, a % b] vs)) E s := by
  revert W; obtain ⟨hnd, dp, fr, gd, un⟩ := A; obtain ⟨rfl, hdp, hun⟩ := R; dsimp only at hdp hun
  intro W; have X := W.X; revert X; k_fill; intro X; obtain ⟨p, loose, mean, mg, mb, T⟩ := W.T
  refine enterTP (binds := [(Str.ofString "a", .int a ta), (Str.ofString "b", .int b tb)]) TT (X.keeps fun b o e => gh_of e) (T.keeps fun b o e => gh_of e) (by k_is) (by k_is) (by show dp < 1000; omega) (BindsTo.of_eq rfl) (locs rfl) rfl rfl rfl (by decide) ?_
  intro L' h' tk' F' N' lt'
  (try dsimp only [List.reverse_cons, List.reverse_nil, List.nil_append, List.cons_append] at F')
  have q1 : @LT.lt Nat _ 37 L' := lt' (37, t.o1) (.head _)
  have q2 : @LT.lt Nat _ t.c1 L' := lt' (t.c1, t.oc1) (.tail _ (.head _))
  have q3 : @LT.lt Nat _ 44 L' := lt' (44, t.o2) (.tail _ (.tail _ (.head _)))
  have q4 : @LT.lt Nat _ t.c2 L' := lt' (t.c2, t.oc2) (.tail _ (.tail _ (.tail _ (.head _))))
  clear lt'
  refine wpK ?_
  intro K0 hK0
  k_steps
  refine Here.in ?_
  (rename News _ _ _ _ => N1); (rename Fr _ _ _ _ => F1)
  have hnb : 1 ≤ Builtin.Int.intBits (b : Int) ∧ Builtin.Int.intBits (b : Int) ≤ 34 := by
    refine ⟨?_, bits_le hb.2⟩
    rcases Nat.eq_zero_or_pos (Builtin.Int.intBits (b : Int)) with h0 | h0
    · have := lt_bits b
      rw [h0] at this; omega
    · exact h0
  generalize hn : Builtin.Int.intBits (b : Int) = n at *
  have N1' := news_nil N1
  refine useLT (i2d_spec (rmK hdp hun (by decide)) (wd_gh W F1 N1') (tb_at N1' TT.2) ha ⟨hnb.1, by omega⟩ hk) F1 N1' trivial ?_
  intro Dd dv dn h2 tk2 t2 hdv F2 N2 ok2 O2 _
  clear N1 N1' F1
  rw [digs_eq] at hdv
  have hdv := hdv.unmap
  have hc := dcnt_le (n := n) (a := a) (k := 10) hnb.1 (by rw [Nat.mul_comm] at hk; rw [Nat.mul_comm]; exact hk)
  simp only [Tb.led, List.cons_append, List.nil_append] at N2
  k_steps
  (rename News _ _ _ _ => N3); (rename Fr _ _ _ _ => F3)
  have hbl : (digN n a (dcnt n a)).length ≤ 10 := by rw [digN_len]; exact hc
  have hdl := hdv.length
  have hdr := hdv.rev
  have hdlt : ∀ d ∈ (digN n a (dcnt n a)).reverse, d < 2 ^ n := fun d hd => digN_lt (List.mem_reverse.mp hd)
  refine LoopGo.rev (l := Dd) (vs := dv) (news := [(_, lsO [] 0), (37, t2.o1), (t2.c1, t2.oc1), (44, t2.o2), (t2.c2, t2.oc2), (Dd, lsO dv dn)]) (fun i => DJ b n tb Dd dv dn t2 (dvSt n b ((digN n a (dcnt n a)).reverse.take i))) rfl F3 N3 ⟨by omega, by omega, by omega, by omega, by omega, by omega, trivial⟩ (fun _ => rfl) (.mk _ _ _ [] 0 rfl rfl rfl rfl (by omega) (by omega) (by omega) (by omega) (by omega) .nil) (fun i m' n' hJ => .inr ⟨_, by cases hJ; exact .tail _ (.tail _ (.tail _ (.tail _ (.tail _ (.head _))))), rfl, _, rfl⟩) (fun e => by have e' : @Eq Nat _ _ := e; omega) ?_ ?_
  · intro i v m₁ news₁ sh oI hv hJ hne F4 N4 K hK eS
    obtain ⟨u2, u3, lq, qv, qn, e1, e2, e3, e4, b1, b2, b3, b4, b5, hqv⟩ := hJ
    have c1 : @LT.lt Nat _ lq _ := hne.1
    have F5 := know4 F4 e1 e2 e3 e4
    clear F4 F3 N3
    obtain ⟨d, hd, td, rfl⟩ := hdr.get i v hv
    have hst : dvSt n b ((digN n a (dcnt n a)).reverse.take (i + 1)) = dvStep n b (dvSt n b ((digN n a (dcnt n a)).reverse.take i)) d := by rw [List.take_add_one, hd]; exact dvSt_snoc _ _ _ _
    have hr := dvSt_lt (n := n) hb.1 ((digN n a (dcnt n a)).reverse.take i)
    have hdl := hdlt d (List.mem_of_getElem? hd)
    have hql : qv.length ≤ 10 := by rw [hqv.length, dvSt_len, List.length_take, List.length_reverse]; omega
    generalize dvSt n b ((digN n a (dcnt n a)).reverse.take i) = st at *
    k_steps
    refine Here.in ?_
    have hpn : 2 ^ n ≤ 2 ^ 34 := Nat.pow_le_pow_right (by decide) hnb.2
    have hM : st.2 * 2 ^ n ≤ 2 ^ 34 * 2 ^ 34 := Nat.mul_le_mul (by omega) hpn
    refine lshX (Nat.lt_trans (Nat.lt_trans hr hb.2) (Nat.pow_lt_pow_right (by decide) (by decide))) (by omega) ?_
    intro t6 k6
    have hstep : dvStep n b st d = (st.1 ++ [(st.2 * 2 ^ n + d) / b], (st.2 * 2 ^ n + d) % b) := rfl
    generalize st.2 * 2 ^ n = M at hM hstep ⊢
    k_steps
    refine Here.in ?_
    (rename News _ _ _ _ => N6); (rename Fr _ _ _ _ => F6)
    refine useT (div2_spec (rmK hdp hun (by decide)) (W.keeps F6.keep) (by omega) (by omega) (by omega)) F6 N6 ?_
    intro tp tv tn2 h7 tk7 htv F7 N7 ane
    clear F6 N6
    have htv2 : LR NumV [(M + d) / b, (M + d) % b] tv := by
      rw [show ((M : Int) + (d : Int)) / (b : Int) = (((M + d) / b : Nat) : Int) by norm_cast, show ((M : Int) + (d : Int)) % (b : Int) = (((M + d) % b : Nat) : Int) by norm_cast] at htv
      exact LR.unmap (as := [(M + d) / b, (M + d) % b]) htv
    obtain ⟨tq, tr, rfl⟩ := LR.pair htv2
    clear htv
    have a2 : @Ne Nat lq tp := ane.2.1
    k_steps
    refine Here.in ?_
    (rename News _ _ _ _ => N7a); (rename Fr _ _ _ _ => F7a)
    refine append_K (hsz := by rw [List.size_toArray, sizeLine_eq]; exact Nat.le_trans hql (by decide)) F7a N7a (.tail (Ne.symm a2) (.tail (Nat.ne_of_gt c1) (.head (neC (Nat.ne_of_lt b1) (neC (Nat.ne_of_lt b2) (neC (Nat.ne_of_lt b3) (neC (Nat.ne_of_lt b4) (neC (Nat.ne_of_lt b5) neE)))))))) ?_
    intro h8 F8 N8
    clear F7a N7a
    k_steps
    (rename News _ _ _ _ => N8); (rename Fr _ _ _ _ => F8)
    rw [List.push_toArray] at N8
    (refine hK _ _ ?_); exact LPost.end F8 N8 [(lq, lsO (qv ++ [.int (((M + d) / b : Nat) : Int) tq]) (qn + 1)), (37, t2.o1), (t2.c1, t2.oc1), (44, t2.o2), (t2.c2, t2.oc2), (Dd, lsO dv dn)] (by exact fun p hp => sub [1, 2, 3, 4, 5, 6, 7] p hp) (hne.same rfl) (.mk _ _ lq _ _ rfl rfl (by rw [hst, hstep]; rfl) rfl b1 b2 b3 b4 b5 (by rw [hst, hstep]; exact hqv.snoc ⟨tq, rfl⟩))
  · intro h7 tk7 m' n' F4 N4 hJ
    obtain ⟨u2, u3, lq, qv, qn, e1, e2, e3, e4, b1, b2, b3, b4, b5, hqv⟩ := hJ
    have F5 := know4 F4 e1 e2 e3 e4
    clear F4 F3 N3
    rw [hdl, ← List.length_reverse, List.take_length] at hqv
    have hql : qv.length ≤ 10 := by rw [hqv.length, dvSt_len, List.length_reverse]; omega
    have hac : a < 2 ^ (n * dcnt n a) := lt_dcnt hnb.1
    obtain ⟨hd1, hd2⟩ := dv_done (n := n) hb.1 hac
    have hdig := dvSt_dig (n := n) hb.1 (by have := lt_bits b; rw [hn] at this; omega) _ hdlt
    rw [hdl, ← List.length_reverse, List.take_length, hd2] at F5
    k_steps
    refine Here.in ?_
    (rename News _ _ _ _ => N6); (rename Fr _ _ _ _ => F6)
    refine kl_reverse (its := qv.toArray) (l := qv.reverse) F6 N6 (by simp) (.head ?_) (by simp; rw [sizeLine_eq]; omega) ?_
    · intro p hp
      simp only [List.mem_cons, List.not_mem_nil, or_false] at hp
      rcases hp with rfl | rfl | rfl | rfl | rfl <;> exact fun e => by have e' : @Eq Nat _ lq := e; omega
    intro h8 F7 N7
    clear F6 N6
    k_steps
    refine Here.in ?_
    (rename News _ _ _ _ => N6); (rename Fr _ _ _ _ => F6)
    have N9 : News (gh s.heap t) L' _ (t2.led ++ [(lq, lsO qv.reverse qn), (Dd, lsO dv dn)]) := fun p hp => N6 p (sub [1, 2, 3, 4, 0, 5] p hp)
    have hOf : lq ∉ t2.ads := by
      simp only [Tb.ads, List.mem_cons, List.not_mem_nil, or_false]
      rintro (e | e | e | e) <;> (have e' : @Eq Nat lq _ := e; omega)
    have hLq := isl_gh (N9 (lq, lsO qv.reverse qn) (.tail _ (.tail _ (.tail _ (.tail _ (.head _)))))).1 hOf
    refine useNT (d2i_spec (rmK hdp hun (by decide)) (wd_gh W F6 N9) (tb_at N9 ok2) ⟨hnb.1, by omega⟩ hLq hqv.rev (fun d hd => hdig d (List.mem_reverse.mp hd)) (by rw [List.length_reverse, ← hqv.length]; exact hql)) F6 N9 ⟨hOf, O2⟩ ?_
    rw [hd1]
    intro u9 h9 tk9 t9 F9 N10 ok9 O9
    clear F6 N6 N9
    simp only [Tb.led, List.cons_append, List.nil_append] at N10
    k_steps
    (rename News _ _ _ _ => N11); (rename Fr _ _ _ _ => F11)
    (refine hK0 _ _ ?_); exact endOT (t' := t9) F11 N11 (by exact fun p hp => sub [1, 2, 3, 4] p hp) ok9 ⟨_, [.int ((a / b : Nat) : Int) u9, .int ((a % b : Nat) : Int) u3], 0, .cons ⟨_, rfl⟩ (.cons ⟨_, rfl⟩ .nil), rfl, N11.fresh (.head _), N11.get (.head _)⟩
theorem idm_spec {w : World} {A : Around} {s : Shared} {E : Value → Shared → Prop} {t : Tb} {a b : Nat} {ta tb : Tok} (R : Rm A 26) (W : Wd w (gh s.heap t)) (TT : TbAt s.heap t) (ha : a < 2 ^ 300) (hb : 0 < b ∧ b < 2 ^ 34) (hk : a < 2 ^ (Builtin.Int.intBits (b : Int) * 10)) :
  wpAny (model PySem.Challenge.rw_ti0023_01.row.prog w) A (call (.ref 63) [.int a ta, .int b tb]) (OutT s t (NewTT s t fun vs => LR NumV [a / b, a % b] vs)) E s := by
  revert W; obtain ⟨hnd, dp, fr, gd, un⟩ := A; obtain ⟨rfl, hdp, hun⟩ := R; dsimp only at hdp hun
  intro W; have X := W.X; revert X; k_fill; intro X; obtain ⟨p, loose, mean, mg, mb, T⟩ := W.T
  refine enterTP (binds := [(Str.ofString "a", .int a ta), (Str.ofString "b", .int b tb)]) TT (X.keeps fun b o e => gh_of e) (T.keeps fun b o e => gh_of e) (by k_is) (by k_is) (by show dp < 1000; omega) (BindsTo.of_eq rfl) (locs rfl) rfl rfl rfl (by decide) ?_
  intro L' h' tk' F' N' lt'
  (try dsimp only [List.reverse_cons, List.reverse_nil, List.nil_append, List.cons_append] at F')
  have hb0 : ¬ ((b : Int) = 0) := by omega
  have hb1 : ¬ ((b : Int) < 0) := by omega
  have ha1 : ¬ ((a : Int) < 0) := by omega
  k_steps
  all_goals (try (exfalso; omega))
  refine Here.in ?_
  (rename News _ _ _ _ => N1); (rename Fr _ _ _ _ => F1)
  have N1' := news_nil N1
  refine useTT (dmp_spec (rmK hdp hun (by decide)) (wd_gh W F1 N1') (tb_at N1' TT.2) ha hb hk) F1 N1' trivial ?_
  intro D dv dn h2 tk2 t2 hdv F2 N2 ok2 O2 _
  clear N1 N1' F1
  k_steps
  exact endOT (t' := t2) F2 N2 (fun p hp => List.mem_append_left _ hp) ok2 ⟨_, dv, dn, hdv, rfl, N2.fresh (List.mem_append_right _ (.head _)), N2.get (List.mem_append_right _ (.head _))⟩

end Mine
namespace Mine
local macro_rules | `(tactic| omega) => `(tactic| first | assumption | exact Nat.ne_of_lt (by assumption) | exact Nat.ne_of_gt (by assumption) | exact Nat.le_of_lt (by assumption) | lia | omega (config := {}))
section
variable {prog : Program} {w : World} {A : Around} {s : Shared} {env : Env} {h₀ : Heap} {target : Expr} {body : List Stmt}
/-- a turn's end in a loop whose breaks all meet behind it -/
def LPostC (h₀ : Heap) (L : Addr) (I : Addr) (oI : Obj) (J Jf : (Str → Option Value) → List (Addr × Obj) → Prop) (s₁ : Shared) (Q : Flow → Shared → Prop) (f : Flow) (s₂ : Shared) : Prop :=
  match f with
  | .ret v => Q (.ret v) s₂
  | .brk => ∃ h' tk m' news', s₂ = { s₁ with heap := h', toks := tk } ∧ Fr h₀ L h' m' ∧ News h₀ L h' news' ∧ Jf m' news'
  | _ => LEndB h₀ L I oI J s₁ s₂
theorem LPostC.end {h₀ : Heap} {L I : Addr} {oI : Obj} {J Jf : (Str → Option Value) → List (Addr × Obj) → Prop} {s₁ : Shared} {Q : Flow → Shared → Prop} {h' : Heap} {tk : Nat} {m' : Str → Option Value} {all : List (Addr × Obj)}
    (F : Fr h₀ L h' m') (N : News h₀ L h' all) (news' : List (Addr × Obj)) (sub : ∀ p ∈ (I, oI) :: news', p ∈ all) (hne : TOk I news') (hJ : J m' news') : LPostC h₀ L I oI J Jf s₁ Q .next { s₁ with heap := h', toks := tk } :=
  ⟨h', tk, m', news', rfl, F, fun p hp => N p (sub p hp), hne, hJ⟩
theorem LPostC.brk {h₀ : Heap} {L I : Addr} {oI : Obj} {J Jf : (Str → Option Value) → List (Addr × Obj) → Prop} {s₁ : Shared} {Q : Flow → Shared → Prop} {h' : Heap} {tk : Nat} {m' : Str → Option Value} {all : List (Addr × Obj)}
    (F : Fr h₀ L h' m') (N : News h₀ L h' all) (news' : List (Addr × Obj)) (sub : ∀ p ∈ news', p ∈ all) (hJ : Jf m' news') : LPostC h₀ L I oI J Jf s₁ Q .brk { s₁ with heap := h', toks := tk } :=
  ⟨h', tk, m', news', rfl, F, fun p hp => N p (sub p hp), hJ⟩
theorem LoopGo.rangeC {r : Addr} {a b : Int} {t u v : Tok} {n : Nat} {Q : Flow → Shared → Prop} {m : Str → Option Value} {news : List (Addr × Obj)} (J : Nat → (Str → Option Value) → List (Addr × Obj) → Prop) (Jf : (Str → Option Value) → List (Addr × Obj) → Prop)
    (hh : A.handled = none) (hr : IsRange s.heap r a b 1 t u v) (hsm : Builtin.Range.small a b 1 = true) (hn : Builtin.Range.rangeSize a b 1 = ((n : Nat) : Int))
    (F : Fr h₀ env.locals s.heap m) (N : News h₀ env.locals s.heap news) (ht : ∀ I v, letOwnedTupleGo target (.ref I) v = pure ())
    (h0 : J 0 m news)
    (fin : ∀ h' tk m' news', Fr h₀ env.locals h' m' → News h₀ env.locals h' news' → Jf m' news' → Q .next { s with heap := h', toks := tk })
    (last : ∀ m' news', J n m' news' → Jf m' news')
    (step : ∀ (i : Nat) k m₁ news₁ I (sh : Shared) oI, i < n → J i m₁ news₁ → TOk I news₁ → Fr h₀ env.locals sh.heap m₁ → News h₀ env.locals sh.heap ((I, oI) :: news₁) →
      ∀ K : Flow → Shared → Prop, (∀ f s', LPostC h₀ env.locals I oI (J (i + 1)) Jf sh Q f s' → K f s') → SameS s sh →
      wpAny (model prog w) A (assign target env (.int (a + (i : Int)) k)) (fun _ s₂ => wpAny (model prog w) A (execs body env) K (fun _ _ => False) s₂) (fun _ _ => False) sh) :
    LoopGo prog w A target body env Q (.ref r) s := by
  refine LoopGo.rangeB J hh hr hsm hn F N ht h0 (fun i k m₁ news₁ I sh oI hi hj hne F₁ N₁ K hK eS => ?_) fun h' tk m' news' F' N' hj => fin h' tk m' news' F' N' (last _ _ hj)
  refine wpAny_mono (step i k m₁ news₁ I sh oI hi hj hne F₁ N₁ _ (fun _ _ h => h) eS) (fun _ s₂ h₂ => wpAny_mono h₂ (fun f s₃ h₃ => ?_) fun _ _ e => e) fun _ _ e => e
  refine hK _ _ ?_
  cases f with
  | ret v => exact h₃
  | brk =>
    obtain ⟨h', tk', m', news', rfl, F', N', hf⟩ := h₃
    have := fin h' tk' m' news' F' N' hf
    rw [← eS.eq] at this
    exact this
  | next => exact h₃
  | cont => exact h₃
end
/-- what lies atop and is less is put down, so far as there are turns -/
def pops : Nat → List Nat → List Nat → Nat → List Nat × List Nat
  | 0, stk, out, _ => (stk, out)
  | _ + 1, [], out, _ => ([], out)
  | k + 1, t :: stk, out, one => if t < one then pops k stk (out ++ [t]) one else (t :: stk, out)
def passStep (n : Nat) (st : List Nat × List Nat) (one : Nat) : List Nat × List Nat := (one :: (pops n st.1 st.2 one).1, (pops n st.1 st.2 one).2)
def passSt (n : Nat) (l : List Nat) : List Nat × List Nat := l.foldl (passStep n) ([], [])
theorem passSt_snoc (n : Nat) (l : List Nat) (d : Nat) : passSt n (l ++ [d]) = passStep n (passSt n l) d := by unfold passSt; rw [List.foldl_append]; rfl
structure PassOk (n : Nat) (r : List Nat) : Prop where
  len : r.length = n
  n7 : n ≤ 6
  ranks : ∀ d ∈ r, 1 ≤ d ∧ d ≤ 7
  stk : ∀ i, i ≤ n + 1 → (passSt n ((r ++ [n + 1]).take i)).1.length ≤ 8 ∧ (∀ d ∈ (passSt n ((r ++ [n + 1]).take i)).1, 1 ≤ d ∧ d ≤ 7) ∧ (passSt n ((r ++ [n + 1]).take i)).2.length ≤ 8
  chk : ∀ i, i ≤ n → (passSt n ((r ++ [n + 1]).take i)).1.Pairwise (· ≤ ·) ∧ (passSt n ((r ++ [n + 1]).take i)).1.Perm (((r ++ [n + 1]).take i).filter fun k => !((passSt n ((r ++ [n + 1]).take i)).2.any (· == k)))
  last : (passSt n (r ++ [n + 1])).1 = [n + 1]

end Mine
namespace Mine
local macro_rules | `(tactic| omega) => `(tactic| first | assumption | exact Nat.ne_of_lt (by assumption) | exact Nat.ne_of_gt (by assumption) | exact Nat.le_of_lt (by assumption) | lia | omega (config := {}))
local macro_rules | `(tactic| walk_at "call ref") => `(tactic| (k_here; refine Here.out ?_))
local macro_rules | `(tactic| walk_at "eval ListComp") => `(tactic| (k_here; refine Here.out ?_))
local macro_rules | `(tactic| walk_at "CompSrcT") => `(tactic| (k_here; refine Here.out ?_))
local macro_rules | `(tactic| walk_at "exec For Name Call cons nil") => `(tactic| (k_here; k_dflt (refine For_go ?_)))
local macro_rules | `(tactic| walk_at "call builtin:len") => `(tactic| (k_here; refine Here.out ?_))
local macro_rules | `(tactic| walk_at "call builtin:sorted") => `(tactic| (k_here; refine Here.out ?_))
local macro_rules | `(tactic| walk_at "compareOp NotEq ref ref") => `(tactic| (k_here; refine Here.out ?_))
local macro_rules | `(tactic| walk_at "compareOp Eq ref ref") => `(tactic| (k_here; refine Here.out ?_))
local macro_rules | `(tactic| walk_at "call type:range") => `(tactic| (k_here; k_dflt (refine range1_rows (by assumption) (by assumption) ?_); refine Here.out ?_))
local macro_rules | `(tactic| walk_at "call builtin:list.append") => `(tactic| (k_here; refine Here.out ?_))
local macro_rules | `(tactic| walk_at "eval IfExp") => `(tactic| (k_here; with_reducible refine IfExp_ ?_))
theorem dval_lt8 {w : Nat} {l : List Nat} (h3 : 3 ≤ w) (h : ∀ d ∈ l, 1 ≤ d ∧ d ≤ 7) (hl : l.length ≤ 8) (hw : w ≤ 32) : dval w l < 2 ^ 256 ∧ dval w l < 2 ^ (w * 10) := by
  have hp : 2 ^ 3 ≤ 2 ^ w := Nat.pow_le_pow_right (by decide) h3
  have h1 := dval_lt (n := w) (l := l) fun d hd => by have := (h d hd).2; omega
  have h2 : w * l.length ≤ 32 * 8 := Nat.mul_le_mul hw hl
  have h4 : w * l.length ≤ w * 10 := Nat.mul_le_mul_left _ (by omega)
  exact ⟨Nat.lt_of_lt_of_le h1 (Nat.pow_le_pow_right (by decide) h2), Nat.lt_of_lt_of_le h1 (Nat.pow_le_pow_right (by decide) h4)⟩
/-- the pile's figures are the ranks that lie on it -/
theorem digs_stk {w : Nat} {l : List Nat} (h3 : 3 ≤ w) (h : ∀ d ∈ l, 1 ≤ d ∧ d ≤ 7) : digs w (dval w l) (dcnt w (dval w l)) = l.map fun d : Nat => (d : Int) := by
  have hp : 2 ^ 3 ≤ 2 ^ w := Nat.pow_le_pow_right (by decide) h3
  have hd : ∀ d ∈ l, d < 2 ^ w := fun d hd => by have := (h d hd).2; omega
  have key : ∀ l : List Nat, (∀ d ∈ l, d < 2 ^ w) → digN w (dval w l) l.length = l := by
    intro l
    induction l with
    | nil => intro _; rfl
    | cons d l ih =>
      intro hd
      have hd1 := hd d (.head _)
      unfold digN
      rw [List.length_cons, List.range_succ_eq_map, List.map_cons, List.map_map, Nat.mul_zero, Nat.pow_zero, Nat.div_one]
      have e1 : dval w (d :: l) % 2 ^ w = d := by
        show (d + 2 ^ w * dval w l) % 2 ^ w = d
        rw [Nat.add_mul_mod_self_left, Nat.mod_eq_of_lt hd1]
      have e2 : dval w (d :: l) / 2 ^ w = dval w l := by
        show (d + 2 ^ w * dval w l) / 2 ^ w = _
        rw [Nat.add_mul_div_left _ _ (Nat.two_pow_pos w), Nat.div_eq_of_lt hd1, Nat.zero_add]
      rw [e1]
      congr 1
      have := ih fun x hx => hd x (.tail _ hx)
      unfold digN at this
      refine Eq.trans ?_ this
      apply List.map_congr_left
      intro i _
      show dval w (d :: l) / 2 ^ (w * (i + 1)) % 2 ^ w = dval w l / 2 ^ (w * i) % 2 ^ w
      rw [Nat.mul_succ, Nat.add_comm, Nat.pow_add, ← Nat.div_div_eq_div_mul, e2]
  have hc : dcnt w (dval w l) = l.length := by
    have hle : dcnt w (dval w l) ≤ l.length := dcnt_le (by omega) (dval_lt hd)
    have hge := lt_dcnt (n := w) (a := dval w l) (by omega)
    rcases Nat.lt_or_ge (dcnt w (dval w l)) l.length with hlt | h'
    · exfalso
      rcases List.eq_nil_or_concat l with rfl | ⟨l', d, rfl⟩
      · simp at hlt
      · rw [List.concat_eq_append] at *
        have hd1 := h d (List.mem_append_right _ (.head _))
        rw [dval_append] at hge hlt
        simp only [List.length_append, List.length_singleton] at hlt
        have h5 : 2 ^ (w * dcnt w (dval w l' + 2 ^ (w * l'.length) * dval w [d])) ≤ 2 ^ (w * l'.length) := Nat.pow_le_pow_right (by decide) (Nat.mul_le_mul_left _ (by omega))
        have h6 : dval w [d] = d := by show d + 2 ^ w * 0 = d; omega
        rw [h6] at hge h5
        have h7 : 2 ^ (w * l'.length) * 1 ≤ 2 ^ (w * l'.length) * d := Nat.mul_le_mul_left _ hd1.1
        omega
    · omega
  rw [hc, digs_eq, key l hd]
theorem sorted_eq {as bs : List Int} (hp : as.Perm bs) (h1 : as.Pairwise (· ≤ ·)) (h2 : bs.Pairwise (· ≤ ·)) : as = bs := by
  exact hp.eq_of_pairwise (fun a b _ _ h h' => Int.le_antisymm h h') h1 h2
theorem reord10 {g h : Heap} {L : Addr} {p0 p1 p2 p3 p4 p5 p6 p7 p8 p9 : Addr × Obj} (N : News g L h [p0, p1, p2, p3, p4, p5, p6, p7, p8, p9]) : News g L h [p5, p6, p7, p8, p4, p0, p9, p3] := fun p hp => N p (sub [5, 6, 7, 8, 4, 0, 9, 3] p hp)
theorem LR.intsN {as : List Nat} {vs : List Value} (h : LR NumV as vs) : IntsAre vs (as.map fun d : Nat => (d : Int)) := by
  induction h with
  | nil => exact .nil
  | cons r _ ih => obtain ⟨t, rfl⟩ := r; exact .cons _ _ ih
theorem any_cast (l : List Nat) (k : Nat) : ((l.map fun d : Nat => (d : Int)).any fun x => x == (k : Int)) = l.any (· == k) := by
  rw [List.any_map]
  congr 1
  funext d
  show ((d : Int) == (k : Int)) = (d == k)
  by_cases h : d = k
  · subst h; simp
  · have : (d : Int) ≠ (k : Int) := by omega
    rw [beq_eq_false_iff_ne.mpr h, beq_eq_false_iff_ne.mpr this]
theorem pops_zero (S O : List Nat) (one : Nat) : pops 0 S O one = (S, O) := rfl
theorem pops_nil (k : Nat) (O : List Nat) (one : Nat) : pops k [] O one = ([], O) := by cases k <;> rfl
theorem pops_stop {k t : Nat} {S O : List Nat} {one : Nat} (h : ¬ t < one) : pops k (t :: S) O one = (t :: S, O) := by
  cases k with
  | zero => rfl
  | succ k => show (if t < one then _ else _) = _; rw [if_neg h]
theorem pops_go {k t : Nat} {S O : List Nat} {one : Nat} (h : t < one) : pops (k + 1) (t :: S) O one = pops k S (O ++ [t]) one := by
  show (if t < one then _ else _) = _; rw [if_pos h]
theorem or_nat (x y : Nat) : Builtin.bitOr (x : Int) (y : Int) = (x : Int) + (y : Int) - ((x &&& y : Nat) : Int) := by rw [bitOr_and, bitAnd_nat]
theorem or_low {P w one : Nat} (h : one < 2 ^ w) : Builtin.bitOr ((P * 2 ^ w : Nat) : Int) (one : Int) = ((one + 2 ^ w * P : Nat) : Int) := by
  have e : (P * 2 ^ w) &&& one = 0 := by
    apply Nat.eq_of_testBit_eq
    intro i
    rw [Nat.testBit_and, Nat.testBit_mul_two_pow, Nat.zero_testBit]
    by_cases hi : w ≤ i
    · rw [Nat.testBit_lt_two_pow (Nat.lt_of_lt_of_le h (Nat.pow_le_pow_right (by decide) hi)), Bool.and_false]
    · simp [hi]
  rw [or_nat, e, Nat.mul_comm]
  omega
theorem or_same {P w one : Nat} (h : one < 2 ^ w) : Builtin.bitOr ((one + 2 ^ w * P : Nat) : Int) (one : Int) = ((one + 2 ^ w * P : Nat) : Int) := by
  have e : (one + 2 ^ w * P) &&& one = one := by
    apply Nat.eq_of_testBit_eq
    intro i
    rw [Nat.testBit_and, Nat.add_comm, Nat.testBit_two_pow_mul_add _ h]
    by_cases hi : i < w
    · simp [hi]
    · rw [Nat.testBit_lt_two_pow (Nat.lt_of_lt_of_le h (Nat.pow_le_pow_right (by decide) (by omega))), Bool.and_false]
  rw [or_nat, e]
  omega
/-- the state of the loop that puts down -/
inductive PInv (wd : Nat) (tw to : Tok) (one : Nat) (a lc lo I la L' : Addr) (oI : Obj) (lv cv : List Value) (ln cn : Nat) (Rl : List Nat → List Nat → Prop) (m' : Str → Option Value) : List (Addr × Obj) → Prop
  | mk (S O : List Nat) (u : Tok) (t' : Tb) (oo : Obj) (ov : List Value) (on : Nat) (z1 : m' (Str.ofString "width") = some (.int (wd : Int) tw)) (z2 : m' (Str.ofString "order") = some (.ref a)) (z3 : m' (Str.ofString "come") = some (.ref lc)) (z4 : m' (Str.ofString "one") = some (.int (one : Int) to))
    (hR : Rl S O) (z6 : ∀ d ∈ S, 1 ≤ d ∧ d ≤ 7) (z7 : S.length ≤ 8) (z8 : S.length + O.length ≤ 16) (z9 : m' (Str.ofString "pile") = some (.int ((dval wd S : Nat) : Int) u)) (ok6 : t'.Ok)
    (O6 : Off t' [(lc, lsO cv cn), (I, oI), (la, lsO lv ln), (L' + 1, oo), (lo, lsO ov on)]) (z11 : oo.data = .cell (some (.ref lo))) (z12 : LR NumV O ov) :
    PInv wd tw to one a lc lo I la L' oI lv cv ln cn Rl m' [(37, t'.o1), (t'.c1, t'.oc1), (44, t'.o2), (t'.c2, t'.oc2), (lc, lsO cv cn), (I, oI), (la, lsO lv ln), (L' + 1, oo), (lo, lsO ov on)]
/-- the state of the outer loop -/
inductive QInv (wd : Nat) (tw : Tok) (a la L' : Addr) (lv : List Value) (ln : Nat) (S O com : List Nat) (m' : Str → Option Value) : List (Addr × Obj) → Prop
  | mk (u : Tok) (t' : Tb) (oo : Obj) (lo : Addr) (ov : List Value) (on : Nat) (lc : Addr) (cv : List Value) (cn : Nat) (e1 : m' (Str.ofString "width") = some (.int (wd : Int) tw)) (e2 : m' (Str.ofString "order") = some (.ref a)) (e3 : m' (Str.ofString "pile") = some (.int ((dval wd S : Nat) : Int) u)) (e4 : m' (Str.ofString "come") = some (.ref lc)) (ok' : t'.Ok)
    (Of' : Off t' [(lc, lsO cv cn), (la, lsO lv ln), (L' + 1, oo), (lo, lsO ov on)]) (b1 : @Ne Nat la lo) (b2 : @LT.lt Nat _ (L' + 1) lo) (b3 : @Ne Nat lo lc) (hoo : oo.data = .cell (some (.ref lo))) (hov : LR NumV O ov) (hcv : LR NumV com cv) :
    QInv wd tw a la L' lv ln S O com m' [(37, t'.o1), (t'.c1, t'.oc1), (44, t'.o2), (t'.c2, t'.oc2), (lc, lsO cv cn), (la, lsO lv ln), (L' + 1, oo), (lo, lsO ov on)]
theorem pass_spec {w : World} {A : Around} {s : Shared} {E : Value → Shared → Prop} {t : Tb} {a : Addr} {vs : List Value} {r : List Nat} {n wd : Nat} {tw : Tok} (R : Rm A 30) (W : Wd w (gh s.heap t)) (TT : TbAt s.heap t)
  (hl : (gh s.heap t).PlainList a vs.toArray) (hv : LR NumV r vs) (P : PassOk n r) (hw : 3 ≤ wd ∧ wd ≤ 32) :
  wpAny (model PySem.Challenge.rw_ti0023_01.row.prog w) A (call (.ref 122) [.ref a, .int wd tw]) (OutT s t (NewLT s t fun us => LR NumV (passSt n (r ++ [n + 1])).2 us)) E s := by
  revert W; obtain ⟨hnd, dp, fr, gd, un⟩ := A; obtain ⟨rfl, hdp, hun⟩ := R; dsimp only at hdp hun
  intro W; have X := W.X; revert X; k_fill; intro X; obtain ⟨p, loose, mean, mg, mb, T⟩ := W.T
  refine enterTC (binds := [(Str.ofString "order", .ref a), (Str.ofString "width", .int wd tw)]) TT (X.keeps fun b o e => gh_of e) (T.keeps fun b o e => gh_of e) (by k_is) (by k_is) (by show dp < 1000; omega) (BindsTo.of_eq rfl) rfl (by decide) rfl rfl rfl ?_
  intro L' h' tk' cells F' N' Y' O' lt'
  k_cells Y'
  refine wpK ?_
  intro K0 hK0
  rename Obj => oc0
  simp only [Tb.led, List.cons_append, List.nil_append] at N'
  have q1 : @LT.lt Nat _ 37 L' := lt' (37, t.o1) (.head _)
  have q2 : @LT.lt Nat _ t.c1 L' := lt' (t.c1, t.oc1) (.tail _ (.head _))
  have q3 : @LT.lt Nat _ 44 L' := lt' (44, t.o2) (.tail _ (.tail _ (.head _)))
  have q4 : @LT.lt Nat _ t.c2 L' := lt' (t.c2, t.oc2) (.tail _ (.tail _ (.tail _ (.head _))))
  clear lt'
  have hvl := hv.length
  have hn := P.len
  have hn6 := P.n7
  k_steps
  refine Here.in ?_
  (rename Fr _ _ _ _ => F1)
  refine lenL_K (hl.isList.at fun o e => F1.keep _ _ e) (hvl.trans hn) (by omega) ?_
  intro t1 k1
  k_steps
  refine Here.in ?_
  (rename News _ _ _ _ => N2); (rename Fr _ _ _ _ => F2)
  refine useL (concat_list_spec (rmK hdp hun (by decide)) (W.keeps F2.keep) (plain_base F2 hl) (plain_news (items := (List.toArray [_])) N2 (.head _)) (by omega) (by simp)) F2 N2 ?_
  intro la lv ln h3 tk3 hlv F3 N3 ane
  clear F2 N2
  have hlr : LR NumV (r ++ [n + 1]) lv := by
    rw [hlv]
    exact hv.append (.cons ⟨_, rfl⟩ .nil)
  have hll := hlr.length
  have a3 := ane.tl.tl.hd
  have a4 := ane.tl.tl.tl.hd
  have a5 := ane.tl.tl.tl.tl.hd
  have a6 := ane.tl.tl.tl.tl.tl.hd
  have a7 := ane.tl.tl.tl.tl.tl.tl.hd
  have a8 := ane.tl.tl.tl.tl.tl.tl.tl.hd
  have a9 := ane.tl.tl.tl.tl.tl.tl.tl.tl.hd
  have a3 := Ne.symm a3
  have a4 := Ne.symm a4
  have N3' := reord10 N3
  clear N3
  refine LoopGo.listB (l := la) (vs := lv) (fun i => QInv wd tw a la L' lv ln (passSt n ((r ++ [n + 1]).take i)).1 (passSt n ((r ++ [n + 1]).take i)).2 ((r ++ [n + 1]).take i)) rfl F3 N3' (fun _ _ => rfl) (.mk _ t _ _ [] 0 _ [] 0 rfl rfl rfl rfl TT.2 ?_ a3 (by omega) (by omega) (by assumption) .nil .nil) (fun i m' n' hJ => .inr ⟨_, by cases hJ; exact .tail _ (.tail _ (.tail _ (.tail _ (.tail _ (.head _))))), rfl, _, rfl⟩) ?_ ?_
  · refine ⟨?_, ?_, ?_, ?_, trivial⟩ <;> (simp only [Tb.ads, List.mem_cons, List.not_mem_nil, or_false]; rintro (e | e | e | e) <;> (have e' : @Eq Nat _ _ := e; omega))
  · intro i v m₁ news₁ I sh oI hv hJ hne F4 N4 K hK eS
    obtain ⟨u3, t', oo, lo, ov, on, lc, cv, cn, e1, e2, e3, e4, ok', Of', b1, b2, b3, hoo, hov, hcv⟩ := hJ
    have n1 : @Ne Nat 37 I := hne.1.1
    have n2 : @Ne Nat t'.c1 I := hne.1.2.1
    have n3 : @Ne Nat 44 I := hne.1.2.2.1
    have n4 : @Ne Nat t'.c2 I := hne.1.2.2.2.1
    have n5 : @Ne Nat lc I := hne.1.2.2.2.2.1
    have c1 : @LT.lt Nat _ la I := hne.2.1
    have c2 : @LT.lt Nat _ (L' + 1) I := hne.2.2.1
    have c3 : @LT.lt Nat _ lo I := hne.2.2.2.1
    have F5 := know4 F4 e1 e2 e3 e4
    clear F4 F3 N3'
    obtain ⟨one, hone, to, rfl⟩ := hlr.get i v hv
    have hil : i < n + 1 := by
      have := (List.getElem?_eq_some_iff.mp hone).1
      simp at this; omega
    have hstk := P.stk i (by omega)
    have hchk := P.chk i (by omega)
    have hstk' := P.stk (i + 1) (by omega)
    have hsn : passSt n ((r ++ [n + 1]).take (i + 1)) = passStep n (passSt n ((r ++ [n + 1]).take i)) one := by rw [List.take_add_one, hone]; exact passSt_snoc _ _ _
    have hcn : (r ++ [n + 1]).take (i + 1) = (r ++ [n + 1]).take i ++ [one] := by rw [List.take_add_one, hone]; rfl
    have hone7 : 1 ≤ one ∧ one ≤ 7 := by
      rcases List.mem_append.mp (List.mem_of_getElem? hone) with h | h
      · exact P.ranks one h
      · rw [List.mem_singleton.mp h]; omega
    have hcl : ((r ++ [n + 1]).take i).length ≤ 8 := by rw [List.length_take]; omega
    generalize passSt n ((r ++ [n + 1]).take i) = st at *
    generalize (r ++ [n + 1]).take i = com at *
    obtain ⟨hl8, h17, ho8⟩ := hstk
    obtain ⟨hd1, hd2⟩ := dval_lt8 hw.1 h17 hl8 hw.2
    have hd3 : dval wd st.1 < 2 ^ 300 := Nat.lt_of_lt_of_le hd1 (Nat.pow_le_pow_right (by decide) (by decide))
    k_steps
    refine Here.in ?_
    (rename News _ _ _ _ => Na); (rename Fr _ _ _ _ => Fa)
    have Nb : News (gh s.heap t) L' _ (t'.led ++ [(lc, lsO cv cn), (I, oI), (la, lsO lv ln), (L' + 1, oo), (lo, lsO ov on)]) := fun p hp => Na p (sub [1, 2, 3, 4, 5, 0, 6, 7, 8] p hp)
    have OfI : Off t' [(lc, lsO cv cn), (I, oI), (la, lsO lv ln), (L' + 1, oo), (lo, lsO ov on)] := ⟨Of'.1, by
      simp only [Tb.ads, List.mem_cons, List.not_mem_nil, or_false]
      rintro (e | e | e | e)
      · exact n1 e.symm
      · exact n2 e.symm
      · exact n3 e.symm
      · exact n4 e.symm, Of'.2⟩
    refine useLT (i2d_spec (a := dval wd st.1) (n := wd) (rmK hdp hun (by decide)) (wd_gh W Fa Nb) (tb_at Nb ok') hd3 ⟨by omega, by omega⟩ hd2) Fa Nb OfI ?_
    intro Dd dv dn h5 tk5 t5 hdv F5 N5 ok5 O5 aDd
    rw [digs_stk hw.1 h17] at hdv
    have hdv := hdv.unmap
    clear Na Fa Nb OfI
    simp only [Tb.led, List.cons_append, List.nil_append] at N5
    k_steps
    refine Here.in ?_
    refine LCt.ListComp_T (F₀ := F5) (by with_unfolding_all rfl) (by decide) (by rfl) (by decide) (by rfl) ?_
    k_steps
    refine Here.in ?_
    have hcvl := hcv.length
    have hovl := hov.length
    refine LCt.CompSrcT.ledger (its := cv.toArray) rfl F5 N5 (by k_mem) (by rw [sizeLine_eq, List.size_toArray]; omega) ?_
    intro g'
    refine restTN (g := fun (k : Nat) t => .int (k : Int) t) (R' := NumV) (as := com) (by rw [List.size_toArray, hcvl]) (fun k => !(st.2.any (· == k))) id (.inr ⟨_, by k_mem, rfl, _, rfl⟩) (fun i v _ hv => hcv.get i v (by simpa using hv)) ?_ ?_ ?_
    · intro k tk' I2 oI2 C2 oC2 D2 m₂ ys2 sh E2 hk hC hx F N off ne K hK
      k_steps
      refine Here.in ?_
      (rename News _ _ _ _ => N9); (rename Fr _ _ _ _ => F9)
      refine useB (contains_int_spec (rmK hdp hun (by decide)) (W.keeps F9.keep) (by exact News.isList N9 (by k_mem)) hov.intsN) F9 N9 ?_
      intro h6 tk6 F10 N10
      rw [any_cast]
      clear F9 N9
      k_steps
      (refine hK _ _ ?_); exact TEnd.intro F10 N10 (fun p hp => hp) (by cases st.2.any (· == k) <;> rfl)
    · intro k tk' I2 oI2 C2 oC2 D2 m₂ ys2 sh E2 hk hC hx F N off ne K hK
      k_steps
      (refine hK _ _ ?_); exact CEnd.intro F N (fun p hp => hp) ⟨_, rfl⟩
    · intro ys hys
      k_steps
      refine Here.in ?_
      rw [List.map_id] at hys
      have hyl := hys.length
      have hfl := List.length_filter_le (fun k => !(st.2.any (· == k))) com
      (rename News _ _ _ _ => N9); (rename Fr _ _ _ _ => F9)
      refine kso_sorted F9 N9 (News.isList N9 (.head _)) hys.intsN (by rw [List.length_map]; omega) ?_
      intro Ds ws ns' cs h8 F10 N10 lS hws hwl hperm hpw _
      have hns : ns' = st.1.map fun d : Nat => (d : Int) := sorted_eq (hperm.trans (hchk.2.symm.map _)) hpw (by rw [List.pairwise_map]; exact hchk.1.imp fun h => by omega)
      subst hns
      have hws := (LR.ofInts hws).unmap
      clear N9 F9
      k_steps
      refine Here.in ?_
      refine neT_lists (us := dv) (vs := ws) (News.isList N10 (by k_mem)) (News.isList N10 (.head _)) (by rw [hdv.length, hws.length]) (by show un + 3 < 9900; omega) ?_ ?_
      · intro j u v eu ev
        obtain ⟨x, r1, r2⟩ := hdv.both hws j u v eu ev
        exact eqT_int r1 r2
      k_steps
      refine Here.in ?_
      have N11 : News (gh s.heap t) L' _ [(37, t5.o1), (t5.c1, t5.oc1), (44, t5.o2), (t5.c2, t5.oc2), (lc, lsO cv cn), (I, oI), (la, lsO lv ln), (L' + 1, oo), (lo, lsO ov on)] := fun p hp => N10 p (sub [2, 3, 4, 5, 7, 8, 9, 10, 11] p hp)
      have O11 : Off t5 [(lc, lsO cv cn), (I, oI), (la, lsO lv ln), (L' + 1, oo), (lo, lsO ov on)] := O5.2
      clear N10 N5 F5
      refine lenL_K (hl.isList.at fun o e => F10.keep _ _ e) (hvl.trans hn) (by omega) ?_
      intro t12 k12
      k_steps
      refine Here.in ?_
      intro h13 tk13 t13 u13 v13 R13 F13 N13 K13
      (try k_steps)
      refine LoopGo.rangeC (n := n) (fun j => PInv wd tw to one a lc lo I la L' oI lv cv ln cn fun S O => pops (n - j) S O one = pops n st.1 st.2 one) (PInv wd tw to one a lc lo I la L' oI lv cv ln cn fun S O => (S, O) = pops n st.1 st.2 one) rfl R13 (small_one (by omega) (by omega) (by omega) (by omega)) (by rw [rangeSize_nat]; omega) F13 N13 (fun _ _ => rfl) (.mk st.1 st.2 _ t5 oo ov on rfl rfl rfl rfl (by rw [Nat.sub_zero]) h17 hl8 (by omega) rfl ok5 O11 hoo hov) ?_ ?_ ?_
      · clear F13 N13 F10 R13 K13
        intro h14 tk14 m' n' F14 N14 hJ
        obtain ⟨S, O, u, t', oo, ov, on, z1, z2, z3, z4, hSO, z6, z7, z8, z9, ok6, O6, z11, z12⟩ := hJ
        have F15 := know5 F14 z1 z2 z3 z4 z9
        clear F14
        obtain ⟨hd1, hd2⟩ := dval_lt8 hw.1 z6 z7 hw.2
        have hone : one < 2 ^ wd := Nat.lt_of_le_of_lt hone7.2 (Nat.lt_of_lt_of_le (by decide : 7 < 2 ^ 3) (Nat.pow_le_pow_right (by decide) hw.1))
        k_steps
        refine Here.in ?_
        (rename News _ _ _ _ => Na); (rename Fr _ _ _ _ => Fa)
        refine useI (lshift_spec (rmK hdp hun (by decide)) (W.keeps Fa.keep) (by omega) (by omega) ⟨by omega, by rw [Int.natAbs_natCast]; exact Nat.lt_trans hd1 (Nat.pow_lt_pow_right (by decide) (by decide))⟩) Fa Na ?_
        rw [show ((dval wd S : Nat) : Int) * 2 ^ (wd : Int).toNat = ((dval wd S * 2 ^ wd : Nat) : Int) by rw [Int.toNat_natCast, Int.natCast_mul]; norm_cast]
        intro t15 h15 tk15 Fb Nb
        clear Fa Na
        k_steps
        refine Here.in ?_
        refine useI (or_spec (rmK hdp hun (by decide)) (W.keeps Fb.keep)) Fb Nb ?_
        rw [or_low hone]
        intro t16 h16 tk16 Fa Na
        clear Fb Nb
        k_steps
        refine Here.in ?_
        refine useI (or_spec (rmK hdp hun (by decide)) (W.keeps Fa.keep)) Fa Na ?_
        rw [or_same hone]
        intro t17 h17 tk17 Fb Nb
        clear Fa Na
        k_steps
        refine Here.in ?_
        (rename News _ _ _ _ => Na); (rename Fr _ _ _ _ => Fa)
        refine useL (concat_list_spec (rmK hdp hun (by decide)) (W.keeps Fa.keep) (plain_news (n := cn) Na (by k_mem)) (plain_news (items := (List.toArray [_])) Na (.head _)) (by rw [hcvl]; omega) (by simp)) Fa Na ?_
        intro lc2 cv2 cn2 h18 tk18 hcv2 Fc Nc anc
        clear Fa Na Fb Nb
        have y1 := anc.tl.hd
        have y2 := anc.tl.tl.hd
        have y3 := anc.tl.tl.tl.hd
        have y4 := anc.tl.tl.tl.tl.hd
        have yI := anc.tl.tl.tl.tl.tl.tl.hd
        have ylo := anc.tl.tl.tl.tl.tl.tl.tl.tl.tl.hd
        have oI' := O6.tl.hd
        have ola := O6.tl.tl.hd
        have oL := O6.tl.tl.tl.hd
        have olo := O6.tl.tl.tl.tl.hd
        have hI : ∀ x ∈ t'.ads, x ≠ I := fun x hx e => oI' (e ▸ hx)
        have hps : passStep n st one = (one :: S, O) := by unfold passStep; rw [← hSO]
        k_steps
        (rename News _ _ _ _ => Na); (rename Fr _ _ _ _ => Fa)
        (refine hK _ _ ?_); refine LPostB.end Fa Na [(37, t'.o1), (t'.c1, t'.oc1), (44, t'.o2), (t'.c2, t'.oc2), (lc2, lsO cv2 cn2), (la, lsO lv ln), (L' + 1, oo), (lo, lsO ov on)] (by exact fun p hp => sub [7, 2, 3, 4, 5, 0, 8, 9, 10] p hp) ⟨⟨hI 37 (.head _), hI _ (.tail _ (.head _)), hI 44 (.tail _ (.tail _ (.head _))), hI _ (.tail _ (.tail _ (.tail _ (.head _)))), Ne.symm yI, trivial⟩, c1, c2, c3, trivial⟩ (.mk t17 t' oo lo ov on lc2 cv2 cn2 rfl rfl ?_ rfl ok6 ⟨?_, ola, oL, olo, trivial⟩ b1 b2 ylo z11 ?_ ?_)
        · rw [hsn, hps]; rfl
        · simp only [Tb.ads, List.mem_cons, List.not_mem_nil, or_false]
          rintro (e | e | e | e)
          · exact y1 e.symm
          · exact y2 e.symm
          · exact y3 e.symm
          · exact y4 e.symm
        · rw [hsn, hps]; exact z12
        · rw [hcn, hcv2]; exact hcv.snoc ⟨to, rfl⟩
      · rintro m' n' ⟨S, O, u, t', oo, ov, on, z1, z2, z3, z4, hR, z6, z7, z8, z9, ok6, O6, z11, z12⟩
        rw [Nat.sub_self] at hR
        exact .mk S O u t' oo ov on z1 z2 z3 z4 hR z6 z7 z8 z9 ok6 O6 z11 z12
      · clear F13 N13 F10 R13 K13
        intro j kt m₁ news₁ I2 sh oI2 hj hJ hne2 F14 N14 K hK eS
        obtain ⟨S, O, u, t', oo, ov, on, z1, z2, z3, z4, hSO, z6, z7, z8, z9, ok6, O6, z11, z12⟩ := hJ
        have F15 := know5 F14 z1 z2 z3 z4 z9
        clear F14
        obtain ⟨hd1, hd2⟩ := dval_lt8 hw.1 z6 z7 hw.2
        k_steps
        refine Here.in ?_
        (rename News _ _ _ _ => Na); (rename Fr _ _ _ _ => Fa)
        refine useI (lshift_spec (rmK hdp hun (by decide)) (W.keeps Fa.keep) (by omega) (by omega) ⟨by decide, by decide⟩) Fa Na ?_
        rw [show (1 : Int) * 2 ^ (wd : Int).toNat = ((2 ^ wd : Nat) : Int) by rw [Int.toNat_natCast, Int.one_mul]; norm_cast]
        intro t15 h15 tk15 Fb Nb
        clear Fa Na
        k_steps
        refine Here.in ?_
        have m1 : @Ne Nat 37 I2 := hne2.1.1
        have m2 : @Ne Nat t'.c1 I2 := hne2.1.2.1
        have m3 : @Ne Nat 44 I2 := hne2.1.2.2.1
        have m4 : @Ne Nat t'.c2 I2 := hne2.1.2.2.2.1
        have m5 : @Ne Nat lc I2 := hne2.1.2.2.2.2.1
        have g1 : @LT.lt Nat _ I I2 := hne2.2.1
        have g2 : @LT.lt Nat _ la I2 := hne2.2.2.1
        have g3 : @LT.lt Nat _ (L' + 1) I2 := hne2.2.2.2.1
        have g4 : @LT.lt Nat _ lo I2 := hne2.2.2.2.2.1
        have Nc : News (gh s.heap t) L' _ (t'.led ++ [(lc, lsO cv cn), (I, oI), (la, lsO lv ln), (L' + 1, oo), (lo, lsO ov on), (I2, oI2)]) := fun p hp => Nb p (sub [1, 2, 3, 4, 5, 6, 7, 8, 9, 0] p hp)
        have olc := O6.hd
        have oI' := O6.tl.hd
        have ola := O6.tl.tl.hd
        have oL := O6.tl.tl.tl.hd
        have olo := O6.tl.tl.tl.tl.hd
        have Oc : Off t' [(lc, lsO cv cn), (I, oI), (la, lsO lv ln), (L' + 1, oo), (lo, lsO ov on), (I2, oI2)] := ⟨olc, oI', ola, oL, olo, by
          simp only [Tb.ads, List.mem_cons, List.not_mem_nil, or_false]
          rintro (e | e | e | e)
          · exact m1 e.symm
          · exact m2 e.symm
          · exact m3 e.symm
          · exact m4 e.symm, trivial⟩
        have hbits : wd ≤ Builtin.Int.intBits ((2 ^ wd : Nat) : Int) := Nat.le_of_lt ((Nat.pow_lt_pow_iff_right (by decide : 1 < 2)).mp (lt_bits (2 ^ wd)))
        refine useTT (idm_spec (a := dval wd S) (b := 2 ^ wd) (rmK hdp hun (by decide)) (wd_gh W Fb Nc) (tb_at Nc ok6) (Nat.lt_trans hd1 (Nat.pow_lt_pow_right (by decide) (by decide))) ⟨Nat.two_pow_pos _, Nat.pow_lt_pow_right (by decide) (by omega)⟩ (Nat.lt_of_lt_of_le hd2 (Nat.pow_le_pow_right (by decide) (Nat.mul_le_mul_right _ hbits)))) Fb Nc Oc ?_
        intro tp tv tn2 h16 tk16 t6 htv Fd Nd ok7 Od atp
        clear Fb Nb Nc Oc
        simp only [Tb.led, List.cons_append, List.nil_append] at Nd
        have olc := Od.tl.hd
        have oI' := Od.tl.tl.hd
        have ola := Od.tl.tl.tl.hd
        have oL := Od.tl.tl.tl.tl.hd
        have olo := Od.tl.tl.tl.tl.tl.hd
        have oI2' := Od.tl.tl.tl.tl.tl.tl.hd
        cases S with
        | nil =>
          rw [show dval wd [] / 2 ^ wd = 0 from Nat.zero_div _, show dval wd [] % 2 ^ wd = 0 from Nat.zero_mod _] at htv
          obtain ⟨tq, tr, rfl⟩ := LR.pair htv
          rw [pops_nil] at hSO
          k_steps
          (rename News _ _ _ _ => Na); (rename Fr _ _ _ _ => Fa)
          (refine hK _ _ ?_); exact LPostC.brk Fa Na [(37, t6.o1), (t6.c1, t6.oc1), (44, t6.o2), (t6.c2, t6.oc2), (lc, lsO cv cn), (I, oI), (la, lsO lv ln), (L' + 1, oo), (lo, lsO ov on)] (by exact fun p hp => sub [0, 1, 2, 3, 5, 6, 7, 8, 9] p hp) (.mk [] O u t6 oo ov on rfl rfl rfl rfl hSO z6 z7 z8 rfl ok7 ⟨olc, oI', ola, oL, olo, trivial⟩ z11 z12)
        | cons t0 S' =>
          have ht0 := z6 t0 (.head _)
          have h2w : 7 < 2 ^ wd := Nat.lt_of_lt_of_le (by decide : 7 < 2 ^ 3) (Nat.pow_le_pow_right (by decide) hw.1)
          have e1 : dval wd (t0 :: S') / 2 ^ wd = dval wd S' := by
            show (t0 + 2 ^ wd * dval wd S') / 2 ^ wd = _
            rw [Nat.add_mul_div_left _ _ (Nat.two_pow_pos _), Nat.div_eq_of_lt (by omega), Nat.zero_add]
          have e2 : dval wd (t0 :: S') % 2 ^ wd = t0 := by
            show (t0 + 2 ^ wd * dval wd S') % 2 ^ wd = _
            rw [Nat.add_mul_mod_self_left, Nat.mod_eq_of_lt (by omega)]
          rw [e1, e2] at htv
          obtain ⟨tq, tr, rfl⟩ := LR.pair htv
          have ht00 : ¬ ((t0 : Int) = 0) := by omega
          k_steps
          all_goals (try (exfalso; omega))
          refine Here.in ?_
          (rename News _ _ _ _ => Na); (rename Fr _ _ _ _ => Fa)
          refine useB (lt_spec (rmK hdp hun (by decide)) (W.keeps Fa.keep)) Fa Na ?_
          intro h17 tk17 Fb Nb
          clear Fa Na
          by_cases hlt : t0 < one
          · rw [show decide ((t0 : Int) < (one : Int)) = true by rw [decide_eq_true_eq]; omega]
            rw [show n - j = n - (j + 1) + 1 by omega, pops_go hlt] at hSO
            have hLo : ∀ x ∈ t6.ads, x ≠ lo := fun x hx e => olo (e ▸ hx)
            have z12l := z12.length
            have hovn : ov.length ≤ 16 := by rw [z12l]; simp at z8; omega
            k_steps
            refine Here.in ?_
            (rename News _ _ _ _ => Na); (rename Fr _ _ _ _ => Fa)
            have Nq : News (gh s.heap t) L' _ [(lo, lsO ov on), (37, t6.o1), (t6.c1, t6.oc1), (44, t6.o2), (t6.c2, t6.oc2), (lc, lsO cv cn), (I, oI), (la, lsO lv ln), (L' + 1, oo), (I2, oI2)] := fun p hp => Na p (sub [9, 0, 1, 2, 3, 5, 6, 7, 8, 10] p hp)
            refine append_K (hsz := by rw [List.size_toArray, sizeLine_eq]; omega) Fa Nq (.head ?_) ?_
            · intro p hp
              simp only [List.mem_cons, List.not_mem_nil, or_false] at hp
              rcases hp with rfl | rfl | rfl | rfl | rfl | rfl | rfl | rfl | rfl
              · exact hLo 37 (.head _)
              · exact hLo _ (.tail _ (.head _))
              · exact hLo 44 (.tail _ (.tail _ (.head _)))
              · exact hLo _ (.tail _ (.tail _ (.tail _ (.head _))))
              · exact Ne.symm b3
              · exact Ne.symm (Nat.ne_of_lt c3)
              · exact b1
              · exact Nat.ne_of_lt b2
              · exact Ne.symm (Nat.ne_of_lt g4)
            intro h18 Fx Nx
            rw [List.push_toArray] at Nx
            clear Fa Na Nq
            k_steps
            (rename News _ _ _ _ => Na); (rename Fr _ _ _ _ => Fa)
            have hI2 : ∀ x ∈ t6.ads, x ≠ I2 := fun x hx e => oI2' (e ▸ hx)
            (refine hK _ _ ?_); exact LPostC.end Fa Na [(37, t6.o1), (t6.c1, t6.oc1), (44, t6.o2), (t6.c2, t6.oc2), (lc, lsO cv cn), (I, oI), (la, lsO lv ln), (L' + 1, oo), (lo, lsO (ov ++ [.int (t0 : Int) tr]) (on + 1))] (by exact fun p hp => sub [9, 1, 2, 3, 4, 5, 6, 7, 8, 0] p hp) ⟨⟨hI2 37 (.head _), hI2 _ (.tail _ (.head _)), hI2 44 (.tail _ (.tail _ (.head _))), hI2 _ (.tail _ (.tail _ (.tail _ (.head _)))), m5, trivial⟩, g1, g2, g3, g4, trivial⟩ (.mk S' (O ++ [t0]) _ t6 oo (ov ++ [.int (t0 : Int) tr]) (on + 1) rfl rfl rfl rfl hSO (fun d hd => z6 d (.tail _ hd)) (by simp at z7; omega) (by simp at z8 ⊢; omega) rfl ok7 ⟨olc, oI', ola, oL, olo, trivial⟩ z11 (z12.snoc ⟨tr, rfl⟩))
          · rw [show decide ((t0 : Int) < (one : Int)) = false by rw [decide_eq_false_iff_not]; omega]
            rw [pops_stop hlt] at hSO
            k_steps
            (rename News _ _ _ _ => Na); (rename Fr _ _ _ _ => Fa)
            (refine hK _ _ ?_); exact LPostC.brk Fa Na [(37, t6.o1), (t6.c1, t6.oc1), (44, t6.o2), (t6.c2, t6.oc2), (lc, lsO cv cn), (I, oI), (la, lsO lv ln), (L' + 1, oo), (lo, lsO ov on)] (by exact fun p hp => sub [0, 1, 2, 3, 5, 6, 7, 8, 9] p hp) (.mk (t0 :: S') O u t6 oo ov on rfl rfl rfl rfl hSO z6 z7 z8 rfl ok7 ⟨olc, oI', ola, oL, olo, trivial⟩ z11 z12)
  · intro h14 tk14 m' n' F14 N14 hJ
    obtain ⟨u3, t', oo, lo, ov, on, lc, cv, cn, e1, e2, e3, e4, ok', Of', b1, b2, b3, hoo, hov, hcv⟩ := hJ
    have F5 := know4 F14 e1 e2 e3 e4
    clear F14 F3 N3'
    rw [hll, List.take_length] at hov hcv
    rw [hll, List.take_length, P.last] at F5
    have hst := P.stk (n + 1) (Nat.le_refl _)
    rw [List.take_of_length_le (by simp; omega), P.last] at hst
    obtain ⟨hd1, hd2⟩ := dval_lt8 hw.1 hst.2.1 hst.1 hw.2
    k_steps
    refine Here.in ?_
    (rename News _ _ _ _ => Na); (rename Fr _ _ _ _ => Fa)
    have Nb : News (gh s.heap t) L' _ (t'.led ++ [(lc, lsO cv cn), (la, lsO lv ln), (L' + 1, oo), (lo, lsO ov on)]) := fun p hp => Na p (sub [0, 1, 2, 3, 4, 5, 6, 7] p hp)
    refine useLT (i2d_spec (a := dval wd [n + 1]) (n := wd) (rmK hdp hun (by decide)) (wd_gh W Fa Nb) (tb_at Nb ok') (Nat.lt_trans hd1 (Nat.pow_lt_pow_right (by decide) (by decide))) ⟨by omega, by omega⟩ hd2) Fa Nb Of' ?_
    intro Dd dv dn h15 tk15 t5 hdv F15 N15 ok5 O5 aDd
    rw [digs_stk hw.1 hst.2.1] at hdv
    have hdv := hdv.unmap
    clear Na Fa Nb
    simp only [Tb.led, List.cons_append, List.nil_append] at N15
    k_steps
    refine Here.in ?_
    refine lenL_K (hl.isList.at fun o e => F15.keep _ _ e) (hvl.trans hn) (by omega) ?_
    intro t16 k16
    k_steps
    refine Here.in ?_
    (rename News _ _ _ _ => Na); (rename Fr _ _ _ _ => Fa)
    refine eqK_ints (as := [n + 1]) (us := dv) (vs := [.int ((n : Int) + 1) _]) (News.isList Na (by k_mem)) (News.isList Na (.head _)) hdv (.cons ⟨_, rfl⟩ .nil) (by show un + 3 < 9900; omega) ?_
    k_steps
    (rename News _ _ _ _ => Nz); (rename Fr _ _ _ _ => Fz)
    have hm : (lo, lsO ov on) ∈ [(37, t5.o1), (t5.c1, t5.oc1), (44, t5.o2), (t5.c2, t5.oc2), (Dd, lsO dv dn), (lc, lsO cv cn), (la, lsO lv ln), (L' + 1, oo), (lo, lsO ov on)] := .tail _ (.tail _ (.tail _ (.tail _ (.tail _ (.tail _ (.tail _ (.tail _ (.head _))))))))
    (refine hK0 _ _ ?_); exact endOT (t' := t5) Fz Nz (by exact fun p hp => sub [1, 2, 3, 4] p hp) ok5 ⟨lo, ov, on, hov, rfl, Nz.fresh (.tail _ hm), Nz.get (.tail _ hm)⟩

end Mine
namespace Mine
local macro_rules | `(tactic| omega) => `(tactic| first | assumption | exact Nat.ne_of_lt (by assumption) | exact Nat.ne_of_gt (by assumption) | exact Nat.le_of_lt (by assumption) | lia | omega (config := {}))
def subqB : List Nat → List Nat → Bool
  | [], _ => true
  | _ :: _, [] => false
  | k :: ks, x :: xs => bif Nat.beq x k then subqB ks xs else subqB (k :: ks) xs
def hardAB (r : List Nat) (n i j k l : Nat) : Bool := subqB [k + 2, j + 3, i + 4, l + 1] r || (subqB [j + 3, k + 2, i + 4, l + 1] r && !((List.range' (i + 5) (n - (i + 4))).any fun e => subqB [j + 3, e, k + 2, i + 4, l + 1] r))
def hardQB (r : List Nat) (n : Nat) : Bool := (List.range (n - 3)).any fun i => (List.range (i + 1)).any fun j => (List.range (j + 1)).any fun k => (List.range (k + 1)).any fun l => hardAB r n i j k l
def popsB : Nat → List Nat → List Nat → Nat → List Nat × List Nat
  | 0, stk, out, _ => (stk, out)
  | _ + 1, [], out, _ => ([], out)
  | k + 1, t :: stk, out, one => bif Nat.blt t one then popsB k stk (out ++ [t]) one else (t :: stk, out)
def memB (k : Nat) : List Nat → Bool
  | [] => false
  | x :: xs => bif Nat.beq x k then true else memB k xs
def sortedB : List Nat → Bool
  | [] => true
  | [_] => true
  | a :: b :: r => Nat.ble a b && sortedB (b :: r)
def eraseB (k : Nat) : List Nat → Option (List Nat)
  | [] => none
  | x :: xs => bif Nat.beq x k then some xs else (eraseB k xs).map (x :: ·)
def permB : List Nat → List Nat → Bool
  | [], ys => ys.isEmpty
  | x :: xs, ys => match eraseB x ys with
    | none => false
    | some zs => permB xs zs
def eqB : List Nat → List Nat → Bool
  | [], [] => true
  | x :: xs, y :: ys => Nat.beq x y && eqB xs ys
  | _, _ => false
def filtB (out : List Nat) : List Nat → List Nat
  | [] => []
  | x :: xs => bif memB x out then filtB out xs else x :: filtB out xs
/-- one pass, checked as it goes; none where it fails -/
def passB (n : Nat) : List Nat → List Nat → List Nat → List Nat → Option (List Nat × List Nat)
  | [], stk, out, _ => some (stk, out)
  | one :: rest, stk, out, come =>
    bif sortedB stk && permB stk (filtB out come) then
      match popsB n stk out one with
      | (s, o) => passB n rest (one :: s) o (come ++ [one])
    else none
def pairsB (n : Nat) (r r' : List Nat) : Bool :=
  ((List.range' 2 (n - 1)).all fun high => (List.range' 1 (high - 1)).all fun low => (subqB [high, low] r' == (List.range' (high + 1) (n - high)).any fun more => subqB [high, more, low] r)) && (eqB r' r == eqB r (List.range' 1 n))
def lawB (n : Nat) (r : List Nat) : Bool :=
  match passB n (r ++ [n + 1]) [] [] [] with
  | some (s1, o) => eqB s1 [n + 1] && pairsB n r o && (match passB n (o ++ [n + 1]) [] [] [] with
    | some (s2, tw) => eqB s2 [n + 1] && pairsB n o tw && permB tw (List.range' 1 n) && permB o (List.range' 1 n) && (match tw.reverse with
      | z :: _ => Nat.beq z n
      | [] => false) && (eqB tw (List.range' 1 n) == !hardQB r n)
    | none => false)
  | none => false
/-- all orders of a list -/
def insAll (x : Nat) : List Nat → List (List Nat)
  | [] => [[x]]
  | y :: ys => (x :: y :: ys) :: (insAll x ys).map (y :: ·)
def allPerms : List Nat → List (List Nat)
  | [] => [[]]
  | x :: xs => (allPerms xs).flatMap (insAll x)
theorem pops_stop' {k t : Nat} {S O : List Nat} {one : Nat} (h : ¬ t < one) : pops k (t :: S) O one = (t :: S, O) := by
  cases k with
  | zero => rfl
  | succ k => show (if t < one then _ else _) = _; rw [if_neg h]
theorem pops_go' {k t : Nat} {S O : List Nat} {one : Nat} (h : t < one) : pops (k + 1) (t :: S) O one = pops k S (O ++ [t]) one := by
  show (if t < one then _ else _) = _; rw [if_pos h]

end Mine
namespace Mine
local macro_rules | `(tactic| omega) => `(tactic| first | assumption | exact Nat.ne_of_lt (by assumption) | exact Nat.ne_of_gt (by assumption) | exact Nat.le_of_lt (by assumption) | lia | omega (config := {}))
theorem subqB_eq : ∀ (ks xs : List Nat), subqB ks xs = subq ks xs := by
  intro ks xs
  induction xs generalizing ks with
  | nil => cases ks <;> rfl
  | cons x xs ih =>
    cases ks with
    | nil => rfl
    | cons k ks =>
      show (bif Nat.beq x k then subqB ks xs else subqB (k :: ks) xs) = if x = k then subq ks xs else subq (k :: ks) xs
      rw [ih, ih]
      by_cases h : x = k
      · subst h; rw [if_pos rfl, Nat.beq_refl]; rfl
      · rw [if_neg h]
        cases hb : Nat.beq x k with
        | true => exact absurd (Nat.eq_of_beq_eq_true hb) h
        | false => rfl
theorem hardQB_eq (r : List Nat) (n : Nat) : hardQB r n = hardQ r n := by
  unfold hardQB hardQ
  congr 1; funext i
  unfold hardD
  congr 1; funext j
  unfold hardC
  congr 1; funext k
  unfold hardB
  congr 1; funext l
  unfold hardAB hardA
  simp only [subqB_eq]
theorem popsB_eq : ∀ (k : Nat) (stk out : List Nat) (one : Nat), popsB k stk out one = pops k stk out one := by
  intro k
  induction k with
  | zero => intros; rfl
  | succ k ih =>
    intro stk out one
    cases stk with
    | nil => rfl
    | cons t stk =>
      show (bif Nat.blt t one then popsB k stk (out ++ [t]) one else (t :: stk, out)) = if t < one then pops k stk (out ++ [t]) one else (t :: stk, out)
      rw [ih]
      by_cases h : t < one
      · rw [if_pos h]
        cases hb : Nat.blt t one with
        | true => rfl
        | false => exact absurd (Nat.blt_eq.mpr h) (by rw [hb]; decide)
      · rw [if_neg h]
        cases hb : Nat.blt t one with
        | true => exact absurd (Nat.blt_eq.mp hb) h
        | false => rfl
theorem memB_eq (k : Nat) (l : List Nat) : memB k l = l.any (· == k) := by
  induction l with
  | nil => rfl
  | cons x l ih =>
    show (bif Nat.beq x k then true else memB k l) = (x == k || l.any (· == k))
    rw [ih]
    by_cases h : x = k
    · subst h; rw [Nat.beq_refl, beq_self_eq_true]; rfl
    · rw [beq_eq_false_iff_ne.mpr h]
      cases hb : Nat.beq x k with
      | true => exact absurd (Nat.eq_of_beq_eq_true hb) h
      | false => rfl
theorem filtB_eq (out l : List Nat) : filtB out l = l.filter fun k => !(out.any (· == k)) := by
  induction l with
  | nil => rfl
  | cons x l ih =>
    show (bif memB x out then filtB out l else x :: filtB out l) = _
    rw [memB_eq, ih, List.filter_cons]
    cases out.any (· == x) <;> rfl
theorem eqB_sound : ∀ {a b : List Nat}, eqB a b = true → a = b
  | [], [], _ => rfl
  | [], _ :: _, h => by cases h
  | _ :: _, [], h => by cases h
  | x :: xs, y :: ys, h => by
    have h' : (Nat.beq x y && eqB xs ys) = true := h
    rw [Bool.and_eq_true] at h'
    rw [Nat.eq_of_beq_eq_true h'.1, eqB_sound h'.2]
theorem eqB_refl : ∀ (a : List Nat), eqB a a = true
  | [] => rfl
  | x :: xs => by show (Nat.beq x x && eqB xs xs) = true; rw [Nat.beq_refl, eqB_refl xs]; rfl
theorem eqB_eq (a b : List Nat) : eqB a b = decide (a = b) := by
  by_cases h : a = b
  · subst h; rw [eqB_refl]; simp
  · rw [decide_eq_false h]
    cases hb : eqB a b with
    | true => exact absurd (eqB_sound hb) h
    | false => rfl
theorem eraseB_sound {k : Nat} : ∀ {xs zs : List Nat}, eraseB k xs = some zs → xs.Perm (k :: zs)
  | [], _, h => by cases h
  | x :: xs, zs, h => by
    have h' : (bif Nat.beq x k then some xs else (eraseB k xs).map (x :: ·)) = some zs := h
    cases hb : Nat.beq x k with
    | true =>
      rw [hb] at h'
      cases h'
      rw [Nat.eq_of_beq_eq_true hb]
    | false =>
      rw [hb] at h'
      cases he : eraseB k xs with
      | none => rw [he] at h'; cases h'
      | some ws =>
        rw [he] at h'
        cases h'
        exact ((eraseB_sound he).cons x).trans (List.Perm.swap ..)
theorem permB_sound : ∀ {xs ys : List Nat}, permB xs ys = true → xs.Perm ys
  | [], ys, h => by
    cases ys with
    | nil => exact .nil
    | cons _ _ => cases h
  | x :: xs, ys, h => by
    have h' : (match eraseB x ys with | none => false | some zs => permB xs zs) = true := h
    cases he : eraseB x ys with
    | none => rw [he] at h'; cases h'
    | some zs =>
      rw [he] at h'
      exact ((permB_sound h').cons x).trans (eraseB_sound he).symm
theorem sortedB_sound : ∀ {l : List Nat}, sortedB l = true → l.Pairwise (· ≤ ·)
  | [], _ => .nil
  | [_], _ => List.pairwise_singleton ..
  | a :: b :: r, h => by
    have h' : (Nat.ble a b && sortedB (b :: r)) = true := h
    rw [Bool.and_eq_true] at h'
    have ih := sortedB_sound h'.2
    have hab := Nat.le_of_ble_eq_true h'.1
    refine List.pairwise_cons.mpr ⟨fun x hx => ?_, ih⟩
    rcases List.mem_cons.mp hx with rfl | hx
    · exact hab
    · exact Nat.le_trans hab ((List.pairwise_cons.mp ih).1 x hx)
theorem passB_sound {n : Nat} : ∀ {l stk out come s o : List Nat}, passB n l stk out come = some (s, o) →
    l.foldl (passStep n) (stk, out) = (s, o) ∧ ∀ i, i < l.length → ((l.take i).foldl (passStep n) (stk, out)).1.Pairwise (· ≤ ·) ∧ ((l.take i).foldl (passStep n) (stk, out)).1.Perm ((come ++ l.take i).filter fun k => !(((l.take i).foldl (passStep n) (stk, out)).2.any (· == k)))
  | [], stk, out, come, s, o, h => by cases h; exact ⟨rfl, fun i hi => absurd hi (Nat.not_lt_zero _)⟩
  | one :: rest, stk, out, come, s, o, h => by
    have h' : (bif sortedB stk && permB stk (filtB out come) then (match popsB n stk out one with | (s, o) => passB n rest (one :: s) o (come ++ [one])) else none) = some (s, o) := h
    cases hc : (sortedB stk && permB stk (filtB out come)) with
    | false => rw [hc] at h'; cases h'
    | true =>
      rw [hc, popsB_eq] at h'
      rw [Bool.and_eq_true] at hc
      have h2 : passB n rest (one :: (pops n stk out one).1) (pops n stk out one).2 (come ++ [one]) = some (s, o) := h'
      obtain ⟨e, ih⟩ := passB_sound h2
      refine ⟨e, fun i hi => ?_⟩
      cases i with
      | zero =>
        refine ⟨sortedB_sound hc.1, ?_⟩
        have := permB_sound hc.2
        rw [filtB_eq] at this
        simpa using this
      | succ i =>
        have := ih i (by simpa using hi)
        rw [List.append_assoc] at this
        exact this
theorem pops_len : ∀ (k : Nat) (stk out : List Nat) (one : Nat), (pops k stk out one).1.length + (pops k stk out one).2.length = stk.length + out.length ∧ ∀ d ∈ (pops k stk out one).1, d ∈ stk := by
  intro k
  induction k with
  | zero => intros; exact ⟨rfl, fun _ h => h⟩
  | succ k ih =>
    intro stk out one
    cases stk with
    | nil => exact ⟨rfl, fun _ h => h⟩
    | cons t stk =>
      by_cases h : t < one
      · rw [pops_go' h]
        obtain ⟨h1, h2⟩ := ih stk (out ++ [t]) one
        exact ⟨by rw [h1]; simp; omega, fun d hd => .tail _ (h2 d hd)⟩
      · rw [pops_stop' h]
        exact ⟨rfl, fun _ h => h⟩
theorem passSt_len (n : Nat) (l : List Nat) : (passSt n l).1.length + (passSt n l).2.length = l.length ∧ ∀ d ∈ (passSt n l).1, d ∈ l := by
  have key : ∀ (k : Nat) (l : List Nat), l.length = k → (passSt n l).1.length + (passSt n l).2.length = l.length ∧ ∀ d ∈ (passSt n l).1, d ∈ l := by
    intro k
    induction k with
    | zero => intro l hl; rw [List.eq_nil_of_length_eq_zero hl]; exact ⟨rfl, fun _ h => h⟩
    | succ k ih =>
      intro l hl
      rcases List.eq_nil_or_concat l with rfl | ⟨l', d, rfl⟩
      · cases hl
      · rw [List.concat_eq_append] at hl ⊢
        obtain ⟨h1, h2⟩ := ih l' (by simpa using hl)
        obtain ⟨h3, h4⟩ := pops_len n (passSt n l').1 (passSt n l').2 d
        rw [passSt_snoc]
        refine ⟨?_, fun x hx => ?_⟩
        · show (d :: (pops n (passSt n l').1 (passSt n l').2 d).1).length + (pops n (passSt n l').1 (passSt n l').2 d).2.length = _
          rw [List.length_cons, List.length_append]; simp; omega
        · rcases List.mem_cons.mp hx with rfl | hx
          · exact List.mem_append_right _ (.head _)
          · exact List.mem_append_left _ (h2 x (h4 x hx))
  exact key _ l rfl
theorem passOk_of {n : Nat} {r s o : List Nat} (hn : n = 5 ∨ n = 6) (hp : r.Perm (List.range' 1 n)) (h : passB n (r ++ [n + 1]) [] [] [] = some (s, o)) (hs : s = [n + 1]) : PassOk n r ∧ (passSt n (r ++ [n + 1])).2 = o := by
  obtain ⟨e, hc⟩ := passB_sound h
  have hl : r.length = n := by rw [hp.length_eq, List.length_range']
  have hr : ∀ d ∈ r, 1 ≤ d ∧ d ≤ 7 := fun d hd => by
    have := hp.mem_iff.mp hd
    rw [List.mem_range'_1] at this
    omega
  refine ⟨⟨hl, by omega, hr, fun i hi => ?_, fun i hi => ?_, ?_⟩, ?_⟩
  · obtain ⟨h1, h2⟩ := passSt_len n ((r ++ [n + 1]).take i)
    have h3 : ((r ++ [n + 1]).take i).length ≤ 7 := by rw [List.length_take]; omega
    refine ⟨by omega, fun d hd => ?_, by omega⟩
    rcases List.mem_append.mp (List.mem_of_mem_take (h2 d hd)) with h | h
    · exact hr d h
    · rw [List.mem_singleton.mp h]; omega
  · have := hc i (by simp; omega)
    rw [List.nil_append] at this
    exact this
  · show ((r ++ [n + 1]).foldl (passStep n) ([], [])).1 = _
    rw [e, hs]
  · show ((r ++ [n + 1]).foldl (passStep n) ([], [])).2 = _
    rw [e]

end Mine
namespace Mine
local macro_rules | `(tactic| omega) => `(tactic| first | assumption | exact Nat.ne_of_lt (by assumption) | exact Nat.ne_of_gt (by assumption) | exact Nat.le_of_lt (by assumption) | lia | omega (config := {}))
def ordOnce (n : Nat) (r : List Nat) : List Nat := (passSt n (r ++ [n + 1])).2
def ordTwice (n : Nat) (r : List Nat) : List Nat := (passSt n (ordOnce n r ++ [n + 1])).2
structure PairsOk (n : Nat) (r r' : List Nat) : Prop where
  len : r.length = n
  len' : r'.length = n
  chk : ∀ high low, 2 ≤ high → high ≤ n → 1 ≤ low → low < high → subq [high, low] r' = (List.range' (high + 1) (n - high)).any fun more => subq [high, more, low] r
  fin : decide (r' = r) = decide (r = List.range' 1 n)
structure LawOk (n : Nat) (r : List Nat) : Prop where
  hn : n = 5 ∨ n = 6
  perm : r.Perm (List.range' 1 n)
  p1 : PassOk n r
  p2 : PassOk n (ordOnce n r)
  c1 : PairsOk n r (ordOnce n r)
  c2 : PairsOk n (ordOnce n r) (ordTwice n r)
  nodup : (ordTwice n r).Nodup
  lastn : ∃ r0 mid, ordTwice n r = r0 :: (mid ++ [n])
  hard : decide (ordTwice n r = List.range' 1 n) = !hardQ r n
  small : ∀ x : List Nat, (x = r ∨ x = ordOnce n r ∨ x = ordTwice n r) → x.length = n ∧ ∀ d ∈ x, d < 8
theorem pairs_of {n : Nat} {r r' : List Nat} (hl : r.length = n) (hl' : r'.length = n) (h : pairsB n r r' = true) : PairsOk n r r' := by
  unfold pairsB at h
  rw [Bool.and_eq_true] at h
  refine ⟨hl, hl', fun high low h1 h2 h3 h4 => ?_, ?_⟩
  · have h5 := List.all_eq_true.mp h.1 high (by rw [List.mem_range'_1]; omega)
    have h6 := List.all_eq_true.mp h5 low (by rw [List.mem_range'_1]; omega)
    have h7 := eq_of_beq h6
    simp only [subqB_eq] at h7
    exact h7
  · have := eq_of_beq h.2
    rw [eqB_eq, eqB_eq] at this
    exact this
theorem perm_facts {n : Nat} {x : List Nat} (hn : n = 5 ∨ n = 6) (h : x.Perm (List.range' 1 n)) : x.length = n ∧ (∀ d ∈ x, d < 8) ∧ x.Nodup := by
  refine ⟨by rw [h.length_eq, List.length_range'], fun d hd => ?_, h.nodup_iff.mpr (List.nodup_range' ..)⟩
  have := h.mem_iff.mp hd
  rw [List.mem_range'_1] at this
  omega
theorem law_of {n : Nat} {r : List Nat} (hn : n = 5 ∨ n = 6) (hp : r.Perm (List.range' 1 n)) (h : lawB n r = true) : LawOk n r := by
  unfold lawB at h
  cases h1 : passB n (r ++ [n + 1]) [] [] [] with
  | none => rw [h1] at h; cases h
  | some so =>
    obtain ⟨s1, o⟩ := so
    rw [h1] at h
    dsimp only at h
    rw [Bool.and_eq_true, Bool.and_eq_true] at h
    obtain ⟨⟨hs1, hc1⟩, h⟩ := h
    cases h2 : passB n (o ++ [n + 1]) [] [] [] with
    | none => rw [h2] at h; cases h
    | some so2 =>
      obtain ⟨s2, tw⟩ := so2
      rw [h2] at h
      dsimp only at h
      simp only [Bool.and_eq_true] at h
      obtain ⟨⟨⟨⟨⟨hs2, hc2⟩, hpt⟩, hpo⟩, hz⟩, hh⟩ := h
      have hpt := permB_sound hpt
      have hpo := permB_sound hpo
      obtain ⟨p1, e1⟩ := passOk_of hn hp h1 (eqB_sound hs1)
      obtain ⟨p2, e2⟩ := passOk_of hn hpo h2 (eqB_sound hs2)
      have f0 := perm_facts hn hp
      have f1 := perm_facts hn hpo
      have f2 := perm_facts hn hpt
      have eo : ordOnce n r = o := e1
      have et : ordTwice n r = tw := by unfold ordTwice; rw [eo]; exact e2
      refine ⟨hn, hp, p1, by rw [eo]; exact p2, by rw [eo]; exact pairs_of f0.1 f1.1 hc1, by rw [eo, et]; exact pairs_of f1.1 f2.1 hc2, by rw [et]; exact f2.2.2, ?_, ?_, ?_⟩
      · rw [et]
        rcases List.eq_nil_or_concat tw with e | ⟨ini, z, e⟩
        · rw [e] at f2; simp at f2; omega
        · rw [List.concat_eq_append] at e
          subst e
          rw [List.reverse_append] at hz
          have hz' : Nat.beq z n = true := hz
          rw [Nat.eq_of_beq_eq_true hz'] at f2 ⊢
          cases ini with
          | nil => simp at f2; omega
          | cons r0 mid => exact ⟨r0, mid, rfl⟩
      · have := eq_of_beq hh
        rw [eqB_eq, hardQB_eq] at this
        rw [et]; exact this
      · rintro x (rfl | rfl | rfl)
        · exact ⟨f0.1, f0.2.1⟩
        · rw [eo]; exact ⟨f1.1, f1.2.1⟩
        · rw [et]; exact ⟨f2.1, f2.2.1⟩
theorem mem_insAll (x : Nat) (a b : List Nat) : a ++ x :: b ∈ insAll x (a ++ b) := by
  induction a with
  | nil => cases b <;> exact .head _
  | cons y a ih => exact .tail _ (List.mem_map_of_mem ih)
theorem mem_allPerms : ∀ (xs r : List Nat), r.Perm xs → r ∈ allPerms xs := by
  intro xs
  induction xs with
  | nil => intro r h; rw [h.eq_nil]; exact .head _
  | cons x xs ih =>
    intro r h
    have hx : x ∈ r := h.mem_iff.mpr (.head _)
    obtain ⟨a, b, rfl⟩ := List.append_of_mem hx
    have h2 : (a ++ b).Perm xs := (List.perm_middle.symm.trans h).cons_inv
    exact List.mem_flatMap.mpr ⟨a ++ b, ih _ h2, mem_insAll x a b⟩
theorem chk5 : (allPerms [1, 2, 3, 4, 5]).all (lawB 5) = true := by decide +kernel
theorem chk6a : ((allPerms [2, 3, 4, 5, 6]).take 24).all (fun p => (insAll 1 p).all (lawB 6)) = true := by decide +kernel
theorem chk6b : (((allPerms [2, 3, 4, 5, 6]).drop 24).take 24).all (fun p => (insAll 1 p).all (lawB 6)) = true := by decide +kernel
theorem chk6c : (((allPerms [2, 3, 4, 5, 6]).drop 48).take 24).all (fun p => (insAll 1 p).all (lawB 6)) = true := by decide +kernel
theorem chk6d : (((allPerms [2, 3, 4, 5, 6]).drop 72).take 24).all (fun p => (insAll 1 p).all (lawB 6)) = true := by decide +kernel
theorem chk6e : ((allPerms [2, 3, 4, 5, 6]).drop 96).all (fun p => (insAll 1 p).all (lawB 6)) = true := by decide +kernel
theorem chk6 (p : List Nat) (h : p ∈ allPerms [2, 3, 4, 5, 6]) : (insAll 1 p).all (lawB 6) = true := by
  rw [← List.take_append_drop 24 (allPerms [2, 3, 4, 5, 6])] at h
  rcases List.mem_append.mp h with h | h
  · exact List.all_eq_true.mp chk6a p h
  rw [← List.take_append_drop 24 ((allPerms [2, 3, 4, 5, 6]).drop 24), List.drop_drop] at h
  rcases List.mem_append.mp h with h | h
  · exact List.all_eq_true.mp chk6b p h
  rw [← List.take_append_drop 24 (List.drop (24 + 24) (allPerms [2, 3, 4, 5, 6])), List.drop_drop] at h
  rcases List.mem_append.mp h with h | h
  · exact List.all_eq_true.mp chk6c p h
  rw [← List.take_append_drop 24 (List.drop (24 + 24 + 24) (allPerms [2, 3, 4, 5, 6])), List.drop_drop] at h
  rcases List.mem_append.mp h with h | h
  · exact List.all_eq_true.mp chk6d p h
  · exact List.all_eq_true.mp chk6e p h
theorem lawOk_all {n : Nat} {r : List Nat} (hn : n = 5 ∨ n = 6) (hp : r.Perm (List.range' 1 n)) : LawOk n r := by
  refine law_of hn hp ?_
  rcases hn with rfl | rfl
  · exact List.all_eq_true.mp chk5 r (mem_allPerms _ _ hp)
  · have hm := mem_allPerms [1, 2, 3, 4, 5, 6] r hp
    obtain ⟨p, h1, h2⟩ := List.mem_flatMap.mp hm
    exact List.all_eq_true.mp (chk6 p h1) r h2
theorem perm_of_nodup : ∀ {l m : List Nat}, l.Nodup → (∀ d ∈ l, d ∈ m) → l.length = m.length → l.Perm m := by
  intro l
  induction l with
  | nil => intro m _ _ hl; rw [List.eq_nil_of_length_eq_zero hl.symm]
  | cons a l ih =>
    intro m hnd hs hl
    have ha := hs a (.head _)
    have hp := List.perm_cons_erase ha
    have hnd' := List.nodup_cons.mp hnd
    refine (List.Perm.cons a (ih hnd'.2 (fun d hd => ?_) ?_)).trans hp.symm
    · have hne : d ≠ a := fun e => hnd'.1 (e ▸ hd)
      exact (List.mem_erase_of_ne hne).mpr (hs d (.tail _ hd))
    · have := hp.length_eq
      simp at this hl
      omega
theorem cnt_map (f : Int → Bool) (row : List Int) : cnt (row.map f) = row.countP f := by
  unfold cnt
  rw [List.countP_eq_length_filter, List.filter_map, List.length_map]
  rfl
theorem cnt_lt_len {row : List Int} {a : Int} (ha : a ∈ row) : row.countP (fun o => decide (o < a)) < row.length := by
  induction row with
  | nil => cases ha
  | cons x row ih =>
    rw [List.countP_cons, List.length_cons]
    rcases List.mem_cons.mp ha with rfl | h
    · have := List.countP_le_length (p := fun o => decide (o < a)) (l := row)
      simp; omega
    · have := ih h
      split <;> omega
theorem cnt_mono {row : List Int} {a b : Int} (hab : a < b) : row.countP (fun o => decide (o < a)) ≤ row.countP (fun o => decide (o < b)) := by
  apply List.countP_mono_left
  intro x _ h
  simp at h ⊢
  omega
theorem cnt_strict {row : List Int} {a b : Int} (ha : a ∈ row) (hab : a < b) : row.countP (fun o => decide (o < a)) < row.countP (fun o => decide (o < b)) := by
  induction row with
  | nil => cases ha
  | cons x row ih =>
    rw [List.countP_cons, List.countP_cons]
    rcases List.mem_cons.mp ha with rfl | h
    · have := cnt_mono (row := row) hab
      simp [hab]
      omega
    · have := ih h
      by_cases h1 : x < a
      · have h2 : x < b := by omega
        simp [h1, h2]; omega
      · simp only [h1, decide_false, Bool.false_eq_true, if_false]
        split <;> omega
def ranksN (row : List Int) : List Nat := row.map fun one => 1 + row.countP fun o => decide (o < one)
theorem ranks_eq (row : List Int) : ranksOf row = (ranksN row).map fun d : Nat => (d : Int) := by
  unfold ranksOf ranksN
  rw [List.map_map]
  apply List.map_congr_left
  intro one _
  rw [cnt_map]
  simp
theorem ranks_perm {row : List Int} (h : row.Nodup) : (ranksN row).Perm (List.range' 1 row.length) := by
  refine perm_of_nodup ?_ (fun d hd => ?_) (by simp [ranksN])
  · unfold ranksN
    rw [List.Nodup, List.pairwise_map]
    refine h.imp_of_mem fun {a b} ha hb hne e => ?_
    rcases Int.lt_trichotomy a b with hab | hab | hab
    · have := cnt_strict ha hab; omega
    · exact hne hab
    · have := cnt_strict hb hab; omega
  · obtain ⟨a, ha, rfl⟩ := List.mem_map.mp hd
    have := cnt_lt_len ha
    rw [List.mem_range'_1]
    omega
theorem rowStep_nodup {most : Nat} {row : List Int} {x : Int} (h : row.Nodup) : (rowStep most row x).Nodup := by
  unfold rowStep
  split
  · rename_i hc
    rw [List.nodup_append]
    refine ⟨h, by simp, fun a ha b hb e => ?_⟩
    rw [List.mem_singleton.mp hb] at e
    simp at hc
    exact hc.2 a ha e
  · exact h
theorem row_facts (most : Nat) : ∀ (l row : List Int), row.Nodup → row.length ≤ most → (l.foldl (rowStep most) row).Nodup ∧ (l.foldl (rowStep most) row).length ≤ most ∧ (∀ x ∈ row, x ∈ l.foldl (rowStep most) row) ∧
    ((l.foldl (rowStep most) row).length = most ∨ ∀ x ∈ l, x ∈ l.foldl (rowStep most) row) := by
  intro l
  induction l with
  | nil => intro row h1 h2; exact ⟨h1, h2, fun x h => h, .inr fun x h => by cases h⟩
  | cons a l ih =>
    intro row h1 h2
    have hl : (rowStep most row a).length ≤ most := by
      have := rowStep_len (most := most) (row := row) (one := a)
      omega
    obtain ⟨k1, k2, k3, k4⟩ := ih (rowStep most row a) (rowStep_nodup h1) hl
    have hsub : ∀ x ∈ row, x ∈ rowStep most row a := fun x hx => by
      unfold rowStep
      split
      · exact List.mem_append_left _ hx
      · exact hx
    refine ⟨k1, k2, fun x hx => k3 x (hsub x hx), ?_⟩
    rcases k4 with k4 | k4
    · exact .inl k4
    · by_cases hm : row.length < most
      · right
        intro x hx
        rcases List.mem_cons.mp hx with rfl | hx
        · apply k3
          unfold rowStep
          split
          · exact List.mem_append_right _ (.head _)
          · rename_i hc
            simp [hm] at hc
            exact hc
        · exact k4 x hx
      · left
        have e : rowStep most row a = row := by
          unfold rowStep
          rw [if_neg]
          simp; intro h; omega
        have key : ∀ (l row : List Int), row.length = most → (l.foldl (rowStep most) row).length = most := by
          intro l
          induction l with
          | nil => intro row h; exact h
          | cons b l ih2 =>
            intro row h
            have e : rowStep most row b = row := by
              unfold rowStep
              rw [if_neg]
              simp; intro h; omega
            show (l.foldl (rowStep most) (rowStep most row b)).length = most
            rw [e]; exact ih2 row h
        show (l.foldl (rowStep most) (rowStep most row a)).length = most
        rw [e]
        exact key l row (by omega)
theorem law_pure (sc : List Int) : ∃ n r, ranksOf (rowsOf sc) = (r.map fun d : Nat => (d : Int)) ∧ LawOk n r := by
  have hm : mostOf sc = 5 ∨ mostOf sc = 6 := by unfold mostOf; split <;> simp
  obtain ⟨k1, k2, k3, k4⟩ := row_facts (mostOf sc) (sc.take 6 ++ [3, 5, 2, 4, 1]) [] List.nodup_nil (Nat.zero_le _)
  have k1' : (rowsOf sc).Nodup := k1
  have k2' : (rowsOf sc).length ≤ mostOf sc := k2
  have hn : (rowsOf sc).length = 5 ∨ (rowsOf sc).length = 6 := by
    rcases k4 with k4 | k4
    · have k4' : (rowsOf sc).length = mostOf sc := k4
      omega
    · have h5 : 5 ≤ (rowsOf sc).length := by
        have hs : ∀ x ∈ ([3, 5, 2, 4, 1] : List Int), x ∈ rowsOf sc := fun x hx => k4 x (List.mem_append_right _ hx)
        have hlen : ∀ (a b : List Int), a.Nodup → (∀ x ∈ a, x ∈ b) → a.length ≤ b.length := by
          intro a
          induction a with
          | nil => intro b _ _; exact Nat.zero_le _
          | cons x a ih =>
            intro b hnd hs
            have hx := hs x (.head _)
            have hp := List.perm_cons_erase hx
            have hnd' := List.nodup_cons.mp hnd
            have := ih (b.erase x) hnd'.2 fun d hd => (List.mem_erase_of_ne (show d ≠ x by intro e; subst e; exact hnd'.1 hd)).mpr (hs d (.tail _ hd))
            have h2 := hp.length_eq
            simp at h2 ⊢
            omega
        exact hlen [3, 5, 2, 4, 1] (rowsOf sc) (by decide) hs
      omega
  exact ⟨(rowsOf sc).length, ranksN (rowsOf sc), ranks_eq _, lawOk_all hn (ranks_perm k1')⟩

end Mine
namespace Mine
local macro_rules | `(tactic| walk_at "execs cons") => `(tactic| ((try k_made); (try k_gentoks); (with_reducible refine wpAny_execs_cons ?_); (try dsimp only); k_fold))
local macro_rules | `(tactic| omega) => `(tactic| first | assumption | exact Nat.ne_of_lt (by assumption) | exact Nat.ne_of_gt (by assumption) | exact Nat.le_of_lt (by assumption) | lia | omega (config := {}))
local macro_rules | `(tactic| walk_at "call ref") => `(tactic| (k_here; refine Here.out ?_))
local macro_rules | `(tactic| walk_at "eval ListComp") => `(tactic| (k_here; refine Here.out ?_))
local macro_rules | `(tactic| walk_at "CompSrc") => `(tactic| (k_here; refine Here.out ?_))
local macro_rules | `(tactic| walk_at "call builtin:len") => `(tactic| (k_here; refine Here.out ?_))
local macro_rules | `(tactic| walk_at "call builtin:sorted") => `(tactic| (k_here; refine Here.out ?_))
local macro_rules | `(tactic| walk_at "call type:range") => `(tactic| (k_here; k_dflt (refine range1_rows (by assumption) (by assumption) ?_); refine Here.out ?_))
local macro_rules | `(tactic| walk_at "subscriptTail Name Name ref int") => `(tactic| (k_here; refine Here.out ?_))
local macro_rules | `(tactic| walk_at "call builtin:str.join") => `(tactic| (k_here; refine Here.out ?_))
local macro_rules | `(tactic| walk_at "subscriptTail Name Call ref int") => `(tactic| (k_here; refine Here.out ?_))
local macro_rules | `(tactic| walk_at "subscriptTail Name Call cons nil ref int") => `(tactic| (k_here; refine Here.out ?_))
local macro_rules | `(tactic| walk_at "subscriptTail Name Call Name cons nil ref int") => `(tactic| (k_here; refine Here.out ?_))
local macro_rules | `(tactic| walk_at "compareOp IsNot bool bool") => `(tactic| (k_here; refine Here.out ?_))
local macro_rules | `(tactic| walk_at "call builtin:chr") => `(tactic| (k_here; refine Here.out ?_))
theorem base_pure (x : Int) : ∃ b : Nat, 48 + (x.fdiv 30).fmod 55000 = (b : Int) ∧ 48 ≤ b ∧ b ≤ 55047 := by
  refine ⟨48 + ((x.fdiv 30).fmod 55000).toNat, ?_⟩
  have h1 := Int.fmod_nonneg_of_pos (x.fdiv 30) (by decide : (0 : Int) < 55000)
  have h2 := Int.fmod_lt_of_pos (x.fdiv 30) (by decide : (0 : Int) < 55000)
  omega
theorem width_pure (x : Int) : ∃ wd : Nat, 3 + x.fmod 30 = (wd : Int) ∧ 3 ≤ wd ∧ wd ≤ 32 := by
  refine ⟨3 + (x.fmod 30).toNat, ?_⟩
  have h1 := Int.fmod_nonneg_of_pos x (by decide : (0 : Int) < 30)
  have h2 := Int.fmod_lt_of_pos x (by decide : (0 : Int) < 30)
  omega
def tb0 : Tb := ⟨tabObj #[], 37, tabObj #[], tabObj #[], 44, tabObj #[]⟩
theorem tb0_ok : tb0.Ok := ⟨.inl ⟨rfl, rfl, rfl⟩, .inl ⟨rfl, rfl, rfl⟩⟩
theorem plain_gh {h : Heap} {t : Tb} {a : Addr} {vs : List Value} {n : Nat} (e : h.get? a = some (lsO vs n)) (hO : a ∉ t.ads) : (gh h t).PlainList a vs.toArray := ⟨n, gh_get e hO⟩
theorem reordL {g h : Heap} {L : Addr} {la ds c2 c1 e44 e37 : Addr × Obj} (N : News g L h [la, ds, c2, c1, e44, e37]) : News g L h [e37, e37, e44, e44, la, ds, c2, c1] := fun p hp => N p (sub [5, 5, 4, 4, 0, 1, 2, 3] p hp)
theorem alone_pure {b n r0 z : Nat} {r mid : List Nat} (hr : r.length = n) (hn : n = 5 ∨ n = 6) (hrm : r = r0 :: (mid ++ [z])) (hnd : r.Nodup) :
    r.filter (fun k => ellDots (sg b k) [] (Str.ofString "") (strOf b r)) = [r0] ∧
    r.filter (fun k => ellDots (Str.ofString "") [] (sg b k) (strOf b r)) = [z] ∧
    r.filter (fun k => ellDots (sg b r0) [sg b k] (sg b z) (strOf b r)) = mid ∧
    (List.range (n + 1)).filter (fun k => strOf b (r.take k) == strOf b r) = [n] ∧
    (List.range 4).filter (fun k => ellDots (sg b r0) [] (sg b r0) (strOf b (List.replicate k r0))) = [2, 3] ∧
    (List.range 4).filter (fun k => ellDots (Str.ofString "") [sg b r0, sg b r0] (Str.ofString "") (strOf b (List.replicate k r0))) = [2, 3] := by
  exact alone_pureP hr hn hrm hnd
theorem cast_eq (a b : List Nat) : decide ((a.map fun d : Nat => (d : Int)) = b.map fun d : Nat => (d : Int)) = decide (a = b) := by
  have h : ((a.map fun d : Nat => (d : Int)) = b.map fun d : Nat => (d : Int)) ↔ a = b := by
    refine ⟨fun e => ?_, fun e => by rw [e]⟩
    induction a generalizing b with
    | nil => cases b with
      | nil => rfl
      | cons _ _ => cases e
    | cons x a ih => cases b with
      | nil => cases e
      | cons y b =>
        simp only [List.map_cons, List.cons.injEq] at e
        rw [ih b e.2, show x = y by omega]
  exact decide_eq_decide.mpr h
theorem LR.three {α : Type} {f : α → Str} {x y z : α} {vs : List Value} (h : LR StrV ([x, y, z].map f) vs) : ∃ t u v, vs = [.str (f x) t, .str (f y) u, .str (f z) v] := by
  cases h with
  | cons r1 h2 =>
  obtain ⟨s1, rfl⟩ := r1
  cases h2 with
  | cons r2 h3 =>
  obtain ⟨s2, rfl⟩ := r2
  cases h3 with
  | cons r3 h4 =>
  obtain ⟨s3, rfl⟩ := r3
  cases h4
  exact ⟨_, _, _, rfl⟩
theorem law_holds : PySem.Challenge.rw_ti0023_01.Holds := hd (by
  k_go0
  (rename CellsAre _ _ _ => Y0); (rename News _ _ _ _ => N0); (rename Fr _ _ _ _ => F0); (rename IntsAre _ _ => hI0)
  obtain ⟨m0, F0⟩ : ∃ m0, Fr _ _ _ m0 := ⟨_, F0⟩
  rename Shared => s1
  rename _ ∧ _ => l0
  generalize s1.heap.objs.size = L0 at F0 N0 Y0 l0 ⊢
  refine wpKE ?_
  intro K0 E0 hK0
  k_steps
  rename List Int => sc
  rename World => w9
  refine Here.in ?_
  (rename Top _ _ _ _ _ _ => T9); (rename Frag.In _ _ => X9)
  (rename News _ _ _ _ => N1); (rename Fr _ _ _ _ => F1)
  have Wg : Wd w9 _ := ⟨X9, _, _, _, _, _, T9⟩
  refine LCg.ListComp_U (F₀ := F1) (by with_unfolding_all rfl) (by decide) (by rfl) (by decide) (by rfl) ?_
  k_steps
  refine Here.in ?_
  intro h2 tk2 t2 u2 v2 R2 F2 N2 K2
  (try k_steps)
  try refine Here.in ?_
  refine LCg.CompSrc.range (n := 8) rfl F2 N2 R2 (small_one (by omega) (by omega) (by omega) (by omega)) (by rw [rangeSize_nat]; rfl) (by rw [sizeLine_eq]; omega) ?_
  intro g'
  obtain ⟨b, hb, hb48, hb55⟩ := base_pure sc.sum
  obtain ⟨wd, hwd, hw3, hw32⟩ := width_pure sc.sum
  refine restN (g := fun (k : Nat) t => .int (k : Int) t) (R' := StrV) (as := List.range 8) List.length_range (sg b) trivial ?_ ?_ ?_
  · rintro q v hq ⟨t, rfl⟩
    exact ⟨q, by rw [List.getElem?_range hq], t, by congr 1; omega⟩
  · intro k t I3 oI3 C oC D m₂ ys sh E' hk hC hx F N off ne K hK
    have hk8 := List.mem_range.mp hk
    k_steps
    refine Here.in ?_
    (rename News _ _ _ _ => N9); (rename Fr _ _ _ _ => F9)
    rw [hb]
    refine chr_of_range (by omega) (by omega) ?_
    (refine hK _ _ ?_); exact CEnd.intro F9 N9 (fun p hp => hp) ⟨_, by unfold sg; congr 4⟩
  · intro ys hys
    k_steps
    refine Here.in ?_
    obtain ⟨n, r, hrk, hok⟩ := law_pure sc
    (rename News _ _ _ _ => N9); (rename Fr _ _ _ _ => F9); rename Obj => oS
    rename_i hL9
    refine useL (order_spec (sc := sc) ⟨rfl, by show 1 + claimMargin + 1 + 4 < 1000; decide, by show 4 + 3 + 100 * 4 + 100 < 9900; decide⟩ (Wg.keeps F9.keep) (by omega) (by exact Heap.IsList.at (by assumption) fun o e => F9.keep _ _ e) (LR.ofInts hI0)) F9 N9 ?_
    intro la lv ln h5 tk5 hlv F10 N10 ane
    rw [hrk] at hlv
    have hlv := hlv.unmap
    clear F9 N9
    k_steps
    refine Here.in ?_
    rw [hwd]
    have y1 := ane.hd
    have y2 := ane.tl.hd
    have y3 := ane.tl.tl.hd
    have y4 := ane.tl.tl.tl.hd
    have y5 := ane.tl.tl.tl.tl.hd
    (rename News _ _ _ _ => N11); (rename Fr _ _ _ _ => F11)
    have N12 : News _ _ _ (tb0.led ++ [_, _, _, _]) := reordL N11
    have hla : la ∉ tb0.ads := by
      simp only [tb0, Tb.ads, List.mem_cons, List.not_mem_nil, or_false]; rintro (e | e | e | e) <;> (have e' : @Eq Nat _ _ := e; omega)
    refine useLT (pass_spec (r := r) (n := n) (wd := wd) ⟨rfl, by show 1 + claimMargin + 1 + 30 < 1000; decide, by show 4 + 3 + 100 * 30 + 100 < 9900; decide⟩ (wd_gh Wg F11 N12) (tb_at N12 tb0_ok) (plain_gh (N12 (la, lsO lv ln) (.tail _ (.tail _ (.tail _ (.tail _ (.head _)))))).1 hla) hlv hok.p1 ⟨hw3, hw32⟩) F11 N12 ?_ ?_
    · refine ⟨hla, ?_, ?_, ?_, trivial⟩ <;> (simp only [tb0, Tb.ads, List.mem_cons, List.not_mem_nil, or_false]; rintro (e | e | e | e) <;> (have e' : @Eq Nat _ _ := e; omega))
    intro l1 v1 n1 h7 tk7 t1 hv1 F13 N13 ok1 O13 an1
    clear F11 N11 N12
    simp only [Tb.led, List.cons_append, List.nil_append] at N13
    k_steps
    refine Here.in ?_
    rw [hwd]
    (rename News _ _ _ _ => N14); (rename Fr _ _ _ _ => F14)
    have N15 : News _ _ _ (t1.led ++ [(l1, lsO v1 n1), (la, lsO lv ln), _, _, _]) := N14
    refine useLT (pass_spec (r := ordOnce n r) (n := n) (wd := wd) ⟨rfl, by show 1 + claimMargin + 1 + 30 < 1000; decide, by show 4 + 3 + 100 * 30 + 100 < 9900; decide⟩ (wd_gh Wg F14 N15) (tb_at N15 ok1) (plain_gh (N15 (l1, lsO v1 n1) (.tail _ (.tail _ (.tail _ (.tail _ (.head _)))))).1 O13.1) hv1 hok.p2 ⟨hw3, hw32⟩) F14 N15 O13 ?_
    intro l2 v2 n2 h8 tk8 t2 hv2 F16 N16 ok2 O16 an2
    clear F14 N14 N15
    simp only [Tb.led, List.cons_append, List.nil_append] at N16
    k_steps
    refine Here.in ?_
    (rename News _ _ _ _ => N17); (rename Fr _ _ _ _ => F17)
    refine LCg.ListComp_U (F₀ := F17) (by with_unfolding_all rfl) (by decide) (by rfl) (by decide) (by rfl) ?_
    k_steps
    refine Here.in ?_
    (rename News _ _ _ _ => N18); (rename Fr _ _ _ _ => F18)
    refine LCg.CompSrc.ledger (its := #[.ref la, .ref l1, .ref l2]) rfl F18 N18 (by k_mem) (by rw [sizeLine_eq]; exact (by decide : 3 ≤ 16777216)) ?_
    intro g2
    have hc1 := hok.c1
    have hc2 := hok.c2
    have hlv0 := hlv.length
    have hlv1 := hv1.length
    have hlv2 := hv2.length
    have hr6 := hok.small
    have key : ∀ q ∈ [(r, la, lv, ln), (ordOnce n r, l1, v1, n1), (ordTwice n r, l2, v2, n2)], LR NumV q.1 q.2.2.1 ∧ (q.1 = r ∨ q.1 = ordOnce n r ∨ q.1 = ordTwice n r) ∧ ((q.2.1, lsO q.2.2.1 q.2.2.2) = (la, lsO lv ln) ∨ (q.2.1, lsO q.2.2.1 q.2.2.2) = (l1, lsO v1 n1) ∨ (q.2.1, lsO q.2.2.1 q.2.2.2) = (l2, lsO v2 n2)) := fun q hq => by
      simp only [List.mem_cons, List.not_mem_nil, or_false] at hq
      rcases hq with rfl | rfl | rfl
      · exact ⟨hlv, .inl rfl, .inl rfl⟩
      · exact ⟨hv1, .inr (.inl rfl), .inr (.inl rfl)⟩
      · exact ⟨hv2, .inr (.inr rfl), .inr (.inr rfl)⟩
    refine restN (g := fun (q : List Nat × Addr × List Value × Nat) _ => .ref q.2.1) (R' := StrV) (as := [(r, la, lv, ln), (ordOnce n r, l1, v1, n1), (ordTwice n r, l2, v2, n2)]) rfl (fun q => strOf b q.1) (.inr ⟨_, by k_mem, rfl, _, rfl⟩) ?_ ?_ ?_
    · intro i v hi hv
      have hi3 : i < 3 := hi
      rcases (by omega : i = 0 ∨ i = 1 ∨ i = 2) with rfl | rfl | rfl
      · simp at hv; subst hv; exact ⟨_, rfl, (0 : Nat), rfl⟩
      · simp at hv; subst hv; exact ⟨_, rfl, (0 : Nat), rfl⟩
      · simp at hv; subst hv; exact ⟨_, rfl, (0 : Nat), rfl⟩
    · intro q _ I3 oI3 C oC D m₂ ys2 sh E' hx1 hC hx F N off ne K hK
      obtain ⟨hxv, hx3, hcase⟩ := key q hx1
      obtain ⟨x, a, vs, k⟩ := q
      dsimp only at hxv hx3 hcase hx
      obtain ⟨hxn, hx8⟩ := hr6 x hx3
      have hxl := hxv.length
      k_steps
      refine Here.in ?_
      (rename News _ _ _ _ => N19); (rename Fr _ _ _ _ => F19)
      refine LCg.ListComp_U (F₀ := F19) (by with_unfolding_all rfl) (by decide) (by rfl) (by decide) (by rfl) ?_
      k_steps
      refine Here.in ?_
      have hmem : ∀ l : List (Addr × Obj), (la, lsO lv ln) ∈ l → (l1, lsO v1 n1) ∈ l → (l2, lsO v2 n2) ∈ l → (a, lsO vs k) ∈ l := fun l m1 m2 m3 => by
        rcases hcase with h | h | h
        · rw [h]; exact m1
        · rw [h]; exact m2
        · rw [h]; exact m3
      refine LCg.CompSrc.ledger (its := vs.toArray) (k := k) rfl F19 N19 (hmem _ (by k_mem) (by k_mem) (by k_mem)) (by rw [sizeLine_eq, List.size_toArray]; rcases hok.hn with h | h <;> omega) ?_
      intro g3
      refine restN (g := fun (k : Nat) t => .int (k : Int) t) (R' := StrV) (as := x) (by rw [List.size_toArray, hxl]) (sg b) (.inr ⟨_, hmem _ (by k_mem) (by k_mem) (by k_mem), rfl, _, rfl⟩) (fun i v _ hv => hxv.get i v (by simpa using hv)) ?_ ?_
      · intro d t I4 oI4 C4 oC4 D4 m₃ ys3 sh E3 hd hC4 hx4 F N off2 ne2 K hK
        have hd8 := hx8 d hd
        clear off off2 ne2 ne
        k_steps
        refine Here.in ?_
        (rename News _ _ _ _ => Na); (rename Fr _ _ _ _ => Fa)
        refine item_LR (by exact News.isList (items := ys.toArray) (n := ys.length) Na (by k_mem)) hys (sgs_get hd8) (by simp [sgs]) ?_
        intro v hv
        (refine hK _ _ ?_); exact CEnd.intro Fa Na (fun p hp => hp) hv
      · intro zs hzs
        clear off ne
        k_steps
        refine Here.in ?_
        (rename News _ _ _ _ => Na); (rename Fr _ _ _ _ => Fa)
        refine join_K (by exact News.isList (items := zs.toArray) (n := zs.length) Na (.head _)) hzs (fun y hy => by obtain ⟨k, _, rfl⟩ := List.mem_map.mp hy; exact (by decide : 1 ≤ 1000)) (by rw [List.length_map]; rcases hok.hn with h | h <;> omega) (by decide) ?_
        rw [join_signs]
        intro tj kj
        k_steps
        (refine hK _ _ ?_); exact CEnd.intro (by assumption) (by assumption) (by exact fun p hp => sub [1, 2, 3, 4, 5, 6, 7, 8, 9, 10, 11, 12, 13, 14] p hp) ⟨tj, rfl⟩
    · intro zs hzs
      clear N18 F18
      obtain ⟨s1, s2, s3, rfl⟩ := LR.three hzs
      k_steps
      refine Here.in ?_
      (rename News _ _ _ _ => Na); (rename Fr _ _ _ _ => Fa)
      refine useB (pairs_spec (n := n) (r := r) (r' := ordOnce n r) ⟨rfl, by show 1 + claimMargin + 1 + 4 < 1000; decide, by show 4 + 3 + 100 * 4 + 100 < 9900; decide⟩ (Wg.keeps Fa.keep) hb48 (by exact News.isList (items := ys.toArray) (n := ys.length) Na (by k_mem)) hys hc1.len hc1.len' hok.hn hc1.chk hc1.fin) Fa Na ?_
      intro h21 tk21 Fb Nb
      clear Fa Na
      k_steps
      refine Here.in ?_
      (rename News _ _ _ _ => Na); (rename Fr _ _ _ _ => Fa)
      refine useB (pairs_spec (n := n) (r := ordOnce n r) (r' := ordTwice n r) ⟨rfl, by show 1 + claimMargin + 1 + 4 < 1000; decide, by show 4 + 3 + 100 * 4 + 100 < 9900; decide⟩ (Wg.keeps Fa.keep) hb48 (by exact News.isList (items := ys.toArray) (n := ys.length) Na (by k_mem)) hys hc2.len hc2.len' hok.hn hc2.chk hc2.fin) Fa Na ?_
      intro h22 tk22 Fb Nb
      clear Fa Na
      k_steps
      refine Here.in ?_
      refine lenL_K (vs := lv) (by exact News.isList (items := lv.toArray) (n := ln) Nb (by k_mem)) (hlv0.trans hc1.len) (by rcases hok.hn with h | h <;> omega) ?_
      intro t23 k23
      k_steps
      refine Here.in ?_
      obtain ⟨r0, mid, hrm⟩ := hok.lastn
      have hA := alone_pure (b := b) hc2.len' hok.hn hrm hok.nodup
      (rename News _ _ _ _ => Na); (rename Fr _ _ _ _ => Fa)
      refine item_LR (by exact News.isList (items := ys.toArray) (n := ys.length) Na (by k_mem)) hys (sgs_get (show n < 8 by rcases hok.hn with h | h <;> omega)) (by simp) ?_
      rintro v ⟨tz, rfl⟩
      k_steps
      refine Here.in ?_
      refine useB (alone_spec (n := n) (r := ordTwice n r) ⟨rfl, by show 1 + claimMargin + 1 + 3 < 1000; decide, by show 4 + 3 + 100 * 3 + 100 < 9900; decide⟩ (Wg.keeps Fa.keep) hb48 hc2.len' hok.hn hrm hA.1 hA.2.1 hA.2.2.1 hA.2.2.2.1 hA.2.2.2.2.1 hA.2.2.2.2.2) Fa Na ?_
      intro h24 tk24 Fb Nb
      clear Fa Na
      k_steps
      refine Here.in ?_
      (rename News _ _ _ _ => Na); (rename Fr _ _ _ _ => Fa)
      refine useB (ell_plain ⟨rfl, by show 1 + claimMargin + 1 + 1 < 1000; decide, by show 4 + 3 + 100 * 1 + 100 < 9900; decide⟩ (Wg.keeps Fa.keep) (occ_dotless (strOf_dotless hb48))) Fa Na ?_
      rw [strOf_eq]
      intro h25 tk25 Fb Nb
      clear Fa Na
      k_steps
      refine Here.in ?_
      (rename News _ _ _ _ => Na); (rename Fr _ _ _ _ => Fa)
      refine useB (eq_list_spec ⟨rfl, by show 1 + claimMargin + 1 + 1 < 1000; decide, by show 4 + 3 + 100 * 1 + 100 < 9900; decide⟩ (Wg.keeps Fa.keep) (by exact News.isList (items := v1.toArray) (n := n1) Na (by k_mem)) (by exact News.isList (items := v2.toArray) (n := n2) Na (by k_mem)) hv1.intsN hv2.intsN) Fa Na ?_
      rw [cast_eq, show (passSt n (r ++ [n + 1])).2 = ordOnce n r from rfl, show (passSt n (ordOnce n r ++ [n + 1])).2 = ordTwice n r from rfl]
      intro h26 tk26 Fb Nb
      clear Fa Na
      generalize decide (ordOnce n r = ordTwice n r) = e12
      k_steps
      refine Here.in ?_
      refine wpAny_isNot_self (by cases e12 <;> rfl) ?_
      k_steps
      refine Here.in ?_
      (rename News _ _ _ _ => Na); (rename Fr _ _ _ _ => Fa)
      refine kso_sorted Fa Na (by exact News.isList (items := lv.toArray) (n := ln) Na (by k_mem)) hlv.intsN (by rw [List.length_map]; have := hc1.len; rcases hok.hn with h | h <;> omega) ?_
      intro Ds ws ns' cs h28 F28 N28 lS hws hwl hperm hpw _
      have hns : ns' = (List.range' 1 n).map fun d : Nat => (d : Int) := sorted_eq (hperm.trans (hok.perm.map _)) hpw (by rcases hok.hn with h | h <;> (rw [h]; decide))
      subst hns
      clear Na Fa
      k_steps
      refine Here.in ?_
      refine useB (eq_list_spec ⟨rfl, by show 1 + claimMargin + 1 + 1 < 1000; decide, by show 4 + 3 + 100 * 1 + 100 < 9900; decide⟩ (Wg.keeps F28.keep) (by exact News.isList (items := v2.toArray) (n := n2) N28 (by k_mem)) (by exact News.isList (items := ws.toArray) (n := cs) N28 (.head _)) hv2.intsN hws) F28 N28 ?_
      rw [cast_eq, show (passSt n (ordOnce n r ++ [n + 1])).2 = ordTwice n r from rfl, hok.hard]
      intro h29 tk29 Fb Nb
      clear F28 N28
      k_steps
      refine Here.in ?_
      (rename News _ _ _ _ => Na); (rename Fr _ _ _ _ => Fa)
      refine useB (hard_spec (n := n) (r := r) ⟨rfl, by show 1 + claimMargin + 1 + 4 < 1000; decide, by show 4 + 3 + 100 * 4 + 100 < 9900; decide⟩ (Wg.keeps Fa.keep) hb48 (by exact News.isList (items := ys.toArray) (n := ys.length) Na (by k_mem)) hys hc1.len hok.hn) Fa Na ?_
      intro h30 tk30 Fc Nc
      clear Fa Na
      have hnot : ∀ q : Bool, Value.bool (!q) ≠ Value.bool q := fun q => by cases q <;> (intro x; cases x)
      have hpl : ∀ q : Bool, plainIs (Value.bool (!q)) (Value.bool q) = true := fun q => rfl
      have hnq := hnot (hardQ r n)
      have hpq := hpl (hardQ r n)
      generalize hardQ r n = q at hnq hpq ⊢
      k_steps
      refine Here.in ?_
      refine wpAny_isNot_other hpq hnq ?_
      have gk : ∀ (P : Addr) (q : Str) (l k : Nat) (o : Obj) (c : Addr) (oc : Obj), TabW P q l k o c oc → ∃ ps, o = tabObj ps := fun P q l k o c oc h => by
        rcases h with ⟨h, _, _⟩ | ⟨h, _⟩
        · exact ⟨_, h⟩
        · exact ⟨_, h⟩
      obtain ⟨ps1, hp1⟩ := gk _ _ _ _ _ _ _ ok2.1
      obtain ⟨ps2, hp2⟩ := gk _ _ _ _ _ _ _ ok2.2
      have m44 : Heap.get? _ 44 = some t2.o2 := (Nc (44, t2.o2) (by k_mem)).1
      have m37 : Heap.get? _ 37 = some t2.o1 := (Nc (37, t2.o1) (by k_mem)).1
      (refine hK0 _ _ ?_); refine ⟨⟨.inl ⟨.bool true, .bool true, [], rfl, fun _ => rfl, .bool _, (by wrow_post), fun _ => ⟨List.nodup_nil, fun a ha => nomatch ha⟩⟩, Fc.keep, rfl, by assumption⟩, ⟨ps2, ?_⟩, ⟨ps1, ?_⟩, trivial⟩
      · rw [← hp2]; exact m44
      · rw [← hp1]; exact m37)

end Mine
theorem PySem.Challenge.cw_ti0023_01_holds : PySem.Challenge.rw_ti0023_01.Holds :=
  Mine.law_holds
