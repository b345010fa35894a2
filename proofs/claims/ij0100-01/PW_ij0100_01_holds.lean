import PyProof.Rows.All
import Wide.All
import OpenK.AllK
import Wide.FinOn
import PySem.Challenge.RW_ij0100_01
set_option Elab.async false
set_option linter.unusedVariables false
set_option linter.unusedSimpArgs false
section
open PySem PySem.W PyProof.Rows
namespace Mine
/-- the heap behind the program's top, as the head of the walk writes it out; no claim is made here -/
local macro_rules | `(tactic| o_head $_) => `(tactic| assumption)
theorem box (h : PySem.Challenge.rw_ij0100_01.row.Holds) : PySem.Challenge.rw_ij0100_01.row.Holds := by k_head
end Mine

end
section
open PySem PySem.W PySem.Calls PyProof.Rows
namespace Mine
abbrev Ctr (r : Nat) (w : World) (f : Addr) (vs : List Value) (news : List (Addr × Obj)) (Ret : Value → List (Addr × Obj) → Prop) : Prop :=
  ∀ (p : Program) (loose : List Str) (mean : ExcName → Option Value) (mg mb : Str → Option Value) (dp un : Nat) (gd : Option (List Code)) (cn : Str) (cs : Scope) (a : Addr) (ccd : Value) (cl : List (Str × Addr)) (outer : List Env) (A₀ : Around) (base h₀ : Heap) (L : Addr) (m : Str → Option Value) (h9 : Heap) (gs9 dr9 tk9 os9) (Q E : Value → Shared → Prop),
    Below A₀ base outer h₀ → Fr h₀ L h9 m → (Mine.box.heap_1 w.params).In h₀ → News h₀ L h9 news → Top p loose mean mg mb h₀ → cs.kind = .function → dp + r < recursionLimit → un + 10 * r < cLine →
    (∀ (v : Value) (news' : List (Addr × Obj)) (h' : Heap) (tk' : Nat), Ret v news' → Fr h₀ L h' m → News h₀ L h' news' → Q v ⟨h', gs9, dr9, tk', os9⟩) →
    wpAny (model PySem.Challenge.rw_ij0100_01.row.prog w) (ktrTop dp un gd cn cs L a ccd cl outer) (call (.ref f) vs) Q E ⟨h9, gs9, dr9, tk9, os9⟩
section
variable {M : Model} {A : Around} {α β : Type} {t : Sem α} {E : Value → Shared → Prop} {s : Shared}
theorem post_gen {P : α → Shared → Prop} (h : ∀ P' : α → Shared → Prop, (∀ v s, P v s → P' v s) → wpAny M A t P' E s) : wpAny M A t P E s := h P fun _ _ x => x
theorem post_gen2 {u : Sem β} {P : β → Shared → Prop} (h : ∀ P' : β → Shared → Prop, (∀ v s, P v s → P' v s) → wpAny M A t (fun _ s₂ => wpAny M A u P' E s₂) E s) : wpAny M A t (fun _ s₂ => wpAny M A u P E s₂) E s := h P fun _ _ x => x
theorem post_genW {t : Sem Bool} {u : Sem β} {P : β → Shared → Prop} {R : Shared → Prop} (h : ∀ P' : β → Shared → Prop, (∀ v s, P v s → P' v s) → wpAny M A t (fun b s₂ => if b = true then wpAny M A u P' E s₂ else R s₂) E s) : wpAny M A t (fun b s₂ => if b = true then wpAny M A u P E s₂ else R s₂) E s := h P fun _ _ x => x
theorem toks_gen {h : Heap} {g d o} {k : Nat} {P : α → Shared → Prop} (x : ∀ k', wpAny M A t P E ⟨h, g, d, k', o⟩) : wpAny M A t P E ⟨h, g, d, k + 1, o⟩ := x (k + 1)
end
end Mine

end
section
open PySem PySem.W PySem.Calls PyProof.Rows PySem.W.X
set_option linter.unusedVariables false
namespace Mine
abbrev bApp (l : Addr) : Obj := { cls := .type "builtin_function_or_method", data := .fields #[.builtin "list.append", .ref l] }
set_option hygiene false in
local macro_rules | `(tactic| x_close) => `(tactic| (refine hQ _ _ ?_; assumption))
section
variable {prog : Program} {w : World} {M : Model} {A : Around} {E : Value → Shared → Prop} {s : Shared} {K : Frag} {h₀ : Heap} {L : Addr} {m : Str → Option Value} {news : List (Addr × Obj)}

theorem mem_fr {h h' : Heap} {nw : List (Addr × Obj)} (F : Fr h₀ L h m) (N : News h₀ L h news) (D : Mem h h' [] nw) :
    Fr h₀ L h' m ∧ News h₀ L h' (nw ++ news) ∧ (∀ p ∈ nw, ∀ q ∈ news, q.1 ≠ p.1) := by
  have kp : ∀ b o, h.get? b = some o → h'.get? b = some o := fun b o e => D.keep b o e (by show (_ || true) = true; rw [Bool.or_true])
  refine ⟨F.keeps kp, fun p hp => ?_, fun p hp q hq e => ?_⟩
  · rcases List.mem_append.mp hp with hp | hp
    · refine ⟨(D.nw p hp).1, fun e => ?_, ?_⟩
      · obtain ⟨o, _, _, ho, _⟩ := F.ns
        have := (D.nw p hp).2
        rw [e, ho] at this; cases this
      · cases q : h₀.get? p.1 with
        | none => rfl
        | some o => have := F.keep _ _ q; rw [(D.nw p hp).2] at this; cases this
    · exact ⟨kp _ _ (N p hp).1, (N p hp).2⟩
  · have := (D.nw p hp).2
    rw [← e, (N q hq).1] at this; cases this

set_option maxRecDepth 100000 in
set_option maxHeartbeats 4000000 in
theorem x_attr {h : Heap} {g : Array GenState} {d : Drawn} {t tk : Nat} {os : OsState} {Q : Value → Shared → Prop} {l : Addr} {its : Array Value} {n : Nat} (hd : A.depth < recursionLimit) (hu : A.units < cLine)
   (hl : h.get? l = some ({ cls := .type "list", dict := none, data := .seq its n, slots := #[] } : Obj)) (hQ : ∀ a h', Mem h h' [] [(a, bApp l)] → Q (.ref a) ⟨h', g, d, t, os⟩) :
  wpAny (model prog w) A (call (.builtin "list.__getattribute__") [.ref l, .str (Str.ofString "append") tk]) Q E ⟨h, g, d, t, os⟩ := by
  x_run

set_option maxRecDepth 100000 in
set_option maxHeartbeats 4000000 in
theorem x_object {h : Heap} {g : Array GenState} {d : Drawn} {t tk : Nat} {os : OsState} {Q : Value → Shared → Prop} (hd : A.depth < recursionLimit) (hu : A.units < cLine)
   (hQ : ∀ a h', Mem h h' [] [(a, ({ cls := .type "object" } : Obj))] → Q (.ref a) ⟨h', g, d, t, os⟩) :
  wpAny (model prog w) A (call (.type "object") []) Q E ⟨h, g, d, t, os⟩ := by
  x_run

theorem look_ga : typeLookup (.type "list") "__getattribute__" = pure (some (.builtin "list.__getattribute__")) := by
  rw [typeLookup_type, builtinLookup_eq_fast]; kernel_rfl
theorem bind_ga {v : Value} : bindSpecial (.builtin "list.__getattribute__") v = pure (.builtin "list.__getattribute__", [v]) := by
  have ht : typeOf (.builtin "list.__getattribute__") = pure (.type "wrapper_descriptor") := by show builtinType _ = _; rw [builtinType_eq_fast]; kernel_rfl
  unfold bindSpecial
  rw [ht]; rfl
theorem getAttr_append {Q : Value → Shared → Prop} {l : Addr} {its : Array Value} {n : Nat} {ex : Bool} (hd : A.depth < recursionLimit) (hu : A.units < cLine) (F : Fr h₀ L s.heap m) (N : News h₀ L s.heap news)
    (hl : (l, listOf its n) ∈ news)
    (h : ∀ a h', Fr h₀ L h' m → News h₀ L h' ((a, bApp l) :: news) → (∀ q ∈ news, @Ne Nat q.1 a) → Q (.ref a) { s with heap := h', toks := s.toks + 1 }) :
    wpAny (model prog w) A (getAttr (.ref l) (Str.ofString "append") ex) Q E s := by
  obtain ⟨hh, g, d, t, os⟩ := s
  have hg := (N _ hl).1
  unfold getAttr
  refine wpAny_bind (m := mkText _) (wpAny_bind (wpAny_fresh (wpAny_pure ?_)))
  unfold getAttrBy
  refine wpAny_holding (wpAny_bind (wpAny_typeOf (T := "list") ⟨_, hg, rfl⟩ (wpAny_bind (wpAny_of_eq look_ga ?_))))
  dsimp only
  show wpAny _ _ (getAttrByItsOwn _ _ _ _ _ _) _ _ _
  unfold getAttrByItsOwn
  refine wpAny_bind (wpAny_of_eq (a := none) rfl ?_)
  refine wpAny_bind (wpAny_attempt (wpAny_holding ?_))
  rw [show ∀ o nm, callGetattribute o nm (.builtin "list.__getattribute__") ex = boundAndCalled (.builtin "list.__getattribute__") o nm from fun o nm => by cases ex <;> rfl]
  unfold boundAndCalled
  refine wpAny_bind (wpAny_of_eq bind_ga ?_)
  refine x_attr hd hu hg fun a h' D => ?_
  obtain ⟨F', N', o⟩ := mem_fr F N D
  exact wpAny_pure (h a h' F' N' fun q hq => o (a, bApp l) (.head _) q hq)

def BAt (x l : Addr) (h : Heap) : Prop := h.get? x = some (bApp l)
theorem bat_of {x l : Addr} {h : Heap} (N : News h₀ L h news) (hm : (x, bApp l) ∈ news) : BAt x l h := N.get hm
theorem callWith_bApp {pos : Pos} {u l : Addr} {first : List Value} {env : Env} {e : Expr} {rest : List Expr} {Q : Value → Shared → Prop} (_N : News h₀ L s.heap news) (_hm : (u, bApp l) ∈ news)
    (h : wpAny M A (spliced (backTo pos (starEach (e :: rest) env))) (fun vs s₁ => BAt u l s₁.heap ∧ wpAny M A (call (.ref u) (first ++ vs)) Q E s₁) E s)
    (he : starEach (e :: rest) env = (false, eval e env) :: starEach rest env := by rfl) (hplain : (backTo pos (starEach rest env)).any (·.1) = false := by rfl) :
    wpAny M A (callWith pos (.ref u) first (backTo pos (starEach (e :: rest) env)) []) Q E s := by
  rw [he] at h ⊢
  have hp : (backTo pos ((false, eval e env) :: starEach rest env)).any (·.1) = false := by show (false || (backTo pos (starEach rest env)).any (·.1)) = false; rw [hplain]; rfl
  have h2 : wpAny M A (evalArgs (.ref u) true (backTo pos ((false, eval e env) :: starEach rest env)) []) (fun x s₁ => BAt u l s₁.heap ∧ wpAny M A (call (.ref u) (first ++ x.pos) x.kw) Q E s₁) E s := evalArgs_plain h
  unfold callWith
  refine wpAny_bind (wpAny_holding (wpAny_mono h2 (fun x s₁ h₁ => wpAny_bind (wpAny_standAt ?_)) fun _ _ x => x))
  obtain ⟨ho, hcall⟩ := h₁
  simp only [hp, List.any_nil, Bool.or_false]
  refine wpAny_bind (m := keeperOf (.ref u)) ?_
  unfold keeperOf
  refine wpAny_bind (wpAny_load ho ?_)
  simp only [show (Value.type "builtin_function_or_method" != Value.type "method") = true by decide, show (Value.type "builtin_function_or_method" == Value.type "builtin_function_or_method" || Value.type "builtin_function_or_method" == Value.type "method-wrapper") = true by decide, if_true]
  refine wpAny_pure ?_
  exact wpAny_bind (wpAny_mono hcall (fun r s₂ hr => wpAny_bind (wpAny_holding (wpAny_point (wpAny_pure hr)))) fun _ _ x => x)

theorem check_app {l : Addr} {v : Value} {Q : Unit → Shared → Prop} {its : Array Value} {n : Nat} (ho : s.heap.get? l = some (listOf its n)) (h : Q () s) : wpAny M A (checkBoundCall "list.append" ⟨[.ref l, v], []⟩) Q E s := by
  have hT : s.TypeIs (.ref l) "list" := ⟨_, ho, rfl⟩
  have hs : Manifest.signature? "list.append" = _ := signature?_of (id := "list.append") (n := ['d', 'n', 'e', 'p', 'p', 'a']) (o := ['t', 's', 'i', 'l']) (by kernel_rfl) F.owner_list
  have hs2 : ∃ sg, Manifest.signature? "list.append" = some sg ∧ Bind.checkArgs "list.append" { sg with full := s!"{Bind.lastOf "list"}.{Bind.lastOf "list.append"}" } ⟨[.ref l, v], []⟩ = pure () := by
    rw [hs]
    have hi : (List.lookup (String.ofList ['d', 'n', 'e', 'p', 'p', 'a'].reverse) Manifest.sig_list).isSome = true := by kernel_rfl
    exact ⟨Option.get _ hi, (Option.some_get hi).symm, by kernel_rfl⟩
  obtain ⟨sg, e1, e2⟩ := hs2
  unfold checkBoundCall
  rw [e1, show builtinKind "list.append" = some .method by decide +kernel]
  show wpAny _ _ (isInstance (.ref l) (.type "module") >>= _) _ _ _
  refine wpAny_bind (wpAny_isInstance (b := false) hT (by rw [isSubtype_type]; kernel_rfl) ?_)
  rw [show Manifest.varargsMethods.contains "list.append" = false by decide +kernel]
  show wpAny _ _ (isType (.ref l) >>= _) _ _ _
  refine wpAny_bind (wpAny_bind (wpAny_loadPart ho (wpAny_pure ?_)))
  show wpAny _ _ (typeOf (.ref l) >>= _) _ _ _
  refine wpAny_bind (wpAny_typeOf hT ?_)
  exact wpAny_of_eq e2 h
theorem entry_app : entryFor table "list.append" = some Builtin.«list.append» := F.entry_list_append
theorem quiet_app {as : Args} : (Code.builtin "list.append" as).quiet = true := Code.quiet_builtin _ (by decide +kernel)
theorem call_bApp {x l : Addr} {its : Array Value} {n : Nat} {v : Value} {news' : List (Addr × Obj)} {Q : Value → Shared → Prop} (F : Fr h₀ L s.heap m) (N : News h₀ L s.heap news) (hx : (x, bApp l) ∈ news) (U : Upd l (listOf its n) (listOf (its.push v) (n + 1)) news news')
    (h : ∀ h', Fr h₀ L h' m → News h₀ L h' news' → Q .none { s with heap := h' }) (hsz : its.size ≤ sizeLine := by size_fits) : wpAny (model prog w) A (call (.ref x) [v]) Q E s := by
  obtain ⟨pre, post, rfl, rfl, a, b⟩ := U.split
  have z := N (l, listOf its n) (List.mem_append.mpr (.inr (.head _)))
  have ho := z.1
  refine wpAny_call (codeAny_of_tree ?_)
  show wpAny _ A.in1 (callAny (.ref x) ⟨[v], []⟩) _ _ s
  simp only [callAny]
  refine wpAny_bind (wpAny_load (N _ hx).1 ?_)
  simp only [show (Value.type "builtin_function_or_method" == Value.type "method" || Value.type "builtin_function_or_method" == Value.type "builtin_function_or_method" || Value.type "builtin_function_or_method" == Value.type "method-wrapper") = true by decide, if_true]
  refine KFB.if_so (by decide) ?_
  refine wpAny_bind (check_app ho ?_)
  refine wpAny_bind (wpAny_pure (wpAny_pure ?_))
  refine ⟨quiet_app, codeAny_builtin entry_app ?_⟩
  show wpAny _ _ (updateSeq l (·.push v) >>= fun _ => ret .none) _ _ s
  refine wpAny_bind ?_
  refine wpAny_updateSeq ho rfl (wpAny_pure ?_)
  refine h _ (F.change (Heap.SameBut.update ..) z.2.1 z.2.2) (news_set N a b (Heap.SameBut.update ..) ?_)
  rw [Heap.get?_update_self _ ho (by rw [mapSeq_push]; rfl), mapSeq_push]
theorem call_object {Q : Value → Shared → Prop} (hd : A.depth < recursionLimit) (hu : A.units < cLine) (F : Fr h₀ L s.heap m) (N : News h₀ L s.heap news)
    (h : ∀ a h', Fr h₀ L h' m → News h₀ L h' ((a, ({ cls := .type "object" } : Obj)) :: news) → (∀ q ∈ news, @Ne Nat q.1 a) → Q (.ref a) { s with heap := h' }) : wpAny (model prog w) A (call (.type "object") []) Q E s := by
  obtain ⟨hh, g, d, t, os⟩ := s
  refine x_object (tk := 0) hd hu fun a h' D => ?_
  obtain ⟨F', N', o⟩ := mem_fr F N D
  exact h a h' F' N' fun q hq => o (a, _) (.head _) q hq
end
end Mine

end
section
open PySem PySem.W PySem.Calls PyProof.Rows PySem.W.X
namespace Mine
theorem allLt_ne {d : Addr} : ∀ {l : List (Addr × Obj)}, AllLt d l → ∀ p ∈ l, p.1 ≠ d
  | [], _, _, h => nomatch h
  | _ :: _, x, p, h => by
    rcases List.mem_cons.mp h with rfl | h
    · exact Nat.ne_of_lt x.1
    · exact allLt_ne x.2 p h
theorem ltAll_ne {d : Addr} {l : List (Addr × Obj)} (h : ∀ p ∈ l, p.1 < d) : ∀ p ∈ l, p.1 ≠ d := fun p hp => Nat.ne_of_lt (h p hp)
local macro_rules | `(tactic| k_all) => `(tactic| first
  | assumption
  | exact allLt_ne (by assumption)
  | exact ltAll_ne (by assumption)
  | exact allLt_ne (And.right (by assumption))
  | exact allLt_ne (And.right (And.right (by assumption)))
  | exact allLt_ne (And.right (And.right (And.right (by assumption))))
  | exact allLt_ne (And.right (And.right (And.right (And.right (by assumption)))))
  | exact allLt_ne (And.right (And.right (And.right (And.right (And.right (by assumption))))))
  | exact And.right (by assumption)
  | exact And.right (And.right (by assumption))
  | exact And.right (And.right (And.right (by assumption)))
  | exact And.right (And.right (And.right (And.right (by assumption)))))
local macro_rules | `(tactic| walk_at "getAttr ref") => `(tactic| (k_here; (with_reducible show wpAny _ _ (getAttr (Value.ref _) (PySem.Str.ofString "append") _) _ _ _); k_dflt (refine' getAttr_append ?k1 ?k2 ?k3 ?k4 ?k5 ?_; (case k1 => ktr_room); (case k2 => ktr_units); (case k3 => k_asm); (case k4 => k_asm); (case k5 => k_mem); k_whole); intro q' h' F' N' o1; (simp only [List.forall_mem_cons] at o1); (repeat (obtain ⟨oh, o1⟩ := o1))))
local macro_rules | `(tactic| walk_at "callWith ref") => `(tactic| (k_here; (with_reducible show wpAny _ _ (callWith _ (Value.ref _) _ (backTo _ (starEach (_ :: _) _)) []) _ _ _); k_dflt (refine' callWith_bApp ?kfbN ?kfbM ?_; (case kfbN => k_asm); (case kfbM => k_mem); k_whole)))
local macro_rules | `(tactic| walk_at "And") => `(tactic| ((with_reducible show BAt _ _ _ ∧ _); k_dflt (refine ⟨bat_of (by k_asm) (by k_mem), ?_⟩); (try dsimp only [List.nil_append, List.cons_append])))
local macro_rules | `(tactic| walk_at "call ref") => `(tactic| (k_here; (with_reducible show wpAny _ _ (call (Value.ref _) [_]) _ _ _); k_dflt (refine' call_bApp ?k1 ?k2 ?k3 ?k4 ?_ ?z; (case k1 => k_asm); (case k2 => k_asm); (case k3 => k_mem); (case k4 => k_upd); (case z => size_fits); k_whole); intro h' F' N'))
local macro_rules | `(tactic| walk_at "call type:object") => `(tactic| (k_here; k_dflt (refine' call_object ?k1 ?k2 ?k3 ?k4 ?_; (case k1 => ktr_room); (case k2 => ktr_units); (case k3 => k_asm); (case k4 => k_asm); k_whole); intro q' h' F' N' o1; (simp only [List.forall_mem_cons] at o1); (repeat (obtain ⟨oh, o1⟩ := o1))))
local macro_rules | `(tactic| walk_at "execs cons") => `(tactic| (k_here; (with_reducible refine toks_gen ?_); intro k'))
/-! ## The pure side: words, patterns, texts -/
def S (l : List Nat) : Str := ⟨l.toArray⟩
structure Pt where
  pre : List Nat
  tl : Nat
  deriving DecidableEq
def ptail : Nat → List Nat
  | 0 => []
  | 1 => [91, 97, 93, 42]
  | _ => [91, 97, 98, 93, 42]
def ttail : Nat → List Nat
  | 0 => []
  | 1 => [91, 97, 93, 46, 42]
  | _ => [91, 97, 98, 93, 46, 42]
def Pt.pl (p : Pt) : List Nat := p.pre ++ ptail p.tl
def Pt.tx (p : Pt) : List Nat := [40, 63, 115, 58] ++ (p.pre ++ (ttail p.tl ++ [41, 92, 90]))
def Pt.pat (p : Pt) : Str := S p.pl
def Pt.txt (p : Pt) : Str := S p.tx
def letters : List Nat := [97, 98, 99]
def W1 : List (List Nat) := letters.map fun a => [a]
def W2 : List (List Nat) := letters.flatMap fun a => W1.map fun r => a :: r
def W3 : List (List Nat) := letters.flatMap fun a => W2.map fun r => a :: r
def W40 : List (List Nat) := [[]] ++ W1 ++ W2 ++ W3
def allP : List Pt := (W40.map fun w => ⟨w, 0⟩) ++ (([[]] ++ W1 ++ W2).flatMap fun w => [⟨w, 1⟩, ⟨w, 2⟩])
theorem W40_len : W40.length = 40 := by decide +kernel
theorem allP_len : allP.length = 66 := by decide +kernel
/-- a fact over all patterns, looked at one by one -/
theorem all_pats {q : Pt → Bool} (h : allP.all q = true) {p : Pt} (hp : p ∈ allP) : q p = true := List.all_eq_true.mp h p hp
theorem all_words {q : List Nat → Bool} (h : W40.all q = true) {p : List Nat} (hp : p ∈ W40) : q p = true := List.all_eq_true.mp h p hp
/-- the pieces of a pattern: its letters, then the set, then the star (none) -/
def setOf : Nat → List Nat
  | 0 => []
  | 1 => [97]
  | _ => [97, 98]
def Pt.pieces (p : Pt) : List (Option (List Nat)) := p.pre.map (fun c => some [c]) ++ (if p.tl = 0 then [] else [some ([91] ++ setOf p.tl ++ [93]), none])
/-- the place in the pattern behind j pieces -/
def Pt.at (p : Pt) (j : Nat) : Nat := if j ≤ p.pre.length then j else if j = p.pre.length + 1 then p.pre.length + (setOf p.tl).length + 2 else p.pre.length + (setOf p.tl).length + 3
/-- the place in the text behind j tokens -/
def Pt.tat (p : Pt) (j : Nat) : Nat := if j ≤ p.pre.length then 4 + j else if j = p.pre.length + 1 then 4 + p.pre.length + (setOf p.tl).length + 2 else 4 + p.pre.length + (setOf p.tl).length + 4
section
variable {α : Type} {p a b c d e f g i x z : α} {r ad add : List α}
theorem mm1 (h : p ∈ x :: a :: b :: c :: r) : p ∈ a :: b :: c :: x :: r := by
  simp only [List.mem_cons] at h ⊢
  rcases h with h | h | h | h | h <;> simp [h]
theorem mm2 (h : p ∈ a :: b :: c :: x :: ((ad ++ add) ++ r)) : p ∈ ad ++ x :: a :: b :: c :: (add ++ r) := by
  simp only [List.mem_cons, List.mem_append] at h ⊢
  rcases h with h | h | h | h | (h | h) | h <;> simp [h]
theorem mm3 (h : p ∈ z :: a :: x :: (add ++ r)) : p ∈ a :: x :: (add ++ z :: r) := by
  simp only [List.mem_cons, List.mem_append] at h ⊢
  rcases h with h | h | h | h | h <;> simp [h]
theorem mm4 (h : p ∈ [c, a, d, b]) : p ∈ [a, b, c, d] := by
  simp only [List.mem_cons, List.not_mem_nil, or_false] at h ⊢
  rcases h with h | h | h | h <;> simp [h]
theorem mm5 (h : p ∈ [d, a, g, e, i]) : p ∈ [a, b, c, d, e, f, g, i] := by
  simp only [List.mem_cons, List.not_mem_nil, or_false] at h ⊢
  rcases h with h | h | h | h | h <;> simp [h]
theorem mm6 (h : p ∈ a :: b :: r) : p ∈ d :: b :: a :: r := by
  simp only [List.mem_cons] at h ⊢
  rcases h with h | h | h <;> simp [h]
end
theorem p_facts {p : Pt} (hp : p ∈ allP) : p.pre.length ≤ 3 ∧ p.tl ≤ 2 ∧ p.pat.length ≤ 8 ∧ p.at p.pieces.length = p.pat.length ∧ p.pieces.length ≤ 5 := by
  have h := all_pats (q := fun p => decide (p.pre.length ≤ 3 ∧ p.tl ≤ 2 ∧ p.pat.length ≤ 8 ∧ p.at p.pieces.length = p.pat.length ∧ p.pieces.length ≤ 5)) (by decide +kernel) hp
  exact of_decide_eq_true h
/-- the items that stand for the pieces: a text for a text, the star's object for the star -/
inductive Pcs (st : Addr) : List Value → List (Option (List Nat)) → Prop
  | nil : Pcs st [] []
  | str {x : List Nat} {t : Tok} {vs : List Value} {os : List (Option (List Nat))} : Pcs st vs os → Pcs st (vs ++ [.str (S x) t]) (os ++ [some x])
  | star {vs : List Value} {os : List (Option (List Nat))} : Pcs st vs os → Pcs st (vs ++ [.ref st]) (os ++ [none])
theorem Pcs.length {st : Addr} {vs : List Value} {os : List (Option (List Nat))} (h : Pcs st vs os) : vs.length = os.length := by
  induction h with
  | nil => rfl
  | str _ ih => simp [ih]
  | star _ ih => simp [ih]
theorem Pcs.last {st : Addr} {vs : List Value} {os os' : List (Option (List Nat))} {x : List Nat} (h : Pcs st vs os') (e : os' = os ++ [some x]) : ∃ vs' t, vs = vs' ++ [Value.str (S x) t] := by
  cases h with
  | nil => simp at e
  | str h =>
    obtain ⟨e1, e2⟩ := List.append_inj' e rfl
    simp only [List.cons.injEq, Option.some.injEq, and_true] at e2
    exact ⟨_, _, by rw [e2]⟩
  | star h =>
    obtain ⟨e1, e2⟩ := List.append_inj' e rfl
    simp at e2
/-- ahead of the star stands the set -/
theorem p_star {p : Pt} (hp : p ∈ allP) : p.pieces.length = p.pre.length + 2 → p.pieces.take (p.pre.length + 1) = p.pre.map (fun c => some [c]) ++ [some ([91] ++ setOf p.tl ++ [93])] := by
  have h := all_pats (q := fun p => decide (p.pieces.length = p.pre.length + 2 → p.pieces.take (p.pre.length + 1) = p.pre.map (fun c => some [c]) ++ [some ([91] ++ setOf p.tl ++ [93])])) (by decide +kernel) hp
  exact of_decide_eq_true h
structure TS where
  j : Nat
  its : List Value
  k : Nat
  τ : Option Addr
  ti : Tok
/-- what stands at the j-th piece -/
theorem p_piece {p : Pt} (hp : p ∈ allP) {j : Nat} (hj : j < p.pieces.length) :
    (∃ c, p.pieces[j]? = some (some [c]) ∧ (c = 97 ∨ c = 98 ∨ c = 99) ∧ j < p.pre.length ∧ Txt.item p.pat (p.at j : Int) = S [c] ∧ p.at (j + 1) = p.at j + 1 ∧ p.at j < p.pat.length)
    ∨ (p.pieces[j]? = some (some ([91] ++ setOf p.tl ++ [93])) ∧ (p.tl = 1 ∨ p.tl = 2) ∧ j = p.pre.length ∧ p.at j = j ∧ Txt.item p.pat (p.at j : Int) = S [91] ∧ p.at (j + 1) = p.at j + (setOf p.tl).length + 2 ∧ p.pat.length = p.at j + (setOf p.tl).length + 3)
    ∨ (p.pieces[j]? = some none ∧ Txt.item p.pat (p.at j : Int) = S [42] ∧ p.at (j + 1) = p.at j + 1 ∧ p.at j < p.pat.length ∧ j = p.pre.length + 1 ∧ p.pieces.length = p.pre.length + 2) := by
  have h := all_pats (q := fun p => (List.range p.pieces.length).all fun j => match p.pieces[j]? with
    | some (some [c]) => decide ((c = 97 ∨ c = 98 ∨ c = 99) ∧ j < p.pre.length ∧ Txt.item p.pat (p.at j : Int) = S [c] ∧ p.at (j + 1) = p.at j + 1 ∧ p.at j < p.pat.length)
    | some (some x) => decide (x = [91] ++ setOf p.tl ++ [93] ∧ (p.tl = 1 ∨ p.tl = 2) ∧ j = p.pre.length ∧ p.at j = j ∧ Txt.item p.pat (p.at j : Int) = S [91] ∧ p.at (j + 1) = p.at j + (setOf p.tl).length + 2 ∧ p.pat.length = p.at j + (setOf p.tl).length + 3)
    | some none => decide (Txt.item p.pat (p.at j : Int) = S [42] ∧ p.at (j + 1) = p.at j + 1 ∧ p.at j < p.pat.length ∧ j = p.pre.length + 1 ∧ p.pieces.length = p.pre.length + 2)
    | none => false) (by decide +kernel) hp
  have h := List.all_eq_true.mp h j (List.mem_range.mpr hj)
  revert h
  split
  · rename_i c hc
    intro h
    exact .inl ⟨c, hc, of_decide_eq_true h⟩
  · rename_i x _ hc
    intro h
    have h := of_decide_eq_true h
    exact .inr (.inl ⟨by rw [hc, h.1], h.2⟩)
  · rename_i hc
    intro h
    exact .inr (.inr ⟨hc, of_decide_eq_true h⟩)
  · intro h; cases h
theorem p_set1 {p : Pt} (hp : p ∈ allP) (h1 : p.tl = 1) : Txt.item p.pat ((p.pre.length : Int) + 1) = S [97] ∧ Txt.item p.pat ((p.pre.length : Int) + 1 + 1) = S [93] ∧ Txt.slice p.pat (some ((p.pre.length : Int) + 1)) (some ((p.pre.length : Int) + 1 + 1)) = Str.ofString "a" ∧ (p.pat.length : Int) = (p.pre.length : Int) + 4 := by
  have h := all_pats (q := fun p => decide (p.tl = 1 → Txt.item p.pat ((p.pre.length : Int) + 1) = S [97] ∧ Txt.item p.pat ((p.pre.length : Int) + 1 + 1) = S [93] ∧ Txt.slice p.pat (some ((p.pre.length : Int) + 1)) (some ((p.pre.length : Int) + 1 + 1)) = Str.ofString "a" ∧ (p.pat.length : Int) = (p.pre.length : Int) + 4)) (by decide +kernel) hp
  exact of_decide_eq_true h h1
theorem p_set2 {p : Pt} (hp : p ∈ allP) (h1 : p.tl = 2) : Txt.item p.pat ((p.pre.length : Int) + 1) = S [97] ∧ Txt.item p.pat ((p.pre.length : Int) + 1 + 1) = S [98] ∧ Txt.item p.pat ((p.pre.length : Int) + 1 + 1 + 1) = S [93] ∧ Txt.slice p.pat (some ((p.pre.length : Int) + 1)) (some ((p.pre.length : Int) + 1 + 1 + 1)) = Str.ofString "ab" ∧ (p.pat.length : Int) = (p.pre.length : Int) + 5 := by
  have h := all_pats (q := fun p => decide (p.tl = 2 → Txt.item p.pat ((p.pre.length : Int) + 1) = S [97] ∧ Txt.item p.pat ((p.pre.length : Int) + 1 + 1) = S [98] ∧ Txt.item p.pat ((p.pre.length : Int) + 1 + 1 + 1) = S [93] ∧ Txt.slice p.pat (some ((p.pre.length : Int) + 1)) (some ((p.pre.length : Int) + 1 + 1 + 1)) = Str.ofString "ab" ∧ (p.pat.length : Int) = (p.pre.length : Int) + 5)) (by decide +kernel) hp
  exact of_decide_eq_true h h1
theorem scan_end {f : Int → Bool} {a k : Int} (m : MarkC f a k) (e : Int) (h0 : a ≤ k) (hall : ∀ j, a ≤ j → j < k → f j = true) (hk : f k = false) (hae : a ≤ e) (h1 : ∀ j, a ≤ j → j < e → f j = true) (h2 : f e = false) : k = e := by
  rcases Int.lt_trichotomy k e with h | h | h
  · rw [h1 k h0 h] at hk; cases hk
  · exact h
  · rw [hall e hae h] at h2; cases h2
open PySem.Builtin PySem.Builtin.Str in
theorem tree_tr {prog : Program} {w : World} {A : Around} {E : Value → Shared → Prop} {s : Shared} {t : Tok} {P : Fin → Shared → Prop} {c : Nat} (hc : c = 97 ∨ c = 98 ∨ c = 99)
   (h : wpAny (model prog w) A (tableLookup (.ref 72) c) (fun r s' => r = .keep ∧ P (.done (.ret (.str (S [c]) s'.toks))) { s' with toks := s'.toks + 1 }) E s) :
   wpAny (model prog w) A (Builtin.«str.translate» ⟨[.str (S [c]) t, .ref 72], []⟩) P E s := by
  unfold Builtin.«str.translate»
  refine wpAny_bind (wpAny_of_eq (a := (Value.str (S [c]) t, S [c], Value.ref 72)) (by kernel_rfl) ?_)
  rcases hc with rfl | rfl | rfl
  all_goals (
    dsimp only [S]
    refine KFB.if_not (by rfl) ?_
    simp only [List.size_toArray, List.forIn_toArray, List.forIn_cons, List.forIn_nil]
    refine wpAny_bind (wpAny_bind ?_)
    refine KFB.if_not (by decide +kernel) ?_
    refine KFB.if_so (by decide +kernel) ?_
    show wpAny _ _ (tableLookup (Value.ref 72) _ >>= _) _ _ _
    refine wpAny_bind (wpAny_mono h (fun r s' hr => ?_) fun _ _ e => e)
    obtain ⟨rfl, hr⟩ := hr
    refine wpAny_bind (wpAny_pure ?_)
    refine wpAny_pure (wpAny_pure ?_)
    refine KFB.if_not (by decide +kernel) ?_
    refine wpAny_bind (wpAny_mkStr ?_ (by decide +kernel))
    exact wpAny_pure hr)
def esOf (K : Frag) : Array DictEntry := match K.lookup 72 with
  | some ⟨_, _, .dict es _, _⟩ => es
  | _ => #[]
def nOf (K : Frag) : Nat := match K.lookup 72 with
  | some ⟨_, _, .dict _ n, _⟩ => n
  | _ => 0
theorem look72 (w : World) : (Mine.box.heap_1 w.params).lookup 72 = some ⟨.type "dict", none, .dict (esOf (Mine.box.heap_1 w.params)) (nOf (Mine.box.heap_1 w.params)), #[]⟩ := by kernel_rfl
theorem keys72 (w : World) : (esOf (Mine.box.heap_1 w.params)).all (fun e => match e.key with | .int i _ => decide (e.hash = hashInt i) | _ => false) = true := by kernel_rfl
theorem none72 (w : World) {c : Nat} (hc : c = 97 ∨ c = 98 ∨ c = 99) : findBy Value.isInt (esOf (Mine.box.heap_1 w.params)) (c : Int) = none := by
  rcases hc with rfl | rfl | rfl <;> kernel_rfl
theorem map72 {prog : Program} {w : World} {h : Heap} (X : (Mine.box.heap_1 w.params).In h) : h.MapOf (intKind prog w) 72 (fun k => findBy Value.isInt (esOf (Mine.box.heap_1 w.params)) k) := by
  refine ⟨_, _, _, X _ _ (look72 w), ⟨rfl, rfl, rfl⟩, rfl, fun e he => ?_, fun _ => rfl⟩
  have h1 := Array.all_eq_true'.mp (keys72 w) e he
  revert h1
  split
  · rename_i i t e2
    intro h1
    exact ⟨i, by rw [e2]; simp [intKind, Value.isInt], of_decide_eq_true h1⟩
  · intro h1; cases h1
open PySem.Builtin PySem.Builtin.Str in
theorem call_translate {prog : Program} {w : World} {A : Around} {E : Value → Shared → Prop} {s : Shared} {t : Tok} {Q : Value → Shared → Prop} {c : Nat} (hc : c = 97 ∨ c = 98 ∨ c = 99) {h₀ : Heap} {L : Addr} {m : Str → Option Value} {news : List (Addr × Obj)}
   (hh : A.handled = none) (F : Fr h₀ L s.heap m) (X₀ : (Mine.box.heap_1 w.params).In h₀) (N : News h₀ L s.heap news)
   (h : ∀ h' t' k, Fr h₀ L h' m → News h₀ L h' news → Q (.str (S [c]) t') { s with heap := h', toks := k }) :
   wpAny (model prog w) A (call (.builtin "str.translate") [.str (S [c]) t, .ref 72]) Q E s := by
  refine wpAny_call_entry PySem.F.slot_str_translate (typeIs_str s _ _) PySem.F.entry_str_translate (tree_tr hc ?_) (PySem.F.args_str_translate_2 _ _)
  unfold tableLookup
  refine wpAny_bind (wpAny_attempt (wpAny_bind (wpAny_mkInt ?_)))
  refine wpAny_getItem_missing_of (knd := intKind prog w) (k := (c : Int)) (by simp [intKind, Value.isInt]) (by decide) hh (map72 (X₀.keeps F.keep)) (none72 w hc) fun h' e hx => ?_
  obtain ⟨ob, t2, he, hcl, _⟩ := hx.there
  dsimp only
  refine wpAny_bind (wpAny_isInstance (T := "KeyError") (b := true) ⟨ob, he, hcl⟩ (by rw [isSubtype_type]; kernel_rfl) ?_)
  refine KFB.if_so rfl ?_
  refine wpAny_bind (wpAny_rule (wpAny_pure ⟨rfl, _, rfl, ?_⟩))
  exact h _ _ _ (F.keeps hx.keeps) (N.grown hx.keeps)
theorem gm_translate {M : Model} {A : Around} {E : Value → Shared → Prop} {s : Shared} {pl : Sem Bool} {x : Str} {t : Tok} {Q : Value × List Value → Shared → Prop} (h : Q (.builtin "str.translate", [.str x t]) s) : wpAny M A (getMethod (.str x t) (Str.ofString "translate") pl) Q E s := by
  with_reducible exact GM.of (.str x t) (typeIs_str _ _ _) F.slot_str_translate F.type_str_translate GM.noRef h
local macro_rules | `(tactic| walk_at "getMethod str") => `(tactic| (k_here; with_reducible refine gm_translate ?_))
local macro_rules | `(tactic| walk_at "call builtin:str.translate") => `(tactic| (k_here; (with_reducible show wpAny _ _ (call (Value.builtin _) [Value.str (S [_]) _, Value.ref _]) _ _ _); k_dflt (refine' call_translate ?k0 ?k1 ?k2 ?k3 ?k4 ?_; (case k0 => assumption); (case k1 => exact rfl); (case k2 => k_asm); (case k3 => k_asm); (case k4 => k_asm); k_whole); intro h' t' tk' F' N'))
set_option hygiene false in
local macro_rules | `(tactic| x_close) => `(tactic| (refine hQ _ ?t1 _ _ ?nw ?e ?D; (case D => assumption); (case e => exact congrArg (fun z => Value.str z _) (by kernel_rfl))))
def fOf (K : Frag) : Array Value := match K.lookup 63 with
  | some ⟨_, _, .fields vs, _⟩ => vs
  | _ => #[]
theorem look63 (w : World) : (Mine.box.heap_1 w.params).lookup 63 = some ⟨.type "re.Pattern", none, .fields (fOf (Mine.box.heap_1 w.params)), #[]⟩ := by kernel_rfl
set_option maxRecDepth 100000 in
set_option maxHeartbeats 8000000 in
theorem sub_a {w : World} {A : Around} {h : Heap} {g : Array GenState} {d : Drawn} {t tk : Nat} {os : OsState} {Q E : Value → Shared → Prop} {lam : Addr} {dt : Data} (hd : A.depth < recursionLimit) (hu : A.units + 4 < cLine)
   (X : (Mine.box.heap_1 w.params).In h) (hl : h.get? lam = some ({ cls := .type "function", dict := none, data := dt, slots := #[] } : Obj)) (hQ : ∀ v t1 h' t2 nw, v = Value.str (S [97]) t1 → Mem h h' [] nw → Q v ⟨h', g, d, t2, os⟩) :
  wpAny (model PySem.Challenge.rw_ij0100_01.row.prog w) A (call (.builtin "re.Pattern.sub") [.ref 63, .ref lam, .str (S [97]) tk]) Q E ⟨h, g, d, t, os⟩ := by
  k_fill
  x_run
set_option maxRecDepth 100000 in
set_option maxHeartbeats 8000000 in
theorem sub_ab {w : World} {A : Around} {h : Heap} {g : Array GenState} {d : Drawn} {t tk : Nat} {os : OsState} {Q E : Value → Shared → Prop} {lam : Addr} {dt : Data} (hd : A.depth < recursionLimit) (hu : A.units + 4 < cLine)
   (X : (Mine.box.heap_1 w.params).In h) (hl : h.get? lam = some ({ cls := .type "function", dict := none, data := dt, slots := #[] } : Obj)) (hQ : ∀ v t1 h' t2 nw, v = Value.str (S [97, 98]) t1 → Mem h h' [] nw → Q v ⟨h', g, d, t2, os⟩) :
  wpAny (model PySem.Challenge.rw_ij0100_01.row.prog w) A (call (.builtin "re.Pattern.sub") [.ref 63, .ref lam, .str (S [97, 98]) tk]) Q E ⟨h, g, d, t, os⟩ := by
  k_fill
  x_run
theorem slot_sub : Slot "re.Pattern" "sub" "re.Pattern.sub" :=
  .of (owner := "re.Pattern") (n := "sub") (by rw [typeLookup_type, builtinLookup_eq_fast]; kernel_rfl) (by decide +kernel) (by decide +kernel) (by decide +kernel)
    (by first | exact .inl (by decide +kernel) | exact .inr (by decide +kernel)) (by rw [isSubtype_type]; kernel_rfl)
theorem type_sub : typeOf (.builtin "re.Pattern.sub") = pure (.type "method_descriptor") := by show builtinType _ = _; rw [builtinType_eq_fast]; kernel_rfl
theorem plainAttrs_pat : PlainAttrs "re.Pattern" :=
  ⟨⟨"object.__getattribute__", by rw [typeLookup_type, builtinLookup_eq_fast]; kernel_rfl, by decide +kernel⟩, by rw [typeLookup_type, builtinLookup_eq_fast]; kernel_rfl⟩
section
variable {w : World} {A : Around} {E : Value → Shared → Prop} {s : Shared} {h₀ : Heap} {L : Addr} {m : Str → Option Value} {news : List (Addr × Obj)}
theorem gm_sub {M : Model} {pl : Sem Bool} {Q : Value × List Value → Shared → Prop} (F : Fr h₀ L s.heap m) (X : (Mine.box.heap_1 w.params).In h₀) (h : Q (.builtin "re.Pattern.sub", [.ref 63]) s) :
    wpAny M A (getMethod (.ref 63) (Str.ofString "sub") pl) Q E s :=
  have e := (X.keeps F.keep) _ _ (look63 w)
  getMethod_builtin (T := "re.Pattern") ⟨_, e, rfl⟩ plainAttrs_pat slot_sub type_sub (fun a ha => by cases ha; exact ⟨_, e, rfl⟩) h
def IsStuff (x : Str) : Prop := ∃ tl, (tl = 1 ∨ tl = 2) ∧ x = S (setOf tl)
theorem isStuff_a : IsStuff (Str.ofString "a") := ⟨1, .inl rfl, by decide +kernel⟩
theorem isStuff_ab : IsStuff (Str.ofString "ab") := ⟨2, .inr rfl, by decide +kernel⟩
theorem call_sub {x : Str} {lam : Addr} {dt : Data} {tk : Tok} {Q : Value → Shared → Prop} (hx : IsStuff x) (hd : A.depth < recursionLimit) (hu : A.units + 4 < cLine) (F : Fr h₀ L s.heap m) (X : (Mine.box.heap_1 w.params).In h₀) (N : News h₀ L s.heap news)
    (hl : (lam, ({ cls := .type "function", dict := none, data := dt, slots := #[] } : Obj)) ∈ news)
    (h : ∀ t1 h' t2, Fr h₀ L h' m → News h₀ L h' news → Q (.str x t1) { s with heap := h', toks := t2 }) :
    wpAny (model PySem.Challenge.rw_ij0100_01.row.prog w) A (call (.builtin "re.Pattern.sub") [.ref 63, .ref lam, .str x tk]) Q E s := by
  obtain ⟨tl, ht, rfl⟩ := hx
  obtain ⟨hh, g, d, t, os⟩ := s
  have key : ∀ v t1 h' t2 nw, v = Value.str (S (setOf tl)) t1 → Mem hh h' [] nw → Q v ⟨h', g, d, t2, os⟩ := fun v t1 h' t2 nw e D => by
    subst e
    obtain ⟨F', N', _⟩ := mem_fr F N D
    exact h _ _ _ F' fun p hp => N' p (List.mem_append_right _ hp)
  rcases ht with rfl | rfl
  · exact sub_a hd hu (X.keeps F.keep) (N _ hl).1 key
  · exact sub_ab hd hu (X.keeps F.keep) (N _ hl).1 key
end
local macro_rules | `(tactic| walk_at "call builtin:re.Pattern.sub") => `(tactic| (k_here; k_dflt (refine' call_sub ?kx ?kd ?ku ?k1 ?k2 ?k3 ?k4 ?_; (case kx => first | exact isStuff_a | exact isStuff_ab); (case kd => ktr_room); (case ku => ktr_units); (case k1 => k_asm); (case k2 => k_asm); (case k3 => k_asm); (case k4 => k_mem); k_whole); intro t' h' tk' F' N'))
def tabv : Option Addr → Array Value
  | none => #[]
  | some c => #[rawInt 81, rawInt 39, .ref c]
def lamPos : Pos := ⟨81, 39, 81, 76⟩
theorem code88 (w : World) : codeHdIn (Mine.box.heap_1 w.params) 88 84 = true := by kernel_rfl
theorem lam_rule {M : Model} {w : World} {A : Around} {E : Value → Shared → Prop} {s : Shared} {h₀ : Heap} {L a : Addr} {m mg mb : Str → Option Value} {cn : Str} {cs : Scope} {p : Program} {loose : List Str} {mean : ExcName → Option Value} {params : Arguments} {body : PySem.Expr} {scope : Scope} {x y : Addr × Obj} {τ : Option Addr} {news : List (Addr × Obj)} {Q : Value → Shared → Prop}
    (F : Fr h₀ L s.heap m) (N : News h₀ L s.heap (x :: y :: (84, tabObj (tabv τ)) :: news)) (T : Top p loose mean mg mb h₀) (X : (Mine.box.heap_1 w.params).In h₀) (hx : x.1 ≠ 84) (hy : y.1 ≠ 84) (h84 : ∀ q ∈ news, q.1 ≠ 84)
    (hdef : defaultsOf params (envX cn cs L a (.ref 88) []) = ([], [])) (hcl : closureFor scope (envX cn cs L a (.ref 88) []) = pure [])
    (h : ∀ f τ' d h' tk, Fr h₀ L h' m → News h₀ L h' ((f, ({ cls := .type "function", dict := none, data := d, slots := #[] } : Obj)) :: x :: y :: (84, tabObj (tabv τ')) :: news) → @Ne Nat x.1 f → @Ne Nat y.1 f → @Ne Nat 84 f → (∀ q ∈ news, @Ne Nat q.1 f) → Q (.ref f) { s with heap := h', toks := tk }) :
    wpAny M A (eval (.Lambda params body scope ⟨81, 39, 81, 76⟩) (envX cn cs L a (.ref 88) [])) Q E s := by
  refine kla_eval hdef ?_
  have C : CodeHd h₀ 88 84 := codeHd_of_K X (code88 w)
  cases τ with
  | none =>
    refine kla_nest F N T C rfl (UpdF.tail hx (UpdF.tail hy (UpdF.head h84))) trivial rfl hcl fun f c' oc vs t ctv h' tk F' N' _ _ l1 l2 => ?_
    have ne : ∀ q ∈ x :: y :: (84, tabObj (tabv none)) :: news, @Ne Nat q.1 f := fun q hq => Nat.ne_of_lt (Nat.lt_trans (l1 q hq) l2)
    refine h f (some c') (Obj.data (kla_obj (Str.ofString "<lambda>") ((envX cn cs L a (.ref 88) []).qual ++ Str.ofString "<lambda>") params body scope [] ((mg (Str.ofString "__name__")).getD Value.none) c' ctv)) h' tk F' (fun q hq => N' q ?_) (ne _ (.head _)) (ne _ (.tail _ (.head _))) (ne _ (.tail _ (.tail _ (.head _)))) (fun q hq => ne q (.tail _ (.tail _ (.tail _ hq))))
    rcases List.mem_cons.mp hq with rfl | hq
    · exact .head _
    · exact .tail _ (.tail _ hq)
  | some c =>
    refine kla_hit (c' := c) F N T C rfl (.tail _ (.tail _ (.head _))) trivial (by rfl) hcl fun f ctv h' tk F' N' l1 => ?_
    have ne : ∀ q ∈ x :: y :: (84, tabObj (tabv (some c))) :: news, @Ne Nat q.1 f := fun q hq => Nat.ne_of_lt (l1 q hq)
    exact h f (some c) _ h' tk F' N' (ne _ (.head _)) (ne _ (.tail _ (.head _))) (ne _ (.tail _ (.tail _ (.head _)))) (fun q hq => ne q (.tail _ (.tail _ (.tail _ hq))))
def Cut (P : Prop) : Prop := P
theorem cut_in {P : Prop} (h : Cut P) : P := h
local macro_rules | `(tactic| walk_at "getMethod ref") => `(tactic| (k_here; (with_reducible show wpAny _ _ (getMethod (Value.ref 63) (PySem.Str.ofString "sub") _) _ _ _); k_dflt (refine' gm_sub ?k1 ?k2 ?_; (case k1 => k_asm); (case k2 => k_asm); k_whole)))
local macro_rules | `(tactic| walk_at "ite") => `(tactic| (k_here; first | (refine ite_pos (by with_reducible assumption) ?_; walk_say "PRUNED (own)") | (refine ite_isFalse (by with_reducible assumption) ?_; walk_say "PRUNED (own)")))
local macro_rules | `(tactic| walk_at "eval Lambda") => `(tactic| (k_here; k_dflt (refine' lam_rule ?k1 ?k2 ?k3 ?k4 ?k5 ?k6 ?k7 ?k8 ?k9 ?_; (case k1 => k_asm); (case k2 => k_asm); (case k3 => k_asm); (case k4 => k_asm); (case k5 => k_ne); (case k6 => k_ne); (case k7 => assumption); (case k8 => exact rfl); (case k9 => exact rfl); k_whole); intro f' τ' d' h' tk' F' N' n1 n2 n3 n4; (try dsimp only at n1 n2)))
theorem idx_last {n : Nat} : seqIndex? (-1) (n + 1) = some n := by
  unfold seqIndex?
  have e : (if (-1 : Int) < 0 then (-1 : Int) + ((n + 1 : Nat) : Int) else -1) = (n : Int) := by rw [if_pos (by omega)]; omega
  simp only [e]
  rw [if_pos (by simp only [Bool.and_eq_true, decide_eq_true_eq]; omega)]
  rfl
theorem last_item {prog : Program} {w : World} {A : Around} {E : Value → Shared → Prop} {s : Shared} {h₀ : Heap} {L l : Addr} {value slice : PySem.Expr} {news : List (Addr × Obj)} {vs : List Value} {v : Value} {n : Nat} {u : Tok} {Q : Value → Shared → Prop} (N : News h₀ L s.heap news) (hm : (l, W.listOf (vs ++ [v]).toArray n) ∈ news) (h : Q v s)
    (hs : subscripted slice false (.ref l) (.int (-1) u) = operate [.ref l, .int (-1) u] (getItem (.ref l) (.int (-1) u)) := by with_unfolding_all rfl) :
    wpAny (model prog w) A (subscriptTail value slice (.ref l) (.int (-1) u)) Q E s :=
  kde_neg (j := vs.length) ⟨_, (N _ hm).1, rfl, n, rfl⟩ (by decide) (by decide) (by rw [List.length_append]; exact idx_last) (by simp) h hs
local macro_rules | `(tactic| walk_at "subscriptTail") => `(tactic| (k_here; (with_reducible show wpAny _ _ (subscriptTail _ _ (Value.ref _) (Value.int (-1) _)) _ _ _); k_dflt (refine' last_item ?k1 ?k2 ?_ ?k3; (case k1 => k_asm); (case k2 => k_mem); (case k3 => with_unfolding_all rfl); k_whole)))
local macro_rules | `(tactic| walk_at "compareOp IsNot") => `(tactic| (k_here; (with_reducible show wpAny _ _ (compareOp CmpOp.IsNot (Value.str _ _) (Value.ref _)) _ _ _); refine wpAny_isNot_other (by rfl) (by intro x; cases x) ?_))
local macro_rules | `(tactic| walk_at "compareOp Is") => `(tactic| (k_here; (with_reducible show wpAny _ _ (compareOp CmpOp.Is (Value.str _ _) (Value.ref _)) _ _ _); refine wpAny_is_other (by rfl) (by intro x; cases x) ?_))
local macro_rules | `(tactic| walk_at "compareOp IsNot ref ref") => `(tactic| (k_here; with_reducible refine wpAny_isNot_ref_self ?_))
local macro_rules | `(tactic| walk_at "compareOp Is ref ref") => `(tactic| (k_here; with_reducible refine wpAny_is_ref_self ?_))
def IsLetter (x : Str) : Prop := ∃ c, (c = 97 ∨ c = 98 ∨ c = 99) ∧ x = S [c]
theorem ctr_use {r : Nat} {w : World} {f : Addr} {vs : List Value} {news : List (Addr × Obj)} {Ret : Value → List (Addr × Obj) → Prop} {p : Program} {loose : List Str} {mean : ExcName → Option Value} {mg mb : Str → Option Value} {dp un : Nat} {gd : Option (List Code)} {cn : Str} {cs : Scope} {a : Addr} {ccd : Value} {cl : List (Str × Addr)} {outer : List Env} {A₀ : Around} {base h₀ : Heap} {L : Addr} {m : Str → Option Value} {s : Shared} {Q E : Value → Shared → Prop}
    (C : Ctr r w f vs news Ret) (B : Below A₀ base outer h₀) (F : Fr h₀ L s.heap m) (X : (Mine.box.heap_1 w.params).In h₀) (N : News h₀ L s.heap news) (T : Top p loose mean mg mb h₀) (hk : cs.kind = .function) (hd : dp + r < recursionLimit) (hu : un + 10 * r < cLine)
    (k : ∀ (v : Value) (news' : List (Addr × Obj)) (h' : Heap) (tk' : Nat), Ret v news' → Fr h₀ L h' m → News h₀ L h' news' → Q v { s with heap := h', toks := tk' }) :
    wpAny (model PySem.Challenge.rw_ij0100_01.row.prog w) (ktrTop dp un gd cn cs L a ccd cl outer) (call (.ref f) vs) Q E s := C _ _ _ _ _ _ _ _ _ _ _ _ _ _ _ _ _ _ _ s.heap s.gens s.drawn s.toks s.os _ _ B F X N T hk hd hu k
set_option maxRecDepth 100000 in
set_option maxHeartbeats 8000000 in
theorem escape_ctr {w : World} {x : Str} {tk : Tok} (hx : IsLetter x) (news : List (Addr × Obj)) :
   Ctr 2 w 82 [.str x tk] news (fun v news' => (∃ t', v = .str x t') ∧ news' = news) := by
  obtain ⟨c, hc, rfl⟩ := hx
  unfold Ctr
  k_with_none
  k_fill
  intro p loose mean mg mb dp un gd cn cs a ccd cl outer A₀ base h₀ L m hp9 gs9 dr9 tk9 os9 Q E B F X N T hkf hd hu hret
  refine wpAny_call ?_
  k_dflt cell_enter
  k_steps
  all_goals exact hret _ _ _ _ ⟨⟨_, rfl⟩, rfl⟩ (by assumption) (by assumption)
local macro_rules | `(tactic| walk_at "call ref") => `(tactic| (k_here; (with_reducible show wpAny _ _ (call (Value.ref 82) [_]) _ _ _); k_dflt (refine' ctr_use (escape_ctr ?c1 _) ?k1 ?k2 ?k3 ?k4 ?k5 ?kK ?kd ?ku ?_; (case c1 => assumption); (case k1 => k_asm); (case k2 => k_asm); (case k3 => k_asm); (case k4 => k_asm); (case k5 => k_asm); (case kK => first | exact rfl | assumption); (case kd => ktr_room); (case ku => ktr_units); k_whole); (intro v9 n9 h' tk' hR9 F' N'); (obtain ⟨⟨t', e1⟩, e2⟩ := hR9); (subst e1); (subst e2); (try dsimp only); (try k_fold)))
open PySem.Builtin PySem.Builtin.Str in
theorem replace_none {prog : Program} {w : World} {A : Around} {E : Value → Shared → Prop} {s : Shared} {x y z : Str} {t u v : Tok} {Q : Value → Shared → Prop} (hc : (occurrences x y 0 x.length (x.length + 1)).isEmpty = true)
    (hq : ∀ t' k, Q (.str x t') { s with toks := k }) : wpAny (model prog w) A (call (.builtin "str.replace") [.str x t, .str y u, .str z v]) Q E s := by
  refine call_gives PySem.F.slot_str_replace (typeIs_str _ _ _) PySem.F.entry_str_replace (PySem.F.args_str_replace_3 _ _ _) (gives_str_replace x y z t u v fun h => by simp [hc] at h) ?_
  simp only [hc, Bool.true_or, if_true]
  exact hq t s.toks
local macro_rules | `(tactic| walk_at "call builtin:str.replace") => `(tactic| (k_here; refine replace_none (by decide +kernel) ?_; intro _ _))
theorem eqi {x y : Int} {t : Tok} (e : x = y) : some (Value.int x t) = some (Value.int y t) := by rw [e]
theorem forall_one {m' : Str → Option Value} {x : Str} {v : Value} (h : m' x = some v) : ∀ p ∈ [(x, v)], m' p.1 = some p.2 := fun p hp => by rw [List.mem_singleton.mp hp]; exact h
theorem nm2 {h₀ h : Heap} {L D q l : Addr} {o : Obj} {its : Array Value} {n : Nat} {rest : List (Addr × Obj)} (N : News h₀ L h ((D, o) :: (q, bApp l) :: (l, W.listOf its n) :: rest)) {P : Prop} (k : ∀ l' q', l' = l → q' = q → P) : P := k l q rfl rfl
set_option maxRecDepth 100000 in
set_option maxHeartbeats 8000000 in
theorem trans1 {w : World} {pp : Pt} (hp : pp ∈ allP) {tk : Tok} {st : Addr} {tk2 : Tok} (τ : Option Addr) (news : List (Addr × Obj)) (h84 : ∀ q ∈ news, q.1 ≠ 84) :
   Ctr 4 w 89 [.str pp.pat tk, .ref st, .str (Str.ofString ".") tk2] ((84, tabObj (tabv τ)) :: news) (fun v news' => ∃ l its n τ', v = .ref l ∧ news' = (l, W.listOf its.toArray n) :: (84, tabObj (tabv τ')) :: news ∧ Pcs st its pp.pieces ∧ (∀ q ∈ (84, tabObj (tabv τ')) :: news, @Ne Nat q.1 l)) := by
  unfold Ctr
  k_with_none
  k_fill
  intro p loose mean mg mb dp un gd cn cs a ccd cl outer A₀ base h₀ L m hp9 gs9 dr9 tk9 os9 Q E B F X N T hkf hd hu hret
  obtain ⟨hp1, hp2, hp3, hp4, hp5⟩ := p_facts hp
  refine wpAny_call ?_
  k_dflt cell_enter
  k_with_none
  k_with "exec While Compare cons nil" => (refine cut_in ?_)
  k_steps
  k_with_none
  unfold Cut
  rename Fr _ _ _ _ => F1
  rename News _ _ _ _ => N1
  refine nm2 N1 fun l q e1 e2 => ?_
  subst e1 e2
  refine post_gen fun Q9 hQ9 => ?_
  refine ksw_while (σ := TS) (fun c => (l, W.listOf c.its.toArray c.k) :: (q, bApp l) :: (84, tabObj (tabv c.τ)) :: news) (fun c => [(Str.ofString "i", Value.int (pp.at c.j) c.ti)]) (fun _ => True) [Str.ofString "c", Str.ofString "j", Str.ofString "stuff", Str.ofString "chunks", Str.ofString "k", Str.ofString "chunk"] (fun c => c.j ≤ pp.pieces.length ∧ Pcs st c.its (pp.pieces.take c.j)) (fun c => pp.pieces.length - c.j) ⟨0, [], 0, τ, ?ti⟩ F1 ?kN trivial ?kk ?kp ?turn
  case kN => exact fun p hp => N1 p (mm6 hp)
  case kk => intro p hp; rw [List.mem_singleton.mp hp]; rfl
  case kp => exact ⟨Nat.zero_le _, .nil⟩
  case turn =>
    rintro ⟨j, its, kk, τ', ti⟩ u h tk' _ ⟨hj, hits⟩ F2 N2
    dsimp only at hj hits N2
    dsimp only [kstB] at F2
    refine post_genW fun P9 hP9 => ?_
    have hlen := hits.length
    rw [List.length_take, Nat.min_eq_left hj] at hlen
    have hsz : its.toArray.size ≤ sizeLine := by rw [List.size_toArray, sizeLine_eq]; omega
    rcases Nat.lt_or_ge j pp.pieces.length with hlt | hge
    · rcases p_piece hp hlt with ⟨c, hc1, hcc, hc2, hc3, hc4, hc5⟩ | ⟨hc1, htl, hc2, hc3, hc4, hc5, hc6⟩ | ⟨hc1, hc2, hc3, hc4, hc5, hc6⟩
      · have g1 : (Txt.item pp.pat (pp.at j : Int) == Str.ofString "*") = false := by rw [hc3]; rcases hcc with rfl | rfl | rfl <;> decide +kernel
        have g2 : (Txt.item pp.pat (pp.at j : Int) == Str.ofString "?") = false := by rw [hc3]; rcases hcc with rfl | rfl | rfl <;> decide +kernel
        have g3 : (Txt.item pp.pat (pp.at j : Int) == Str.ofString "[") = false := by rw [hc3]; rcases hcc with rfl | rfl | rfl <;> decide +kernel
        have hx : IsLetter (Txt.item pp.pat (pp.at j : Int)) := ⟨c, hcc, hc3⟩
        generalize hii : ((pp.at j : Nat) : Int) = ii at *
        k_steps
        rename Fr _ _ _ _ => F3
        rename News _ _ _ _ => N3
        rw [List.push_toArray] at N3
        have e9 : ii + 1 = ((pp.at (j + 1) : Nat) : Int) := by rw [hc4, ← hii]; rfl
        refine hP9 _ _ ?_
        refine ksw_end ⟨j + 1, its ++ [Value.str (Txt.item pp.pat ii) _], kk + 1, τ', _⟩ F3 N3 (fun p hp => hp) trivial (fun p hp => by rw [List.mem_singleton.mp hp]; exact eqi e9) (by ksw_same) ?hp ?hm
        case hp =>
          refine ⟨hlt, ?_⟩
          dsimp only
          rw [hc3, List.take_add_one, hc1]
          exact .str hits
        case hm => dsimp only; omega
      · have hii0 : ∃ ii : Int, ((pp.pre.length : Nat) : Int) = ii := ⟨_, rfl⟩
        obtain ⟨ii, hii⟩ := hii0
        have hjj : ((pp.at j : Nat) : Int) = ii := by rw [hc3, hc2, hii]
        rw [hjj] at hc4
        rw [hjj] at F2
        have hfa : (Txt.item pp.pat ii == Str.ofString "*") = false ∧ (Txt.item pp.pat ii == Str.ofString "?") = false ∧ (Txt.item pp.pat ii == Str.ofString "[") = true := by
          rw [hc4]; decide +kernel
        obtain ⟨g1, g2, g3⟩ := hfa
        have hs9 : Txt.item pp.pat (ii + 1) = S [97] ∧ ii + 4 ≤ (pp.pat.length : Int) := by
          rcases htl with htl | htl
          · obtain ⟨s1, s2, s3, s4⟩ := p_set1 hp htl
            rw [hii] at s1 s4
            exact ⟨s1, by omega⟩
          · obtain ⟨s1, s2, s2b, s3, s4⟩ := p_set2 hp htl
            rw [hii] at s1 s4
            exact ⟨s1, by omega⟩
        obtain ⟨s0, hle9⟩ := hs9
        have f1 : (Txt.item pp.pat (ii + 1) == Str.ofString "!") = false := by rw [s0]; decide +kernel
        have f2 : (Txt.item pp.pat (ii + 1) == Str.ofString "]") = false := by rw [s0]; decide +kernel
        have hlo : 0 ≤ ii := by omega
        k_with "exec If" => ((with_reducible show wpAny _ _ (exec (Stmt.If (Expr.Compare (Expr.Name (Str.ofString "j") _) [CmpOp.GtE] _ _) _ _ _) _) _ _ _); refine cut_in ?_)
        k_steps
        k_with_none
        unfold Cut
        rename MarkC _ _ _ => mk9
        rcases htl with htl | htl
        · obtain ⟨s1, s2, s3, s4⟩ := p_set1 hp htl
          rw [hii] at s1 s2 s3 s4
          have f3 : (Txt.item pp.pat (ii + 1) != Str.ofString "]") = true := by rw [s1]; decide +kernel
          have f4 : (Txt.item pp.pat (ii + 1 + 1) != Str.ofString "]") = false := by rw [s2]; decide +kernel
          have hsl : (setOf pp.tl).length = 1 := by rw [htl]; rfl
          have hk9 := scan_end mk9 (ii + 1 + 1) (by assumption) (by assumption) (by assumption) (by omega) (fun j h3 h4 => by
            have e : j = ii + 1 := by omega
            subst e
            rw [if_pos (by omega), if_pos f3]) (by rw [if_pos (by omega), if_neg (by rw [f4]; exact Bool.false_ne_true)])
          clear mk9
          subst hk9
          have hge9 : ¬ ((pp.pat.length : Int) ≤ ii + 1 + 1) := by omega
          k_with "exec If" => ((with_reducible show wpAny _ _ (exec (Stmt.If (Expr.Compare (Expr.Constant _ _ _) [CmpOp.NotIn] _ _) _ _ _) _) _ _ _); refine cut_in ?_)
          k_steps
          k_with_none
          unfold Cut
          rename Fr _ _ _ _ => F5
          rw [s3] at F5
          have g4 : (Builtin.Str.occurrences (Str.ofString "a") (Str.ofString "-") 0 (Str.ofString "a").length 1).isEmpty = true := by decide +kernel
          k_steps
          rename Fr _ _ _ _ => F3
          rename News _ _ _ _ => N3
          rw [List.push_toArray] at N3
          dsimp only [bindM] at F3
          have ex : Str.empty ++ Str.ofString "[" ++ Str.ofString "a" ++ Str.ofString "]" = S ([91] ++ setOf pp.tl ++ [93]) := by rw [htl]; decide +kernel
          have e9 : ii + 1 + 1 + 1 = ((pp.at (j + 1) : Nat) : Int) := by rw [hc5, hsl]; omega
          refine hP9 _ _ ?_
          refine ksw_end ⟨j + 1, its ++ [Value.str (Str.empty ++ Str.ofString "[" ++ Str.ofString "a" ++ Str.ofString "]") _], kk + 1, _, _⟩ F3 N3 (fun p hp => .tail _ (.tail _ hp)) trivial (fun p hp => by rw [List.mem_singleton.mp hp]; exact eqi e9) (by ksw_same) ?hp ?hm
          case hp =>
            refine ⟨hlt, ?_⟩
            dsimp only
            rw [ex, List.take_add_one, hc1]
            exact .str hits
          case hm => dsimp only; omega
        · obtain ⟨s1, s2, s2b, s3, s4⟩ := p_set2 hp htl
          rw [hii] at s1 s2 s2b s3 s4
          have f3 : (Txt.item pp.pat (ii + 1) != Str.ofString "]") = true := by rw [s1]; decide +kernel
          have f4b : (Txt.item pp.pat (ii + 1 + 1) != Str.ofString "]") = true := by rw [s2]; decide +kernel
          have f4 : (Txt.item pp.pat (ii + 1 + 1 + 1) != Str.ofString "]") = false := by rw [s2b]; decide +kernel
          have hsl : (setOf pp.tl).length = 2 := by rw [htl]; rfl
          have hk9 := scan_end mk9 (ii + 1 + 1 + 1) (by assumption) (by assumption) (by assumption) (by omega) (fun j h3 h4 => by
            have e : j = ii + 1 ∨ j = ii + 1 + 1 := by omega
            rcases e with e | e
            · subst e
              rw [if_pos (by omega), if_pos f3]
            · subst e
              rw [if_pos (by omega), if_pos f4b]) (by rw [if_pos (by omega), if_neg (by rw [f4]; exact Bool.false_ne_true)])
          clear mk9
          subst hk9
          have hge9 : ¬ ((pp.pat.length : Int) ≤ ii + 1 + 1 + 1) := by omega
          k_with "exec If" => ((with_reducible show wpAny _ _ (exec (Stmt.If (Expr.Compare (Expr.Constant _ _ _) [CmpOp.NotIn] _ _) _ _ _) _) _ _ _); refine cut_in ?_)
          k_steps
          k_with_none
          unfold Cut
          rename Fr _ _ _ _ => F5
          rw [s3] at F5
          have g4 : (Builtin.Str.occurrences (Str.ofString "ab") (Str.ofString "-") 0 (Str.ofString "ab").length 1).isEmpty = true := by decide +kernel
          k_steps
          rename Fr _ _ _ _ => F3
          rename News _ _ _ _ => N3
          rw [List.push_toArray] at N3
          dsimp only [bindM] at F3
          have ex : Str.empty ++ Str.ofString "[" ++ Str.ofString "ab" ++ Str.ofString "]" = S ([91] ++ setOf pp.tl ++ [93]) := by rw [htl]; decide +kernel
          have e9 : ii + 1 + 1 + 1 + 1 = ((pp.at (j + 1) : Nat) : Int) := by rw [hc5, hsl]; omega
          refine hP9 _ _ ?_
          refine ksw_end ⟨j + 1, its ++ [Value.str (Str.empty ++ Str.ofString "[" ++ Str.ofString "ab" ++ Str.ofString "]") _], kk + 1, _, _⟩ F3 N3 (fun p hp => .tail _ (.tail _ hp)) trivial (fun p hp => by rw [List.mem_singleton.mp hp]; exact eqi e9) (by ksw_same) ?hp ?hm
          case hp =>
            refine ⟨hlt, ?_⟩
            dsimp only
            rw [ex, List.take_add_one, hc1]
            exact .str hits
          case hm => dsimp only; omega
      · obtain ⟨its', t0, hits2⟩ := Pcs.last hits (by rw [hc5]; exact p_star hp hc6)
        subst hits2
        have g1 : (Txt.item pp.pat (pp.at j : Int) == Str.ofString "*") = true := by rw [hc2]; decide +kernel
        generalize hii : ((pp.at j : Nat) : Int) = ii at *
        have g2 : (its' ++ [Value.str (S ([91] ++ setOf pp.tl ++ [93])) t0]).isEmpty = false := by simp
        k_steps
        rename Fr _ _ _ _ => F3
        rename News _ _ _ _ => N3
        rw [List.push_toArray] at N3
        have e9 : ii + 1 = ((pp.at (j + 1) : Nat) : Int) := by rw [hc3, ← hii]; rfl
        refine hP9 _ _ ?_
        refine ksw_end ⟨j + 1, (its' ++ [Value.str (S ([91] ++ setOf pp.tl ++ [93])) t0]) ++ [Value.ref st], kk + 1, τ', _⟩ F3 N3 (fun p hp => hp) trivial (fun p hp => by rw [List.mem_singleton.mp hp]; exact eqi e9) (by ksw_same) ?hp ?hm
        case hp =>
          refine ⟨hlt, ?_⟩
          dsimp only
          rw [List.take_add_one, hc1]
          exact .star hits
        case hm => dsimp only; omega
    · have hje : j = pp.pieces.length := by omega
      have heq : ((pp.at j : Nat) : Int) = (pp.pat.length : Int) := by rw [hje, hp4]
      rw [heq] at F2
      have hdq : decide (((pp.pat.length : Nat) : Int) = ((pp.pat.length : Nat) : Int)) = true := decide_eq_true rfl
      k_steps
      refine hQ9 _ _ ?_
      k_steps
      all_goals try exact absurd rfl ‹((pp.pat.length : Nat) : Int) ≠ ((pp.pat.length : Nat) : Int)›
      rw [hje, List.take_length] at hits
      rename News _ _ _ _ => kN9
      refine hret _ _ _ _ ⟨l, its, kk, τ', rfl, rfl, hits, fun q hq => ?_⟩ (by assumption) (fun p hp => kN9 p ?_)
      · rcases List.mem_cons.mp hq with rfl | hq
        · exact Nat.ne_of_lt (And.left (by assumption : 84 < l ∧ AllLt l news))
        · exact allLt_ne (And.right (by assumption : 84 < l ∧ AllLt l news)) q hq
      · rcases List.mem_cons.mp hp with rfl | hp
        · exact .head _
        · exact .tail _ (.tail _ hp)
end Mine
end
section
open PySem PySem.W PySem.Calls PyProof.Rows PySem.W.X
namespace Mine
local macro_rules | `(tactic| k_all) => `(tactic| first
  | assumption
  | exact allLt_ne (by assumption)
  | exact ltAll_ne (by assumption)
  | exact allLt_ne (And.right (by assumption))
  | exact allLt_ne (And.right (And.right (by assumption)))
  | exact allLt_ne (And.right (And.right (And.right (by assumption))))
  | exact allLt_ne (And.right (And.right (And.right (And.right (by assumption)))))
  | exact allLt_ne (And.right (And.right (And.right (And.right (And.right (by assumption))))))
  | exact And.right (by assumption)
  | exact And.right (And.right (by assumption))
  | exact And.right (And.right (And.right (by assumption)))
  | exact And.right (And.right (And.right (And.right (by assumption)))))
local macro_rules | `(tactic| walk_at "getAttr ref") => `(tactic| (k_here; (with_reducible show wpAny _ _ (getAttr (Value.ref _) (PySem.Str.ofString "append") _) _ _ _); k_dflt (refine' getAttr_append ?k1 ?k2 ?k3 ?k4 ?k5 ?_; (case k1 => ktr_room); (case k2 => ktr_units); (case k3 => k_asm); (case k4 => k_asm); (case k5 => k_mem); k_whole); intro q' h' F' N' o1; (simp only [List.forall_mem_cons] at o1); (repeat (obtain ⟨oh, o1⟩ := o1))))
local macro_rules | `(tactic| walk_at "callWith ref") => `(tactic| (k_here; (with_reducible show wpAny _ _ (callWith _ (Value.ref _) _ (backTo _ (starEach (_ :: _) _)) []) _ _ _); k_dflt (refine' callWith_bApp ?kfbN ?kfbM ?_; (case kfbN => k_asm); (case kfbM => k_mem); k_whole)))
local macro_rules | `(tactic| walk_at "And") => `(tactic| ((with_reducible show BAt _ _ _ ∧ _); k_dflt (refine ⟨bat_of (by k_asm) (by k_mem), ?_⟩); (try dsimp only [List.nil_append, List.cons_append])))
local macro_rules | `(tactic| walk_at "call ref") => `(tactic| (k_here; (with_reducible show wpAny _ _ (call (Value.ref _) [_]) _ _ _); k_dflt (refine' call_bApp ?k1 ?k2 ?k3 ?k4 ?_ ?z; (case k1 => k_asm); (case k2 => k_asm); (case k3 => k_mem); (case k4 => k_upd); (case z => size_fits); k_whole); intro h' F' N'))
local macro_rules | `(tactic| walk_at "call type:object") => `(tactic| (k_here; k_dflt (refine' call_object ?k1 ?k2 ?k3 ?k4 ?_; (case k1 => ktr_room); (case k2 => ktr_units); (case k3 => k_asm); (case k4 => k_asm); k_whole); intro q' h' F' N' o1; (simp only [List.forall_mem_cons] at o1); (repeat (obtain ⟨oh, o1⟩ := o1))))
local macro_rules | `(tactic| walk_at "execs cons") => `(tactic| (k_here; (with_reducible refine toks_gen ?_); intro k'))

local macro_rules | `(tactic| walk_at "getMethod ref") => `(tactic| (k_here; (with_reducible show wpAny _ _ (getMethod (Value.ref 63) (PySem.Str.ofString "sub") _) _ _ _); k_dflt (refine' gm_sub ?k1 ?k2 ?_; (case k1 => k_asm); (case k2 => k_asm); k_whole)))
local macro_rules | `(tactic| walk_at "ite") => `(tactic| (k_here; first | (refine ite_pos (by with_reducible assumption) ?_; walk_say "PRUNED (own)") | (refine ite_isFalse (by with_reducible assumption) ?_; walk_say "PRUNED (own)")))
local macro_rules | `(tactic| walk_at "eval Lambda") => `(tactic| (k_here; k_dflt (refine' lam_rule ?k1 ?k2 ?k3 ?k4 ?k5 ?k6 ?k7 ?k8 ?k9 ?_; (case k1 => k_asm); (case k2 => k_asm); (case k3 => k_asm); (case k4 => k_asm); (case k5 => k_ne); (case k6 => k_ne); (case k7 => assumption); (case k8 => exact rfl); (case k9 => exact rfl); k_whole); intro f' τ' d' h' tk' F' N' n1 n2 n3 n4; (try dsimp only at n1 n2)))

local macro_rules | `(tactic| walk_at "subscriptTail") => `(tactic| (k_here; (with_reducible show wpAny _ _ (subscriptTail _ _ (Value.ref _) (Value.int (-1) _)) _ _ _); k_dflt (refine' last_item ?k1 ?k2 ?_ ?k3; (case k1 => k_asm); (case k2 => k_mem); (case k3 => with_unfolding_all rfl); k_whole)))
local macro_rules | `(tactic| walk_at "compareOp IsNot") => `(tactic| (k_here; (with_reducible show wpAny _ _ (compareOp CmpOp.IsNot (Value.str _ _) (Value.ref _)) _ _ _); refine wpAny_isNot_other (by rfl) (by intro x; cases x) ?_))
local macro_rules | `(tactic| walk_at "compareOp Is") => `(tactic| (k_here; (with_reducible show wpAny _ _ (compareOp CmpOp.Is (Value.str _ _) (Value.ref _)) _ _ _); refine wpAny_is_other (by rfl) (by intro x; cases x) ?_))
local macro_rules | `(tactic| walk_at "compareOp IsNot ref ref") => `(tactic| (k_here; with_reducible refine wpAny_isNot_ref_self ?_))
local macro_rules | `(tactic| walk_at "compareOp Is ref ref") => `(tactic| (k_here; with_reducible refine wpAny_is_ref_self ?_))

def Pt.fix (p : Pt) : List Str := (p.pre.map fun c => S [c]) ++ (if p.tl = 0 then [] else [S ([91] ++ setOf p.tl ++ [93])])
theorem pcs_strs {st : Addr} {vs : List Value} {os : List (Option (List Nat))} (h : Pcs st vs os) : ∀ xs : List (List Nat), os = xs.map some → StrsAre vs (xs.map S) := by
  induction h with
  | nil => intro xs e; cases xs with
    | nil => exact .nil
    | cons _ _ => cases e
  | @str x t vs os _ ih =>
    intro xs e
    rcases List.eq_nil_or_concat xs with rfl | ⟨ys, y, rfl⟩
    · simp at e
    · rw [List.concat_eq_append, List.map_append, List.map_cons, List.map_nil] at e
      obtain ⟨e1, e2⟩ := List.append_inj' e rfl
      simp only [List.cons.injEq, Option.some.injEq, and_true] at e2
      subst e2
      rw [List.concat_eq_append, List.map_append]
      exact (ih ys e1).append' (.cons _ t .nil)
  | star _ _ =>
    intro xs e
    rcases List.eq_nil_or_concat xs with rfl | ⟨ys, y, rfl⟩
    · simp at e
    · rw [List.concat_eq_append, List.map_append, List.map_cons, List.map_nil] at e
      obtain ⟨e1, e2⟩ := List.append_inj' e rfl
      simp at e2
theorem pcs_split {st : Addr} {vs : List Value} {p : Pt} (h : Pcs st vs p.pieces) : ∃ A, vs = A ++ (if p.tl = 0 then [] else [Value.ref st]) ∧ StrsAre A p.fix := by
  unfold Pt.pieces at h
  unfold Pt.fix
  split at h
  · refine ⟨vs, by simp [*], ?_⟩
    rw [if_pos (by assumption), List.append_nil]
    have := pcs_strs h (p.pre.map fun c => [c]) (by simp)
    simpa [List.map_map, Function.comp_def] using this
  · rename_i htl
    have h' : Pcs st vs ((p.pre.map (fun c => some [c]) ++ [some ([91] ++ setOf p.tl ++ [93])]) ++ [none]) := by simpa using h
    generalize ho : (p.pre.map (fun c => some [c]) ++ [some ([91] ++ setOf p.tl ++ [93])]) ++ [(none : Option (List Nat))] = o at h'
    cases h' with
    | nil => simp at ho
    | str h2 =>
      obtain ⟨e1, e2⟩ := List.append_inj' ho rfl
      simp at e2
    | @star vs os h2 =>
      obtain ⟨e1, e2⟩ := List.append_inj' ho rfl
      refine ⟨vs, by rw [if_neg htl], ?_⟩
      rw [if_neg htl]
      have := pcs_strs h2 ((p.pre.map fun c => [c]) ++ [[91] ++ setOf p.tl ++ [93]]) (by rw [← e1]; simp)
      simpa [List.map_map, Function.comp_def] using this
theorem item_at {prog : Program} {w : World} {A : Around} {E : Value → Shared → Prop} {s : Shared} {h₀ : Heap} {L l : Addr} {value slice : PySem.Expr} {news : List (Addr × Obj)} {vs : List Value} {v : Value} {n k : Nat} {u : Tok} {Q : Value → Shared → Prop} (N : News h₀ L s.heap news) (hm : (l, W.listOf vs.toArray n) ∈ news) (hv : vs[k]? = some v) (hk : (k : Int) < 2 ^ 63) (h : Q v s)
    (hs : subscripted slice false (.ref l) (.int (k : Int) u) = operate [.ref l, .int (k : Int) u] (getItem (.ref l) (.int (k : Int) u)) := by with_unfolding_all rfl) :
    wpAny (model prog w) A (subscriptTail value slice (.ref l) (.int (k : Int) u)) Q E s :=
  tail_any (PySem.IsL.isList (n := n) (N _ hm).1).typeIs slot_list_getitem.lookup (wpAny_getItem_list (PySem.IsL.isList (n := n) (N _ hm).1) (by omega) hk (by simpa using hv) h) hs
local macro_rules | `(tactic| walk_at "subscriptTail") => `(tactic| (k_here; (with_reducible show wpAny _ _ (subscriptTail _ _ (Value.ref _) (Value.int ((_ : Nat) : Int) _)) _ _ _); k_dflt (refine' item_at ?k1 ?k2 ?k3 ?k4 ?_ ?k5; (case k1 => k_asm); (case k2 => k_mem); (case k3 => assumption); (case k4 => omega); (case k5 => with_unfolding_all rfl); k_whole)))
theorem join_at {prog : Program} {w : World} {A : Around} {E : Value → Shared → Prop} {s : Shared} {h₀ : Heap} {L l : Addr} {news : List (Addr × Obj)} {vs : Array Value} {ys : List Str} {x y : Str} {n : Nat} {t : Tok} {Q : Value → Shared → Prop} (N : News h₀ L s.heap news) (hm : (l, W.listOf vs n) ∈ news) (hv : StrsAre vs.toList ys) (hj : (Txt.join x ys) = y) (hx : x.length ≤ 16) (hs : (ys.map (·.length)).sum + ys.length ≤ 1048576)
    (h : ∀ (t' : Tok) (k : Nat), Q (.str y t') { heap := s.heap, gens := s.gens, drawn := s.drawn, toks := k, os := s.os }) :
    wpAny (model prog w) A (call (.builtin "str.join") [.str x t, .ref l]) Q E s :=
  join_listW (PySem.IsL.isList (n := n) (N _ hm).1) hv hx hs (by rw [hj]; exact h)
local macro_rules | `(tactic| walk_at "call builtin:str.join") => `(tactic| (k_here; k_dflt (refine' join_at ?k1 ?k2 ?k3 ?k4 ?k5 ?k6 ?_; (case k1 => k_asm); (case k2 => k_mem); (case k3 => first | assumption | exact strsAre_push (by assumption)); (case k4 => assumption); (case k5 => decide +kernel); (case k6 => assumption); k_whole); intro _ _))
local macro_rules | `(tactic| walk_at "WhlIf") => `(tactic| (first | (refine WhlIf.yes (by with_reducible assumption) ?_) | (refine WhlIf.no (by with_reducible assumption) ?_)))
theorem len_at {prog : Program} {w : World} {A : Around} {E : Value → Shared → Prop} {s : Shared} {h₀ : Heap} {L l : Addr} {news : List (Addr × Obj)} {vs : Array Value} {n k : Nat} {Q : Value → Shared → Prop} (N : News h₀ L s.heap news) (hm : (l, W.listOf vs n) ∈ news) (hv : vs.size = k) (hk : (k : Int) < 2 ^ 63)
    (h : Q (.int (k : Int) (s.toks + 1)) { s with toks := s.toks + 1 + 1 }) : wpAny (model prog w) A (call (.builtin "len") [.ref l]) Q E s := by
  subst hv
  exact len_list (PySem.IsL.isList (n := n) (N _ hm).1) hk h
local macro_rules | `(tactic| walk_at "call builtin:len") => `(tactic| (k_here; k_dflt (refine' len_at ?k1 ?k2 ?k3 ?k4 ?_; (case k1 => k_asm); (case k2 => k_mem); (case k3 => assumption); (case k4 => omega); k_whole)))
structure JS where
  j : Nat
  k : Nat
  ti : Tok
theorem p_fix {p : Pt} (hp : p ∈ allP) : p.fix.length ≤ 4 ∧ (p.fix.map (·.length)).sum ≤ 20 := by
  have h := all_pats (q := fun p => decide (p.fix.length ≤ 4 ∧ (p.fix.map (·.length)).sum ≤ 20)) (by decide +kernel) hp
  exact of_decide_eq_true h
theorem p_txt0 {p : Pt} (hp : p ∈ allP) (h0 : p.tl = 0) {y : Str} (hy : Txt.join (Str.ofString "") p.fix = y) : Str.empty ++ Str.ofString "(?s:" ++ y ++ Str.ofString ")\\Z" = p.txt := by
  subst hy
  have h := all_pats (q := fun p => decide (p.tl = 0 → Str.empty ++ Str.ofString "(?s:" ++ Txt.join (Str.ofString "") p.fix ++ Str.ofString ")\\Z" = p.txt)) (by decide +kernel) hp
  exact of_decide_eq_true h h0
theorem p_joined {p : Pt} (hp : p ∈ allP) {y : Str} (hy : Txt.join (Str.ofString "") p.fix = y) : y.length ≤ 20 := by
  subst hy
  have h := all_pats (q := fun p => decide ((Txt.join (Str.ofString "") p.fix).length ≤ 20)) (by decide +kernel) hp
  exact of_decide_eq_true h
theorem nm3 {h₀ h : Heap} {L D q l : Addr} {o : Obj} {its : Array Value} {n : Nat} {rest : List (Addr × Obj)} (N : News h₀ L h ((D, o) :: (q, bApp l) :: (l, W.listOf its n) :: rest)) {P : Prop} (k : ∀ l' q', l' = l → q' = q → P) : P := k l q rfl rfl
theorem p_txt1 {p : Pt} (hp : p ∈ allP) (h0 : p.tl ≠ 0) {y : Str} (hy : Txt.join (Str.ofString "") (p.fix ++ [Str.ofString ".*"]) = y) : Str.empty ++ Str.ofString "(?s:" ++ y ++ Str.ofString ")\\Z" = p.txt := by
  subst hy
  have h := all_pats (q := fun p => decide (p.tl ≠ 0 → Str.empty ++ Str.ofString "(?s:" ++ Txt.join (Str.ofString "") (p.fix ++ [Str.ofString ".*"]) ++ Str.ofString ")\\Z" = p.txt)) (by decide +kernel) hp
  exact of_decide_eq_true h h0
theorem p_joined1 {p : Pt} (hp : p ∈ allP) {y : Str} (hy : Txt.join (Str.ofString "") (p.fix ++ [Str.ofString ".*"]) = y) : y.length ≤ 20 := by
  subst hy
  have h := all_pats (q := fun p => decide ((Txt.join (Str.ofString "") (p.fix ++ [Str.ofString ".*"])).length ≤ 20)) (by decide +kernel) hp
  exact of_decide_eq_true h
set_option maxRecDepth 100000 in
set_option maxHeartbeats 8000000 in
theorem join1 {w : World} {pp : Pt} (hp : pp ∈ allP) {st : Addr} {l0 : Addr} {A : List Value} {n0 : Nat} (hA : StrsAre A pp.fix) (h0 : pp.tl = 0) (news : List (Addr × Obj)) (h84 : ∀ q ∈ news, @Ne Nat q.1 l0) :
   Ctr 3 w 96 [.ref l0, .ref st] ((l0, W.listOf A.toArray n0) :: news) (fun v news' => ∃ t', v = .str pp.txt t' ∧ (l0, W.listOf A.toArray n0) :: news = news') := by
  unfold Ctr
  k_with_none
  k_fill
  intro p loose mean mg mb dp un gd cn cs a ccd cl outer A₀ base h₀ L m hp9 gs9 dr9 tk9 os9 Q E B F X N T hkf hd hu hret
  obtain ⟨hf1, hf2⟩ := p_fix hp
  have hAl := StrsAre.len_eq hA
  refine wpAny_call ?_
  k_dflt cell_enter
  k_with_none
  k_with "exec While BoolOp cons nil" => (refine cut_in ?_)
  k_steps
  k_with_none
  unfold Cut
  rename Fr _ _ _ _ => F1
  rename News _ _ _ _ => N1
  refine nm3 N1 fun l q e1 e2 => ?_
  subst e1 e2
  generalize hy : Txt.join (Str.ofString "") pp.fix = y
  have hy2 := p_txt0 hp h0 hy
  have hy3 : y.length ≤ 20 := p_joined hp hy
  have hf3 : (pp.fix.map (·.length)).sum + pp.fix.length ≤ 1048576 := by omega
  refine post_gen fun Q9 hQ9 => ?_
  refine ksw_while (σ := JS) (fun c => (q, bApp l) :: (l, W.listOf (A.take c.j).toArray c.k) :: (l0, W.listOf A.toArray n0) :: news) (fun c => [(Str.ofString "i", Value.int (c.j : Int) c.ti)]) (fun _ => True) [] (fun c => c.j ≤ A.length) (fun c => A.length - c.j) ⟨0, 0, ?ti⟩ F1 ?kN trivial ?kk ?kp ?turn
  case kN => intro p hp; exact N1 p (.tail _ hp)
  case kk => intro p hp; rw [List.mem_singleton.mp hp]; rfl
  case kp => exact Nat.zero_le _
  case turn =>
    rintro ⟨j, kk, ti⟩ u h tk' _ hj F2 N2
    dsimp only at hj N2
    dsimp only [kstB] at F2
    refine post_genW fun P9 hP9 => ?_
    rcases Nat.lt_or_ge j A.length with hlt | hge
    · obtain ⟨x, hx1⟩ : ∃ x, pp.fix[j]? = some x := ⟨_, List.getElem?_eq_getElem (by omega)⟩
      obtain ⟨t, hx2⟩ := StrsAre.get (by assumption) _ _ hx1
      rename StrsAre _ _ => hA9
      clear hA9
      have hd1 : decide ((j : Int) < (pp.fix.length : Int)) = true := decide_eq_true (by omega)
      have hsz : (A.take j).toArray.size ≤ sizeLine := by rw [List.size_toArray, List.length_take, sizeLine_eq]; omega
      k_steps
      rename Fr _ _ _ _ => F3
      rename News _ _ _ _ => N3
      rw [List.push_toArray] at N3
      refine hP9 _ _ ?_
      refine ksw_end ⟨j + 1, kk + 1, _⟩ F3 N3 (fun p hp => ?_) trivial (fun p hp => by rw [List.mem_singleton.mp hp]; exact rfl) (by ksw_same) ?hp ?hm
      case hp => exact hlt
      case hm => dsimp only; omega
      dsimp only at hp
      rw [List.take_add_one, hx2] at hp
      exact hp
    · have e : j = A.length := by omega
      subst e
      rw [List.take_length] at N2
      rw [hAl] at F2
      have hd1 : decide ((pp.fix.length : Int) < (pp.fix.length : Int)) = false := decide_eq_false (by omega)
      have hd2 : decide ((pp.fix.length : Int) = (pp.fix.length : Int)) = true := decide_eq_true rfl
      k_steps
      refine hQ9 _ _ ?_
      k_steps
      all_goals try exact absurd rfl ‹((pp.fix.length : Nat) : Int) ≠ ((pp.fix.length : Nat) : Int)›
      rename News _ _ _ _ => kN9
      refine hret _ _ _ _ ⟨_, by rw [hy2], rfl⟩ (by assumption) (fun p hp => kN9 p (by first | exact .tail _ hp | exact .tail _ (.tail _ hp) | exact .tail _ (.tail _ (.tail _ hp))))
set_option maxRecDepth 100000 in
set_option maxHeartbeats 8000000 in
theorem join2 {w : World} {pp : Pt} (hp : pp ∈ allP) {st : Addr} {l0 : Addr} {A : List Value} {n0 : Nat} (hA : StrsAre A pp.fix) (h0 : pp.tl ≠ 0) (news : List (Addr × Obj)) (h84 : ∀ q ∈ news, @Ne Nat q.1 l0) :
   Ctr 3 w 96 [.ref l0, .ref st] ((l0, W.listOf (A ++ [Value.ref st]).toArray n0) :: news) (fun v news' => ∃ t', v = .str pp.txt t' ∧ (l0, W.listOf (A ++ [Value.ref st]).toArray n0) :: news = news') := by
  unfold Ctr
  k_with_none
  k_fill
  intro p loose mean mg mb dp un gd cn cs a ccd cl outer A₀ base h₀ L m hp9 gs9 dr9 tk9 os9 Q E B F X N T hkf hd hu hret
  obtain ⟨hf1, hf2⟩ := p_fix hp
  have hAl := StrsAre.len_eq hA
  have hA9 : Cut (StrsAre A pp.fix) := hA
  clear hA
  obtain ⟨nn, hnn⟩ : ∃ nn, (A ++ [Value.ref st]).toArray.size = nn := ⟨_, rfl⟩
  have hn2 : nn = A.length + 1 := by rw [← hnn]; simp
  refine wpAny_call ?_
  k_dflt cell_enter
  k_with_none
  k_with "exec While BoolOp cons nil" => (refine cut_in ?_)
  k_steps
  k_with_none
  unfold Cut
  rename Fr _ _ _ _ => F1
  rename News _ _ _ _ => N1
  refine nm3 N1 fun l q e1 e2 => ?_
  subst e1 e2
  generalize hy : Txt.join (Str.ofString "") (pp.fix ++ [Str.ofString ".*"]) = y
  have hy2 := p_txt1 hp h0 hy
  have hy3 : y.length ≤ 20 := p_joined1 hp hy
  have hf3 : ((pp.fix ++ [Str.ofString ".*"]).map (·.length)).sum + (pp.fix ++ [Str.ofString ".*"]).length ≤ 1048576 := by
    have e : ([Str.ofString ".*"].map (·.length)).sum = 2 := by decide +kernel
    rw [List.map_append, List.sum_append, e]
    simp only [List.length_append, List.length_singleton]
    omega
  refine post_gen fun Q9 hQ9 => ?_
  refine ksw_while (σ := JS) (fun c => (q, bApp l) :: (l, W.listOf (A.take c.j).toArray c.k) :: (l0, W.listOf (A ++ [Value.ref st]).toArray n0) :: news) (fun c => [(Str.ofString "i", Value.int (c.j : Int) c.ti)]) (fun _ => True) [] (fun c => c.j ≤ A.length) (fun c => A.length - c.j) ⟨0, 0, ?ti⟩ F1 ?kN trivial ?kk ?kp ?turn
  case kN => intro p hp; exact N1 p (.tail _ hp)
  case kk => intro p hp; rw [List.mem_singleton.mp hp]; rfl
  case kp => exact Nat.zero_le _
  case turn =>
    rintro ⟨j, kk, ti⟩ u h tk' _ hj F2 N2
    dsimp only at hj N2
    dsimp only [kstB] at F2
    refine post_genW fun P9 hP9 => ?_
    have hd1 : decide ((j : Int) < (nn : Int)) = true := decide_eq_true (by omega)
    rcases Nat.lt_or_ge j A.length with hlt | hge
    · obtain ⟨x, hx1⟩ : ∃ x, pp.fix[j]? = some x := ⟨_, List.getElem?_eq_getElem (by omega)⟩
      obtain ⟨t, hx2⟩ := StrsAre.get hA9 _ _ hx1
      have hx3 : (A ++ [Value.ref st])[j]? = some (.str x t) := by rw [List.getElem?_append_left hlt]; exact hx2
      have hsz : (A.take j).toArray.size ≤ sizeLine := by rw [List.size_toArray, List.length_take, sizeLine_eq]; omega
      k_steps
      rename Fr _ _ _ _ => F3
      rename News _ _ _ _ => N3
      rw [List.push_toArray] at N3
      refine hP9 _ _ ?_
      refine ksw_end ⟨j + 1, kk + 1, _⟩ F3 N3 (fun p hp => ?_) trivial (fun p hp => by rw [List.mem_singleton.mp hp]; exact rfl) (by ksw_same) ?hp ?hm
      case hp => exact hlt
      case hm => dsimp only; omega
      dsimp only at hp
      rw [List.take_add_one, hx2] at hp
      exact hp
    · have e : j = A.length := by omega
      subst e
      rw [List.take_length] at N2
      have hx3 : (A ++ [Value.ref st])[A.length]? = some (.ref st) := by simp
      have hsz : A.toArray.size ≤ sizeLine := by rw [List.size_toArray, sizeLine_eq]; omega
      have hd2 : ((A.length : Int) + 1) = (nn : Int) := by omega
      have hd3 : decide (((A.length : Int) + 1) = (nn : Int)) = true := decide_eq_true hd2
      k_steps
      refine hQ9 _ _ ?_
      k_steps
      all_goals try exact absurd hd2 ‹((A.length : Int) + 1) ≠ (nn : Int)›
      rename News _ _ _ _ => kN9
      refine hret _ _ _ _ ⟨_, by rw [hy2], rfl⟩ (by assumption) (fun p hp => kN9 p (by first | exact .tail _ hp | exact .tail _ (.tail _ hp) | exact .tail _ (.tail _ (.tail _ hp))))
end Mine
end
section
open PySem PySem.W PySem.Calls PyProof.Rows PySem.W.X
namespace Mine
local macro_rules | `(tactic| k_all) => `(tactic| first
  | assumption
  | exact allLt_ne (by assumption)
  | exact ltAll_ne (by assumption)
  | exact allLt_ne (And.right (by assumption))
  | exact allLt_ne (And.right (And.right (by assumption)))
  | exact allLt_ne (And.right (And.right (And.right (by assumption))))
  | exact allLt_ne (And.right (And.right (And.right (And.right (by assumption)))))
  | exact allLt_ne (And.right (And.right (And.right (And.right (And.right (by assumption))))))
  | exact And.right (by assumption)
  | exact And.right (And.right (by assumption))
  | exact And.right (And.right (And.right (by assumption)))
  | exact And.right (And.right (And.right (And.right (by assumption)))))
local macro_rules | `(tactic| walk_at "getAttr ref") => `(tactic| (k_here; (with_reducible show wpAny _ _ (getAttr (Value.ref _) (PySem.Str.ofString "append") _) _ _ _); k_dflt (refine' getAttr_append ?k1 ?k2 ?k3 ?k4 ?k5 ?_; (case k1 => ktr_room); (case k2 => ktr_units); (case k3 => k_asm); (case k4 => k_asm); (case k5 => k_mem); k_whole); intro q' h' F' N' o1; (simp only [List.forall_mem_cons] at o1); (repeat (obtain ⟨oh, o1⟩ := o1))))
local macro_rules | `(tactic| walk_at "callWith ref") => `(tactic| (k_here; (with_reducible show wpAny _ _ (callWith _ (Value.ref _) _ (backTo _ (starEach (_ :: _) _)) []) _ _ _); k_dflt (refine' callWith_bApp ?kfbN ?kfbM ?_; (case kfbN => k_asm); (case kfbM => k_mem); k_whole)))
local macro_rules | `(tactic| walk_at "And") => `(tactic| ((with_reducible show BAt _ _ _ ∧ _); k_dflt (refine ⟨bat_of (by k_asm) (by k_mem), ?_⟩); (try dsimp only [List.nil_append, List.cons_append])))
local macro_rules | `(tactic| walk_at "call ref") => `(tactic| (k_here; (with_reducible show wpAny _ _ (call (Value.ref _) [_]) _ _ _); k_dflt (refine' call_bApp ?k1 ?k2 ?k3 ?k4 ?_ ?z; (case k1 => k_asm); (case k2 => k_asm); (case k3 => k_mem); (case k4 => k_upd); (case z => size_fits); k_whole); intro h' F' N'))
local macro_rules | `(tactic| walk_at "call type:object") => `(tactic| (k_here; k_dflt (refine' call_object ?k1 ?k2 ?k3 ?k4 ?_; (case k1 => ktr_room); (case k2 => ktr_units); (case k3 => k_asm); (case k4 => k_asm); k_whole); intro q' h' F' N' o1; (simp only [List.forall_mem_cons] at o1); (repeat (obtain ⟨oh, o1⟩ := o1))))
local macro_rules | `(tactic| walk_at "execs cons") => `(tactic| (k_here; (with_reducible refine toks_gen ?_); intro k'))

local macro_rules | `(tactic| walk_at "getMethod ref") => `(tactic| (k_here; (with_reducible show wpAny _ _ (getMethod (Value.ref 63) (PySem.Str.ofString "sub") _) _ _ _); k_dflt (refine' gm_sub ?k1 ?k2 ?_; (case k1 => k_asm); (case k2 => k_asm); k_whole)))
local macro_rules | `(tactic| walk_at "ite") => `(tactic| (k_here; first | (refine ite_pos (by with_reducible assumption) ?_; walk_say "PRUNED (own)") | (refine ite_isFalse (by with_reducible assumption) ?_; walk_say "PRUNED (own)")))
local macro_rules | `(tactic| walk_at "eval Lambda") => `(tactic| (k_here; k_dflt (refine' lam_rule ?k1 ?k2 ?k3 ?k4 ?k5 ?k6 ?k7 ?k8 ?k9 ?_; (case k1 => k_asm); (case k2 => k_asm); (case k3 => k_asm); (case k4 => k_asm); (case k5 => k_ne); (case k6 => k_ne); (case k7 => assumption); (case k8 => exact rfl); (case k9 => exact rfl); k_whole); intro f' τ' d' h' tk' F' N' n1 n2 n3 n4; (try dsimp only at n1 n2)))

local macro_rules | `(tactic| walk_at "subscriptTail") => `(tactic| (k_here; (with_reducible show wpAny _ _ (subscriptTail _ _ (Value.ref _) (Value.int (-1) _)) _ _ _); k_dflt (refine' last_item ?k1 ?k2 ?_ ?k3; (case k1 => k_asm); (case k2 => k_mem); (case k3 => with_unfolding_all rfl); k_whole)))
local macro_rules | `(tactic| walk_at "compareOp IsNot") => `(tactic| (k_here; (with_reducible show wpAny _ _ (compareOp CmpOp.IsNot (Value.str _ _) (Value.ref _)) _ _ _); refine wpAny_isNot_other (by rfl) (by intro x; cases x) ?_))
local macro_rules | `(tactic| walk_at "compareOp Is") => `(tactic| (k_here; (with_reducible show wpAny _ _ (compareOp CmpOp.Is (Value.str _ _) (Value.ref _)) _ _ _); refine wpAny_is_other (by rfl) (by intro x; cases x) ?_))
local macro_rules | `(tactic| walk_at "compareOp IsNot ref ref") => `(tactic| (k_here; with_reducible refine wpAny_isNot_ref_self ?_))
local macro_rules | `(tactic| walk_at "compareOp Is ref ref") => `(tactic| (k_here; with_reducible refine wpAny_is_ref_self ?_))

theorem news_swap {h₀ h : Heap} {L : Addr} {a b : Addr × Obj} {l : List (Addr × Obj)} (N : News h₀ L h (a :: b :: l)) : News h₀ L h (b :: a :: l) := fun p hp => N p (by
  rcases List.mem_cons.mp hp with rfl | hp
  · exact .tail _ (.head _)
  rcases List.mem_cons.mp hp with rfl | hp
  · exact .head _
  · exact .tail _ (.tail _ hp))
theorem join_ctr {w : World} {pp : Pt} (hp : pp ∈ allP) {st : Addr} {l0 : Addr} {its : List Value} {n0 : Nat} (hits : Pcs st its pp.pieces) (news : List (Addr × Obj)) (h84 : ∀ q ∈ news, @Ne Nat q.1 l0) :
   Ctr 3 w 96 [.ref l0, .ref st] ((l0, W.listOf its.toArray n0) :: news) (fun v news' => ∃ t', v = .str pp.txt t' ∧ (l0, W.listOf its.toArray n0) :: news = news') := by
  obtain ⟨A, e, hA⟩ := pcs_split hits
  by_cases h0 : pp.tl = 0
  · rw [if_pos h0, List.append_nil] at e
    subst e
    exact join1 hp hA h0 news h84
  · rw [if_neg h0] at e
    subst e
    exact join2 hp hA h0 news h84
set_option maxRecDepth 100000 in
set_option maxHeartbeats 8000000 in
theorem translate_ctr {w : World} {pp : Pt} (hp : pp ∈ allP) {tk : Tok} (τ : Option Addr) (news : List (Addr × Obj)) (h84 : ∀ q ∈ news, q.1 ≠ 84) :
   Ctr 6 w 70 [.str pp.pat tk] ((84, tabObj (tabv τ)) :: news) (fun v news' => ∃ t' τ', v = .str pp.txt t' ∧ (84, tabObj (tabv τ')) :: news = news') := by
  unfold Ctr
  k_with_none
  k_fill
  intro p loose mean mg mb dp un gd cn cs a ccd cl outer A₀ base h₀ L m hp9 gs9 dr9 tk9 os9 Q E B F X N T hkf hd hu hret
  refine wpAny_call ?_
  k_dflt cell_enter
  k_with_none
  k_with "call ref" => (refine cut_in ?_)
  k_steps
  unfold Cut
  rename News _ _ _ _ => N1
  rename Fr _ _ _ _ => F1
  rename Below _ _ _ _ => B1
  rename Top _ _ _ _ _ _ => T1
  rename Frag.In _ _ => X1
  rename @Ne Nat 84 _ => o84
  refine ctr_use (trans1 hp τ _ ?h84) B1 F1 X1 (news_swap N1) T1 rfl (by ktr_room) (by ktr_units) ?_
  case h84 =>
    intro q hq
    rcases List.mem_cons.mp hq with rfl | hq
    · exact fun e => o84 e.symm
    · exact h84 q hq
  rintro v news' h' tk' ⟨l, its, n, τ', rfl, rfl, hits, hne⟩ F3 N3
  try dsimp only
  k_steps
  unfold Cut
  rename News _ _ _ _ => N5
  rename Fr _ _ _ _ => F5
  refine ctr_use (join_ctr hp hits _ hne) B1 F5 X1 N5 T1 rfl (by ktr_room) (by ktr_units) ?_
  rintro v news' h' tk' ⟨t', rfl, rfl⟩ F7 N7
  try dsimp only
  k_steps
  rename News _ _ _ _ => N9
  refine hret _ _ _ _ ⟨_, τ', rfl, rfl⟩ (by assumption) (fun p hp => N9 p ?_)
  rcases List.mem_cons.mp hp with rfl | hp
  · exact .tail _ (.head _)
  · exact .tail _ (.tail _ (.tail _ hp))
end Mine
end
section
open PySem PySem.W PySem.Calls PyProof.Rows PySem.W.X
namespace Mine
local macro_rules | `(tactic| k_all) => `(tactic| first
  | assumption
  | exact allLt_ne (by assumption)
  | exact ltAll_ne (by assumption)
  | exact allLt_ne (And.right (by assumption))
  | exact allLt_ne (And.right (And.right (by assumption)))
  | exact allLt_ne (And.right (And.right (And.right (by assumption))))
  | exact allLt_ne (And.right (And.right (And.right (And.right (by assumption)))))
  | exact allLt_ne (And.right (And.right (And.right (And.right (And.right (by assumption))))))
  | exact And.right (by assumption)
  | exact And.right (And.right (by assumption))
  | exact And.right (And.right (And.right (by assumption)))
  | exact And.right (And.right (And.right (And.right (by assumption)))))
local macro_rules | `(tactic| walk_at "getAttr ref") => `(tactic| (k_here; (with_reducible show wpAny _ _ (getAttr (Value.ref _) (PySem.Str.ofString "append") _) _ _ _); k_dflt (refine' getAttr_append ?k1 ?k2 ?k3 ?k4 ?k5 ?_; (case k1 => ktr_room); (case k2 => ktr_units); (case k3 => k_asm); (case k4 => k_asm); (case k5 => k_mem); k_whole); intro q' h' F' N' o1; (simp only [List.forall_mem_cons] at o1); (repeat (obtain ⟨oh, o1⟩ := o1))))
local macro_rules | `(tactic| walk_at "callWith ref") => `(tactic| (k_here; (with_reducible show wpAny _ _ (callWith _ (Value.ref _) _ (backTo _ (starEach (_ :: _) _)) []) _ _ _); k_dflt (refine' callWith_bApp ?kfbN ?kfbM ?_; (case kfbN => k_asm); (case kfbM => k_mem); k_whole)))
local macro_rules | `(tactic| walk_at "And") => `(tactic| ((with_reducible show BAt _ _ _ ∧ _); k_dflt (refine ⟨bat_of (by k_asm) (by k_mem), ?_⟩); (try dsimp only [List.nil_append, List.cons_append])))
local macro_rules | `(tactic| walk_at "call ref") => `(tactic| (k_here; (with_reducible show wpAny _ _ (call (Value.ref _) [_]) _ _ _); k_dflt (refine' call_bApp ?k1 ?k2 ?k3 ?k4 ?_ ?z; (case k1 => k_asm); (case k2 => k_asm); (case k3 => k_mem); (case k4 => k_upd); (case z => size_fits); k_whole); intro h' F' N'))
local macro_rules | `(tactic| walk_at "call type:object") => `(tactic| (k_here; k_dflt (refine' call_object ?k1 ?k2 ?k3 ?k4 ?_; (case k1 => ktr_room); (case k2 => ktr_units); (case k3 => k_asm); (case k4 => k_asm); k_whole); intro q' h' F' N' o1; (simp only [List.forall_mem_cons] at o1); (repeat (obtain ⟨oh, o1⟩ := o1))))
local macro_rules | `(tactic| walk_at "execs cons") => `(tactic| (k_here; (with_reducible refine toks_gen ?_); intro k'))

local macro_rules | `(tactic| walk_at "getMethod ref") => `(tactic| (k_here; (with_reducible show wpAny _ _ (getMethod (Value.ref 63) (PySem.Str.ofString "sub") _) _ _ _); k_dflt (refine' gm_sub ?k1 ?k2 ?_; (case k1 => k_asm); (case k2 => k_asm); k_whole)))
local macro_rules | `(tactic| walk_at "ite") => `(tactic| (k_here; first | (refine ite_pos (by with_reducible assumption) ?_; walk_say "PRUNED (own)") | (refine ite_isFalse (by with_reducible assumption) ?_; walk_say "PRUNED (own)")))
local macro_rules | `(tactic| walk_at "eval Lambda") => `(tactic| (k_here; k_dflt (refine' lam_rule ?k1 ?k2 ?k3 ?k4 ?k5 ?k6 ?k7 ?k8 ?k9 ?_; (case k1 => k_asm); (case k2 => k_asm); (case k3 => k_asm); (case k4 => k_asm); (case k5 => k_ne); (case k6 => k_ne); (case k7 => assumption); (case k8 => exact rfl); (case k9 => exact rfl); k_whole); intro f' τ' d' h' tk' F' N' n1 n2 n3 n4; (try dsimp only at n1 n2)))

local macro_rules | `(tactic| walk_at "subscriptTail") => `(tactic| (k_here; (with_reducible show wpAny _ _ (subscriptTail _ _ (Value.ref _) (Value.int (-1) _)) _ _ _); k_dflt (refine' last_item ?k1 ?k2 ?_ ?k3; (case k1 => k_asm); (case k2 => k_mem); (case k3 => with_unfolding_all rfl); k_whole)))
local macro_rules | `(tactic| walk_at "compareOp IsNot") => `(tactic| (k_here; (with_reducible show wpAny _ _ (compareOp CmpOp.IsNot (Value.str _ _) (Value.ref _)) _ _ _); refine wpAny_isNot_other (by rfl) (by intro x; cases x) ?_))
local macro_rules | `(tactic| walk_at "compareOp Is") => `(tactic| (k_here; (with_reducible show wpAny _ _ (compareOp CmpOp.Is (Value.str _ _) (Value.ref _)) _ _ _); refine wpAny_is_other (by rfl) (by intro x; cases x) ?_))
local macro_rules | `(tactic| walk_at "compareOp IsNot ref ref") => `(tactic| (k_here; with_reducible refine wpAny_isNot_ref_self ?_))
local macro_rules | `(tactic| walk_at "compareOp Is ref ref") => `(tactic| (k_here; with_reducible refine wpAny_is_ref_self ?_))

local macro_rules | `(tactic| walk_at "subscriptTail") => `(tactic| (k_here; (with_reducible show wpAny _ _ (subscriptTail _ _ (Value.ref _) (Value.int ((_ : Nat) : Int) _)) _ _ _); k_dflt (refine' item_at ?k1 ?k2 ?k3 ?k4 ?_ ?k5; (case k1 => k_asm); (case k2 => k_mem); (case k3 => assumption); (case k4 => omega); (case k5 => with_unfolding_all rfl); k_whole)))
local macro_rules | `(tactic| walk_at "call builtin:str.join") => `(tactic| (k_here; k_dflt (refine' join_at ?k1 ?k2 ?k3 ?k4 ?k5 ?k6 ?_; (case k1 => k_asm); (case k2 => k_mem); (case k3 => first | assumption | exact strsAre_push (by assumption)); (case k4 => assumption); (case k5 => decide +kernel); (case k6 => assumption); k_whole); intro _ _))
local macro_rules | `(tactic| walk_at "WhlIf") => `(tactic| (first | (refine WhlIf.yes (by with_reducible assumption) ?_) | (refine WhlIf.no (by with_reducible assumption) ?_)))
local macro_rules | `(tactic| walk_at "call builtin:len") => `(tactic| (k_here; k_dflt (refine' len_at ?k1 ?k2 ?k3 ?k4 ?_; (case k1 => k_asm); (case k2 => k_mem); (case k3 => assumption); (case k4 => omega); k_whole)))
def tupO (vs : List Value) : Obj := { cls := .type "tuple", data := .seq vs.toArray }
def unitD (cs : List Nat) : Dat := .tuple [.bool false, .list (cs.map fun c => .tuple [.str (S [c]), .str (S [c])])]
/-- `_law_unit`'s answer: the pair of a unit and the place behind it -/
def UnitRet (cs : List Nat) (k : Int) (news : List (Addr × Obj)) (v : Value) (news' : List (Addr × Obj)) : Prop :=
  ∃ (b u : Addr) (t : Tok) (add : List (Addr × Obj)), v = .ref b ∧ news' = (b, tupO [.ref u, .int k t]) :: (add ++ news) ∧ DatIn add (.ref u) (unitD cs) ∧ (∀ r ∈ news, @Ne Nat r.1 b) ∧ (∀ q ∈ add, ∀ r ∈ news, @Ne Nat r.1 q.1)
set_option maxRecDepth 100000 in
set_option maxHeartbeats 8000000 in
theorem unit_letter {w : World} {x : Str} {tk : Tok} {k : Int} {tk2 : Tok} {c : Nat} (news : List (Addr × Obj)) (hk : 0 ≤ k) (hk2 : k < x.length) (hl : x.length < 100) (hc : Txt.item x k = S [c]) (hcc : c = 97 ∨ c = 98 ∨ c = 99) (hs : (Txt.slice x (some k) (some (k + 4)) == Str.ofString "(?!)") = false) :
   Ctr 2 w 103 [.str x tk, .int k tk2] news (UnitRet [c] (k + 1) news) := by
  unfold Ctr
  k_with_none
  k_fill
  intro p loose mean mg mb dp un gd cn cs a ccd cl outer A₀ base h₀ L m hp9 gs9 dr9 tk9 os9 Q E B F X N T hkf hd hu hret
  refine wpAny_call ?_
  k_dflt cell_enter
  have e0 : k + 0 = k := by omega
  have g1 : (Txt.item x k == Str.ofString ".") = false := by rw [hc]; rcases hcc with rfl | rfl | rfl <;> decide +kernel
  have g3 : (Txt.item x k != Str.ofString "[") = true := by rw [hc]; rcases hcc with rfl | rfl | rfl <;> decide +kernel
  have g4 : (Txt.item x k != Str.ofString "\\") = true := by rw [hc]; rcases hcc with rfl | rfl | rfl <;> decide +kernel
  have g5 : (Builtin.Str.occurrences (Str.ofString "$()*+?^{|") (Txt.item x (k + 0)) 0 (Str.ofString "$()*+?^{|").length 1).isEmpty = true := by rw [e0, hc]; rcases hcc with rfl | rfl | rfl <;> decide +kernel
  k_steps
  rename News _ _ _ _ => N9
  simp only [e0, hc] at N9
  refine hret _ _ _ _ ⟨_, _, _, [_, _, _], rfl, rfl, ?d, ?n1, ?n2⟩ (by assumption) N9
  case d => exact .tuple (.head _) (.cons (.bool _) (.one (.list (.tail _ (.head _)) (.one (.tuple (.tail _ (.tail _ (.head _))) (.cons (.str _ _) (.one (.str _ _))))))))
  case n1 => k_all
  case n2 =>
    intro q hq
    rcases List.mem_cons.mp hq with rfl | hq
    · k_all
    rcases List.mem_cons.mp hq with rfl | hq
    · k_all
    rcases List.mem_cons.mp hq with rfl | hq
    · k_all
    cases hq
set_option maxRecDepth 100000 in
set_option maxHeartbeats 8000000 in
theorem unit_set1 {w : World} {x : Str} {tk : Tok} {k : Int} {tk2 : Tok} (news : List (Addr × Obj)) (hk : 0 ≤ k) (hk2 : k + 2 < x.length) (hl : x.length < 100) (hc : Txt.item x k = S [91]) (hc1 : Txt.item x (k + 1) = S [97]) (hc2 : Txt.item x (k + 2) = S [93]) (hs : (Txt.slice x (some k) (some (k + 4)) == Str.ofString "(?!)") = false) :
   Ctr 2 w 103 [.str x tk, .int k tk2] news (UnitRet [97] (k + 3) news) := by
  unfold Ctr
  k_with_none
  k_fill
  intro p loose mean mg mb dp un gd cn cs a ccd cl outer A₀ base h₀ L m hp9 gs9 dr9 tk9 os9 Q E B F X N T hkf hd hu hret
  refine wpAny_call ?_
  k_dflt cell_enter
  have e0 : k + 1 + 0 = k + 1 := by omega
  have e2 : k + 1 + 0 + 1 = k + 2 := by omega
  have e3 : k + 1 + 0 + 1 + 1 = k + 3 := by omega
  have g1 : (Txt.item x k == Str.ofString ".") = false := by rw [hc]; decide +kernel
  have g3 : (Txt.item x k != Str.ofString "[") = false := by rw [hc]; decide +kernel
  have g4 : (Txt.item x (k + 1) == Str.ofString "^") = false := by rw [hc1]; decide +kernel
  have g5 : (Txt.item x (k + 1) != Str.ofString "]") = true := by rw [hc1]; decide +kernel
  have g6 : (Txt.item x (k + 1) == Str.ofString "\\") = false := by rw [hc1]; decide +kernel
  have g7 : (Txt.item x (k + 1 + 0 + 1) == Str.ofString "-") = false := by rw [e2, hc2]; decide +kernel
  have g8 : (Txt.item x (k + 1 + 0 + 1) != Str.ofString "]") = false := by rw [e2, hc2]; decide +kernel
  k_steps
  rename News _ _ _ _ => N9
  have e9 : k + 1 + 1 + 1 = k + 3 := by omega
  simp only [g4, e0, e9, hc1, List.push_toArray, List.nil_append] at N9
  refine hret _ _ _ _ ⟨_, _, _, [_, _, _], rfl, rfl, ?d, ?n1, ?n2⟩ (by assumption) N9
  case d => exact .tuple (.head _) (.cons (.bool _) (.one (.list (.tail _ (.tail _ (.head _))) (.one (.tuple (.tail _ (.head _)) (.cons (.str _ _) (.one (.str _ _))))))))
  case n1 => k_all
  case n2 =>
    intro q hq
    rcases List.mem_cons.mp hq with rfl | hq
    · k_all
    rcases List.mem_cons.mp hq with rfl | hq
    · k_all
    rcases List.mem_cons.mp hq with rfl | hq
    · k_all
    cases hq
set_option maxRecDepth 100000 in
set_option maxHeartbeats 8000000 in
theorem unit_set2 {w : World} {x : Str} {tk : Tok} {k : Int} {tk2 : Tok} (news : List (Addr × Obj)) (hk : 0 ≤ k) (hk2 : k + 3 < x.length) (hl : x.length < 100) (hc : Txt.item x k = S [91]) (hc1 : Txt.item x (k + 1) = S [97]) (hc2 : Txt.item x (k + 2) = S [98]) (hc3 : Txt.item x (k + 3) = S [93]) (hs : (Txt.slice x (some k) (some (k + 4)) == Str.ofString "(?!)") = false) :
   Ctr 2 w 103 [.str x tk, .int k tk2] news (UnitRet [97, 98] (k + 4) news) := by
  unfold Ctr
  k_with_none
  k_fill
  intro p loose mean mg mb dp un gd cn cs a ccd cl outer A₀ base h₀ L m hp9 gs9 dr9 tk9 os9 Q E B F X N T hkf hd hu hret
  refine wpAny_call ?_
  k_dflt cell_enter
  have e0 : k + 1 + 0 = k + 1 := by omega
  have e2 : k + 1 + 0 + 1 = k + 2 := by omega
  have e3 : k + 1 + 0 + 1 + 1 = k + 3 := by omega
  have g1 : (Txt.item x k == Str.ofString ".") = false := by rw [hc]; decide +kernel
  have g3 : (Txt.item x k != Str.ofString "[") = false := by rw [hc]; decide +kernel
  have g4 : (Txt.item x (k + 1) == Str.ofString "^") = false := by rw [hc1]; decide +kernel
  have g5 : (Txt.item x (k + 1) != Str.ofString "]") = true := by rw [hc1]; decide +kernel
  have g6 : (Txt.item x (k + 1) == Str.ofString "\\") = false := by rw [hc1]; decide +kernel
  have g7 : (Txt.item x (k + 1 + 0 + 1) == Str.ofString "-") = false := by rw [e2, hc2]; decide +kernel
  have g8 : (Txt.item x (k + 1 + 0 + 1) != Str.ofString "]") = true := by rw [e2, hc2]; decide +kernel
  have g9 : (Txt.item x (k + 1 + 0 + 1) == Str.ofString "\\") = false := by rw [e2, hc2]; decide +kernel
  have e4 : k + 1 + 0 + 1 + 0 + 1 = k + 3 := by omega
  have g10 : (Txt.item x (k + 1 + 0 + 1 + 0 + 1) == Str.ofString "-") = false := by rw [e4, hc3]; decide +kernel
  have g11 : (Txt.item x (k + 1 + 0 + 1 + 0 + 1) != Str.ofString "]") = false := by rw [e4, hc3]; decide +kernel
  k_steps
  rename News _ _ _ _ => N9
  have e5 : k + 1 + 1 + 0 = k + 2 := by omega
  have e6 : k + 2 + 1 + 1 = k + 4 := by omega
  simp only [g4, e0, e5, e6, hc1, hc2, List.push_toArray, List.nil_append, List.cons_append] at N9
  refine hret _ _ _ _ ⟨_, _, _, [_, _, _, _], rfl, rfl, ?d, ?n1, ?n2⟩ (by assumption) N9
  case d => exact .tuple (.head _) (.cons (.bool _) (.one (.list (.tail _ (.tail _ (.tail _ (.head _)))) (.cons (.tuple (.tail _ (.tail _ (.head _))) (.cons (.str _ _) (.one (.str _ _)))) (.one (.tuple (.tail _ (.head _)) (.cons (.str _ _) (.one (.str _ _)))))))))
  case n1 => k_all
  case n2 =>
    intro q hq
    rcases List.mem_cons.mp hq with rfl | hq
    · k_all
    rcases List.mem_cons.mp hq with rfl | hq
    · k_all
    rcases List.mem_cons.mp hq with rfl | hq
    · k_all
    rcases List.mem_cons.mp hq with rfl | hq
    · k_all
    cases hq
end Mine
end
section
open PySem PySem.W PySem.Calls PyProof.Rows PySem.W.X
namespace Mine
local macro_rules | `(tactic| k_all) => `(tactic| first
  | assumption
  | exact allLt_ne (by assumption)
  | exact ltAll_ne (by assumption)
  | exact allLt_ne (And.right (by assumption))
  | exact allLt_ne (And.right (And.right (by assumption)))
  | exact allLt_ne (And.right (And.right (And.right (by assumption))))
  | exact allLt_ne (And.right (And.right (And.right (And.right (by assumption)))))
  | exact allLt_ne (And.right (And.right (And.right (And.right (And.right (by assumption))))))
  | exact And.right (by assumption)
  | exact And.right (And.right (by assumption))
  | exact And.right (And.right (And.right (by assumption)))
  | exact And.right (And.right (And.right (And.right (by assumption)))))
local macro_rules | `(tactic| walk_at "getAttr ref") => `(tactic| (k_here; (with_reducible show wpAny _ _ (getAttr (Value.ref _) (PySem.Str.ofString "append") _) _ _ _); k_dflt (refine' getAttr_append ?k1 ?k2 ?k3 ?k4 ?k5 ?_; (case k1 => ktr_room); (case k2 => ktr_units); (case k3 => k_asm); (case k4 => k_asm); (case k5 => k_mem); k_whole); intro q' h' F' N' o1; (simp only [List.forall_mem_cons] at o1); (repeat (obtain ⟨oh, o1⟩ := o1))))
local macro_rules | `(tactic| walk_at "callWith ref") => `(tactic| (k_here; (with_reducible show wpAny _ _ (callWith _ (Value.ref _) _ (backTo _ (starEach (_ :: _) _)) []) _ _ _); k_dflt (refine' callWith_bApp ?kfbN ?kfbM ?_; (case kfbN => k_asm); (case kfbM => k_mem); k_whole)))
local macro_rules | `(tactic| walk_at "And") => `(tactic| ((with_reducible show BAt _ _ _ ∧ _); k_dflt (refine ⟨bat_of (by k_asm) (by k_mem), ?_⟩); (try dsimp only [List.nil_append, List.cons_append])))
local macro_rules | `(tactic| walk_at "call ref") => `(tactic| (k_here; (with_reducible show wpAny _ _ (call (Value.ref _) [_]) _ _ _); k_dflt (refine' call_bApp ?k1 ?k2 ?k3 ?k4 ?_ ?z; (case k1 => k_asm); (case k2 => k_asm); (case k3 => k_mem); (case k4 => k_upd); (case z => size_fits); k_whole); intro h' F' N'))
local macro_rules | `(tactic| walk_at "call type:object") => `(tactic| (k_here; k_dflt (refine' call_object ?k1 ?k2 ?k3 ?k4 ?_; (case k1 => ktr_room); (case k2 => ktr_units); (case k3 => k_asm); (case k4 => k_asm); k_whole); intro q' h' F' N' o1; (simp only [List.forall_mem_cons] at o1); (repeat (obtain ⟨oh, o1⟩ := o1))))
local macro_rules | `(tactic| walk_at "execs cons") => `(tactic| (k_here; (with_reducible refine toks_gen ?_); intro k'))

local macro_rules | `(tactic| walk_at "getMethod ref") => `(tactic| (k_here; (with_reducible show wpAny _ _ (getMethod (Value.ref 63) (PySem.Str.ofString "sub") _) _ _ _); k_dflt (refine' gm_sub ?k1 ?k2 ?_; (case k1 => k_asm); (case k2 => k_asm); k_whole)))
local macro_rules | `(tactic| walk_at "ite") => `(tactic| (k_here; first | (refine ite_pos (by with_reducible assumption) ?_; walk_say "PRUNED (own)") | (refine ite_isFalse (by with_reducible assumption) ?_; walk_say "PRUNED (own)")))
local macro_rules | `(tactic| walk_at "eval Lambda") => `(tactic| (k_here; k_dflt (refine' lam_rule ?k1 ?k2 ?k3 ?k4 ?k5 ?k6 ?k7 ?k8 ?k9 ?_; (case k1 => k_asm); (case k2 => k_asm); (case k3 => k_asm); (case k4 => k_asm); (case k5 => k_ne); (case k6 => k_ne); (case k7 => assumption); (case k8 => exact rfl); (case k9 => exact rfl); k_whole); intro f' τ' d' h' tk' F' N' n1 n2 n3 n4; (try dsimp only at n1 n2)))

local macro_rules | `(tactic| walk_at "subscriptTail") => `(tactic| (k_here; (with_reducible show wpAny _ _ (subscriptTail _ _ (Value.ref _) (Value.int (-1) _)) _ _ _); k_dflt (refine' last_item ?k1 ?k2 ?_ ?k3; (case k1 => k_asm); (case k2 => k_mem); (case k3 => with_unfolding_all rfl); k_whole)))
local macro_rules | `(tactic| walk_at "compareOp IsNot") => `(tactic| (k_here; (with_reducible show wpAny _ _ (compareOp CmpOp.IsNot (Value.str _ _) (Value.ref _)) _ _ _); refine wpAny_isNot_other (by rfl) (by intro x; cases x) ?_))
local macro_rules | `(tactic| walk_at "compareOp Is") => `(tactic| (k_here; (with_reducible show wpAny _ _ (compareOp CmpOp.Is (Value.str _ _) (Value.ref _)) _ _ _); refine wpAny_is_other (by rfl) (by intro x; cases x) ?_))
local macro_rules | `(tactic| walk_at "compareOp IsNot ref ref") => `(tactic| (k_here; with_reducible refine wpAny_isNot_ref_self ?_))
local macro_rules | `(tactic| walk_at "compareOp Is ref ref") => `(tactic| (k_here; with_reducible refine wpAny_is_ref_self ?_))

local macro_rules | `(tactic| walk_at "subscriptTail") => `(tactic| (k_here; (with_reducible show wpAny _ _ (subscriptTail _ _ (Value.ref _) (Value.int ((_ : Nat) : Int) _)) _ _ _); k_dflt (refine' item_at ?k1 ?k2 ?k3 ?k4 ?_ ?k5; (case k1 => k_asm); (case k2 => k_mem); (case k3 => assumption); (case k4 => omega); (case k5 => with_unfolding_all rfl); k_whole)))
local macro_rules | `(tactic| walk_at "call builtin:str.join") => `(tactic| (k_here; k_dflt (refine' join_at ?k1 ?k2 ?k3 ?k4 ?k5 ?k6 ?_; (case k1 => k_asm); (case k2 => k_mem); (case k3 => first | assumption | exact strsAre_push (by assumption)); (case k4 => assumption); (case k5 => decide +kernel); (case k6 => assumption); k_whole); intro _ _))
local macro_rules | `(tactic| walk_at "WhlIf") => `(tactic| (first | (refine WhlIf.yes (by with_reducible assumption) ?_) | (refine WhlIf.no (by with_reducible assumption) ?_)))
local macro_rules | `(tactic| walk_at "call builtin:len") => `(tactic| (k_here; k_dflt (refine' len_at ?k1 ?k2 ?k3 ?k4 ?_; (case k1 => k_asm); (case k2 => k_mem); (case k3 => assumption); (case k4 => omega); k_whole)))
def Pt.toks (p : Pt) : List (Option (List Nat)) := p.pre.map (fun c => some [c]) ++ (if p.tl = 0 then [] else [some (setOf p.tl), none])
def tokD : Option (List Nat) → Dat
  | some cs => .tuple [.str (Str.ofString "one"), .list [unitD cs]]
  | none => .tuple [.str (Str.ofString "run"), .list []]
theorem p_tok {p : Pt} (hp : p ∈ allP) {j : Nat} (hj : j < p.toks.length) :
    (((Txt.slice p.txt (some (p.tat j : Int)) (some ((p.tat j : Int) + 6)) == Str.ofString "(?>.*?") = false ∧ p.tat j + 3 < p.txt.length ∧ 4 ≤ p.tat j) ∧
    ((∃ c, (c = 97 ∨ c = 98 ∨ c = 99) ∧ p.toks[j]? = some (some [c]) ∧ (Txt.slice p.txt (some (p.tat j : Int)) (some ((p.tat j : Int) + 2)) == Str.ofString ".*") = false ∧ (Txt.slice p.txt (some (p.tat j : Int)) (some ((p.tat j : Int) + 4)) == Str.ofString "(?!)") = false ∧ Txt.item p.txt (p.tat j : Int) = S [c] ∧ p.tat (j + 1) = p.tat j + 1)
    ∨ (p.toks[j]? = some (some [97]) ∧ (Txt.slice p.txt (some (p.tat j : Int)) (some ((p.tat j : Int) + 2)) == Str.ofString ".*") = false ∧ (Txt.slice p.txt (some (p.tat j : Int)) (some ((p.tat j : Int) + 4)) == Str.ofString "(?!)") = false ∧ Txt.item p.txt (p.tat j : Int) = S [91] ∧ Txt.item p.txt ((p.tat j : Int) + 1) = S [97] ∧ Txt.item p.txt ((p.tat j : Int) + 2) = S [93] ∧ p.tat (j + 1) = p.tat j + 3)
    ∨ (p.toks[j]? = some (some [97, 98]) ∧ (Txt.slice p.txt (some (p.tat j : Int)) (some ((p.tat j : Int) + 2)) == Str.ofString ".*") = false ∧ (Txt.slice p.txt (some (p.tat j : Int)) (some ((p.tat j : Int) + 4)) == Str.ofString "(?!)") = false ∧ Txt.item p.txt (p.tat j : Int) = S [91] ∧ Txt.item p.txt ((p.tat j : Int) + 1) = S [97] ∧ Txt.item p.txt ((p.tat j : Int) + 2) = S [98] ∧ Txt.item p.txt ((p.tat j : Int) + 3) = S [93] ∧ p.tat (j + 1) = p.tat j + 4)
    ∨ (p.toks[j]? = some none ∧ (Txt.slice p.txt (some (p.tat j : Int)) (some ((p.tat j : Int) + 2)) == Str.ofString ".*") = true ∧ p.tat (j + 1) = p.tat j + 2))) := by
  have h := all_pats (q := fun p => (List.range p.toks.length).all fun j => decide ((Txt.slice p.txt (some (p.tat j : Int)) (some ((p.tat j : Int) + 6)) == Str.ofString "(?>.*?") = false ∧ p.tat j + 3 < p.txt.length ∧ 4 ≤ p.tat j) &&
    ((letters.any fun c => decide (p.toks[j]? = some (some [c]) ∧ (Txt.slice p.txt (some (p.tat j : Int)) (some ((p.tat j : Int) + 2)) == Str.ofString ".*") = false ∧ (Txt.slice p.txt (some (p.tat j : Int)) (some ((p.tat j : Int) + 4)) == Str.ofString "(?!)") = false ∧ Txt.item p.txt (p.tat j : Int) = S [c] ∧ p.tat (j + 1) = p.tat j + 1))
    || (decide (p.toks[j]? = some (some [97]) ∧ (Txt.slice p.txt (some (p.tat j : Int)) (some ((p.tat j : Int) + 2)) == Str.ofString ".*") = false ∧ (Txt.slice p.txt (some (p.tat j : Int)) (some ((p.tat j : Int) + 4)) == Str.ofString "(?!)") = false ∧ Txt.item p.txt (p.tat j : Int) = S [91] ∧ Txt.item p.txt ((p.tat j : Int) + 1) = S [97] ∧ Txt.item p.txt ((p.tat j : Int) + 2) = S [93] ∧ p.tat (j + 1) = p.tat j + 3)
    || (decide (p.toks[j]? = some (some [97, 98]) ∧ (Txt.slice p.txt (some (p.tat j : Int)) (some ((p.tat j : Int) + 2)) == Str.ofString ".*") = false ∧ (Txt.slice p.txt (some (p.tat j : Int)) (some ((p.tat j : Int) + 4)) == Str.ofString "(?!)") = false ∧ Txt.item p.txt (p.tat j : Int) = S [91] ∧ Txt.item p.txt ((p.tat j : Int) + 1) = S [97] ∧ Txt.item p.txt ((p.tat j : Int) + 2) = S [98] ∧ Txt.item p.txt ((p.tat j : Int) + 3) = S [93] ∧ p.tat (j + 1) = p.tat j + 4)
    || decide (p.toks[j]? = some none ∧ (Txt.slice p.txt (some (p.tat j : Int)) (some ((p.tat j : Int) + 2)) == Str.ofString ".*") = true ∧ p.tat (j + 1) = p.tat j + 2))))) (by decide +kernel) hp
  have h := List.all_eq_true.mp h j (List.mem_range.mpr hj)
  rw [Bool.and_eq_true] at h
  refine ⟨of_decide_eq_true h.1, ?_⟩
  have h := h.2
  rw [Bool.or_eq_true] at h
  rcases h with h | h
  · obtain ⟨c, hc, h⟩ := List.any_eq_true.mp h
    refine .inl ⟨c, ?_, of_decide_eq_true h⟩
    simpa [letters] using hc
  rw [Bool.or_eq_true] at h
  rcases h with h | h
  · exact .inr (.inl (of_decide_eq_true h))
  rw [Bool.or_eq_true] at h
  rcases h with h | h
  · exact .inr (.inr (.inl (of_decide_eq_true h)))
  · exact .inr (.inr (.inr (of_decide_eq_true h)))
theorem t_facts {p : Pt} (hp : p ∈ allP) : p.toks.length ≤ 5 ∧ p.txt.length ≤ 20 ∧ 7 ≤ p.txt.length ∧ p.tat 0 = 4 ∧ p.tat p.toks.length + 3 = p.txt.length ∧ (Txt.slice p.txt none (some 4) != Str.ofString "(?s:") = false ∧ (Txt.slice p.txt (some (-3)) none != Str.ofString ")\\Z") = false := by
  have h := all_pats (q := fun p => decide (p.toks.length ≤ 5 ∧ p.txt.length ≤ 20 ∧ 7 ≤ p.txt.length ∧ p.tat 0 = 4 ∧ p.tat p.toks.length + 3 = p.txt.length ∧ (Txt.slice p.txt none (some 4) != Str.ofString "(?s:") = false ∧ (Txt.slice p.txt (some (-3)) none != Str.ofString ")\\Z") = false)) (by decide +kernel) hp
  exact of_decide_eq_true h
theorem unit_tok (w : World) {p : Pt} (hp : p ∈ allP) {j : Nat} (hj : j < p.toks.length) :
    ((Txt.slice p.txt (some (p.tat j : Int)) (some ((p.tat j : Int) + 6)) == Str.ofString "(?>.*?") = false ∧ p.tat j + 3 < p.txt.length ∧ 4 ≤ p.tat j) ∧
    ((∃ cs, p.toks[j]? = some (some cs) ∧ (Txt.slice p.txt (some (p.tat j : Int)) (some ((p.tat j : Int) + 2)) == Str.ofString ".*") = false ∧ ∀ (tk tk2 : Tok) (news : List (Addr × Obj)), Ctr 2 w 103 [.str p.txt tk, .int (p.tat j : Int) tk2] news (UnitRet cs (p.tat (j + 1) : Int) news))
    ∨ (p.toks[j]? = some none ∧ (Txt.slice p.txt (some (p.tat j : Int)) (some ((p.tat j : Int) + 2)) == Str.ofString ".*") = true ∧ p.tat (j + 1) = p.tat j + 2)) := by
  obtain ⟨hp1, hp2, hp3, hp4, hp5, hp6, hp7⟩ := t_facts hp
  obtain ⟨⟨h1, h2, h3⟩, h⟩ := p_tok hp hj
  refine ⟨⟨h1, h2, h3⟩, ?_⟩
  rcases h with ⟨c, hc, a1, a2, a3, a4, a5⟩ | ⟨a1, a2, a3, a4, a5, a6, a7⟩ | ⟨a1, a2, a3, a4, a5, a6, a7, a8⟩ | h
  · refine .inl ⟨_, a1, a2, fun tk tk2 news => ?_⟩
    rw [a5]
    exact unit_letter news (by omega) (by omega) (by omega) a4 hc a3
  · refine .inl ⟨_, a1, a2, fun tk tk2 news => ?_⟩
    rw [a7]
    exact unit_set1 news (by omega) (by omega) (by omega) a4 a5 a6 a3
  · refine .inl ⟨_, a1, a2, fun tk tk2 news => ?_⟩
    rw [a8]
    exact unit_set2 news (by omega) (by omega) (by omega) a4 a5 a6 a7 a3
  · exact .inr h
theorem nm4 {h₀ h : Heap} {L D l : Addr} {x : Str} {t : Tok} {its : Array Value} {n : Nat} {rest : List (Addr × Obj)} (N : News h₀ L h ((D, ({ cls := .type "tuple", data := .seq [Value.str x t, .ref l].toArray } : Obj)) :: (l, W.listOf its n) :: rest)) {P : Prop} (k : ∀ l' D' t', l' = l → D' = D → t' = t → P) : P := k l D t rfl rfl rfl
structure LS where
  j : Nat
  its : List Value
  k : Nat
  add : List (Addr × Obj)
  ti : Tok
def TokRet (p : Pt) (news : List (Addr × Obj)) (v : Value) (news' : List (Addr × Obj)) : Prop :=
  ∃ add, news' = add ++ news ∧ DatIn add v (.list (p.toks.map tokD)) ∧ (∀ q ∈ add, ∀ r ∈ news, @Ne Nat r.1 q.1)
theorem nm1 {h₀ h : Heap} {L l : Addr} {its : Array Value} {n : Nat} {rest : List (Addr × Obj)} (N : News h₀ L h ((l, W.listOf its n) :: rest)) {P : Prop} (k : ∀ l', l' = l → P) : P := k l rfl
set_option maxRecDepth 100000 in
set_option maxHeartbeats 8000000 in
theorem tokens_ctr {w : World} {pp : Pt} (hp : pp ∈ allP) {tk : Tok} (news : List (Addr × Obj)) :
   Ctr 4 w 110 [.str pp.txt tk] news (TokRet pp news) := by
  unfold Ctr
  k_with_none
  k_fill
  intro p loose mean mg mb dp un gd cn cs a ccd cl outer A₀ base h₀ L m hp9 gs9 dr9 tk9 os9 Q E B F X N T hkf hd hu hret
  obtain ⟨hp1, hp2, hp3, hp4, hp5, hp6, hp7⟩ := t_facts hp
  refine wpAny_call ?_
  k_dflt cell_enter
  k_with_none
  k_with "exec While Compare cons nil" => (refine cut_in ?_)
  k_steps
  k_with_none
  unfold Cut
  rename Fr _ _ _ _ => F1
  rename News _ _ _ _ => N1
  rename Below _ _ _ _ => B1
  rename Top _ _ _ _ _ _ => T1
  rename Frag.In _ _ => X1
  refine nm1 N1 fun l e1 => ?_
  subst e1
  rename (∀ p : Addr × Obj, p ∈ news → p.1 < l) => hlt0
  refine post_gen fun Q9 hQ9 => ?_
  refine ksw_while (σ := LS) (fun c => (l, W.listOf c.its.toArray c.k) :: (c.add ++ news)) (fun c => [(Str.ofString "k", Value.int (pp.tat c.j : Int) c.ti)]) (fun _ => True) [Str.ofString "units", Str.ofString "unit"] (fun c => c.j ≤ pp.toks.length ∧ DatAll c.add c.its ((pp.toks.map tokD).take c.j) ∧ (∀ q ∈ c.add, ∀ r ∈ (l, W.listOf #[] 0) :: news, @Ne Nat r.1 q.1)) (fun c => pp.toks.length - c.j) ⟨0, [], 0, [], ?ti⟩ F1 ?kN trivial ?kk ?kp ?turn
  case kN => exact N1
  case kk => intro p hp; rw [List.mem_singleton.mp hp]; show _ = some (Value.int (pp.tat 0 : Int) _); rw [hp4]; rfl
  case kp => exact ⟨Nat.zero_le _, .nil, fun q hq => by cases hq⟩
  case turn =>
    rintro ⟨j, its, kk, add, ti⟩ u h tk' _ ⟨hj, hits, hadd⟩ F2 N2
    dsimp only at hj hits N2 hadd
    dsimp only [kstB] at F2
    refine post_genW fun P9 hP9 => ?_
    have hlen := hits.length
    rw [List.length_take, List.length_map, Nat.min_eq_left hj] at hlen
    have hsz : its.toArray.size ≤ sizeLine := by rw [List.size_toArray, sizeLine_eq]; omega
    have hnel : ∀ q ∈ add ++ news, q.1 ≠ l := by
      intro q hq
      rcases List.mem_append.mp hq with hq | hq
      · exact fun e => hadd q hq _ (.head _) e.symm
      · exact Nat.ne_of_lt (hlt0 q hq)
    rcases Nat.lt_or_ge j pp.toks.length with hlt | hge
    · obtain ⟨⟨h1, h2, h3⟩, hU⟩ := unit_tok w hp hlt
      have hd1 : decide ((pp.tat j : Int) < (pp.txt.length : Int) - 3) = true := decide_eq_true (by omega)
      rcases hU with ⟨cs, a1, a2, hU⟩ | ⟨a1, a2, a3⟩
      · k_with "call ref" => (refine cut_in ?_)
        k_steps
        k_with_none
        unfold Cut
        rename Fr _ _ _ _ => F3
        rename News _ _ _ _ => N3
        refine ctr_use (hU _ _ _) B1 F3 X1 N3 T1 rfl (by ktr_room) (by ktr_units) ?_
        rintro v news' h' tk' ⟨b, u, t, ad, rfl, rfl, hdu, hn1, hn2⟩ F5 N5
        try dsimp only
        dsimp only [tupO] at N5
        have N6 : News _ _ _ ((l, W.listOf its.toArray kk) :: (b, ({ cls := .type "tuple", data := .seq [Value.ref u, .int (pp.tat (j + 1) : Int) t].toArray } : Obj)) :: (ad ++ (add ++ news))) := fun p hp => N5 p (by
          rcases List.mem_cons.mp hp with rfl | hp
          · exact .tail _ (List.mem_append.mpr (.inr (.head _)))
          rcases List.mem_cons.mp hp with rfl | hp
          · exact .head _
          rcases List.mem_append.mp hp with hp | hp
          · exact .tail _ (List.mem_append.mpr (.inl hp))
          · exact .tail _ (List.mem_append.mpr (.inr (.tail _ hp))))
        clear N5
        have hb : @Ne Nat b l := fun e => hn1 _ (.head _) e.symm
        have hnel2 : ∀ q ∈ ad ++ (add ++ news), q.1 ≠ l := by
          intro q hq
          rcases List.mem_append.mp hq with hq | hq
          · exact fun e => hn2 q hq _ (.head _) e.symm
          · exact hnel q hq
        k_steps
        rename Fr _ _ _ _ => F7
        rename News _ _ _ _ => N7
        rw [List.push_toArray] at N7
        refine nm4 N7 fun l7 D7 t7 e1 e2 e3 => ?_
        subst e1 e2 e3
        have q1 : ∀ q ∈ ad ++ (add ++ news), @Ne Nat q.1 D7 := by k_all
        have q2 : ∀ q ∈ ad ++ (add ++ news), @Ne Nat q.1 l7 := by k_all
        have q3 : @Ne Nat l l7 := by k_ne
        have q4 : @Ne Nat l D7 := by k_ne
        refine hP9 _ _ ?_
        refine ksw_end ⟨j + 1, its ++ [Value.ref D7], kk + 1, (D7, ({ cls := .type "tuple", data := .seq [Value.str (Str.ofString "one") t7, .ref l7].toArray } : Obj)) :: (l7, W.listOf [Value.ref u].toArray 0) :: (ad ++ add), _⟩ F7 N7 (fun p hp => ?_) trivial (fun p hp => by rw [List.mem_singleton.mp hp]; exact rfl) (by ksw_same) ?hp ?hm
        case hm => dsimp only; omega
        case hp =>
          refine ⟨hlt, ?_, ?_⟩
          · dsimp only
            rw [List.take_add_one, List.getElem?_map, a1]
            exact (hits.mono fun p hp => .tail _ (.tail _ (List.mem_append.mpr (.inr hp)))).append (.one (.tuple (.head _) (.cons (.str _ _) (.one (.list (.tail _ (.head _)) (.one (hdu.mono fun p hp => .tail _ (.tail _ (List.mem_append.mpr (.inl hp))))))))))
          · intro q hq r hr
            have hr2 : r.1 = l ∨ r ∈ news := by
              rcases List.mem_cons.mp hr with rfl | hr
              · exact .inl rfl
              · exact .inr hr
            rcases List.mem_cons.mp hq with rfl | hq
            · rcases hr2 with e | hr2
              · rw [e]; exact q4
              · exact q1 r (List.mem_append.mpr (.inr (List.mem_append.mpr (.inr hr2))))
            rcases List.mem_cons.mp hq with rfl | hq
            · rcases hr2 with e | hr2
              · rw [e]; exact q3
              · exact q2 r (List.mem_append.mpr (.inr (List.mem_append.mpr (.inr hr2))))
            rcases List.mem_append.mp hq with hq | hq
            · rcases hr2 with e | hr2
              · rw [e]; exact hn2 q hq _ (.head _)
              · exact hn2 q hq r (.tail _ (List.mem_append.mpr (.inr hr2)))
            · exact hadd q hq r hr
        · simp only [List.mem_cons, List.mem_append] at hp ⊢
          rcases hp with h | (h | h | h | h) | h <;> simp [h]
      · k_steps
        rename Fr _ _ _ _ => F7
        rename News _ _ _ _ => N7
        rw [List.push_toArray] at N7
        refine nm4 N7 fun l7 D7 t7 e1 e2 e3 => ?_
        subst e1 e2 e3
        have q1 : ∀ q ∈ add ++ news, @Ne Nat q.1 D7 := by k_all
        have q2 : ∀ q ∈ add ++ news, @Ne Nat q.1 l7 := by k_all
        have q3 : @Ne Nat l l7 := by k_ne
        have q4 : @Ne Nat l D7 := by k_ne
        have e9 : (pp.tat j : Int) + 2 = (pp.tat (j + 1) : Int) := by rw [a3]; rfl
        refine hP9 _ _ ?_
        refine ksw_end ⟨j + 1, its ++ [Value.ref D7], kk + 1, (D7, ({ cls := .type "tuple", data := .seq [Value.str (Str.ofString "run") t7, .ref l7].toArray } : Obj)) :: (l7, W.listOf [].toArray 0) :: add, _⟩ F7 N7 (fun p hp => ?_) trivial (fun p hp => by rw [List.mem_singleton.mp hp]; exact eqi e9) (by ksw_same) ?hp ?hm
        case hm => dsimp only; omega
        case hp =>
          refine ⟨hlt, ?_, ?_⟩
          · dsimp only
            rw [List.take_add_one, List.getElem?_map, a1]
            exact (hits.mono fun p hp => .tail _ (.tail _ hp)).append (.one (.tuple (.head _) (.cons (.str _ _) (.one (.list (.tail _ (.head _)) .nil)))))
          · intro q hq r hr
            have hr2 : r.1 = l ∨ r ∈ news := by
              rcases List.mem_cons.mp hr with rfl | hr
              · exact .inl rfl
              · exact .inr hr
            rcases List.mem_cons.mp hq with rfl | hq
            · rcases hr2 with e | hr2
              · rw [e]; exact q4
              · exact q1 r (List.mem_append.mpr (.inr hr2))
            rcases List.mem_cons.mp hq with rfl | hq
            · rcases hr2 with e | hr2
              · rw [e]; exact q3
              · exact q2 r (List.mem_append.mpr (.inr hr2))
            · exact hadd q hq r hr
        · simp only [List.mem_cons, List.mem_append] at hp ⊢
          rcases hp with h | (h | h | h) | h <;> simp [h]
    · have hje : j = pp.toks.length := by omega
      have hd1 : decide ((pp.tat j : Int) < (pp.txt.length : Int) - 3) = false := decide_eq_false (by rw [hje]; omega)
      k_steps
      refine hQ9 _ _ ?_
      k_steps
      rw [hje, ← List.length_map (f := tokD), List.take_length] at hits
      rename News _ _ _ _ => kN9
      refine hret _ _ _ _ ⟨(l, W.listOf its.toArray kk) :: add, rfl, .list (.head _) (hits.mono fun p hp => .tail _ hp), ?_⟩ (by assumption) kN9
      intro q hq r hr
      rcases List.mem_cons.mp hq with rfl | hq
      · exact Nat.ne_of_lt (hlt0 r hr)
      · exact hadd q hq r (.tail _ hr)
end Mine
end
section
open PySem PySem.W PySem.Calls PyProof.Rows PySem.W.X
namespace Mine
local macro_rules | `(tactic| k_all) => `(tactic| first
  | assumption
  | exact allLt_ne (by assumption)
  | exact ltAll_ne (by assumption)
  | exact allLt_ne (And.right (by assumption))
  | exact allLt_ne (And.right (And.right (by assumption)))
  | exact allLt_ne (And.right (And.right (And.right (by assumption))))
  | exact allLt_ne (And.right (And.right (And.right (And.right (by assumption)))))
  | exact allLt_ne (And.right (And.right (And.right (And.right (And.right (by assumption))))))
  | exact And.right (by assumption)
  | exact And.right (And.right (by assumption))
  | exact And.right (And.right (And.right (by assumption)))
  | exact And.right (And.right (And.right (And.right (by assumption)))))
local macro_rules | `(tactic| walk_at "getAttr ref") => `(tactic| (k_here; (with_reducible show wpAny _ _ (getAttr (Value.ref _) (PySem.Str.ofString "append") _) _ _ _); k_dflt (refine' getAttr_append ?k1 ?k2 ?k3 ?k4 ?k5 ?_; (case k1 => ktr_room); (case k2 => ktr_units); (case k3 => k_asm); (case k4 => k_asm); (case k5 => k_mem); k_whole); intro q' h' F' N' o1; (simp only [List.forall_mem_cons] at o1); (repeat (obtain ⟨oh, o1⟩ := o1))))
local macro_rules | `(tactic| walk_at "callWith ref") => `(tactic| (k_here; (with_reducible show wpAny _ _ (callWith _ (Value.ref _) _ (backTo _ (starEach (_ :: _) _)) []) _ _ _); k_dflt (refine' callWith_bApp ?kfbN ?kfbM ?_; (case kfbN => k_asm); (case kfbM => k_mem); k_whole)))
local macro_rules | `(tactic| walk_at "And") => `(tactic| ((with_reducible show BAt _ _ _ ∧ _); k_dflt (refine ⟨bat_of (by k_asm) (by k_mem), ?_⟩); (try dsimp only [List.nil_append, List.cons_append])))
local macro_rules | `(tactic| walk_at "call ref") => `(tactic| (k_here; (with_reducible show wpAny _ _ (call (Value.ref _) [_]) _ _ _); k_dflt (refine' call_bApp ?k1 ?k2 ?k3 ?k4 ?_ ?z; (case k1 => k_asm); (case k2 => k_asm); (case k3 => k_mem); (case k4 => k_upd); (case z => size_fits); k_whole); intro h' F' N'))
local macro_rules | `(tactic| walk_at "call type:object") => `(tactic| (k_here; k_dflt (refine' call_object ?k1 ?k2 ?k3 ?k4 ?_; (case k1 => ktr_room); (case k2 => ktr_units); (case k3 => k_asm); (case k4 => k_asm); k_whole); intro q' h' F' N' o1; (simp only [List.forall_mem_cons] at o1); (repeat (obtain ⟨oh, o1⟩ := o1))))
local macro_rules | `(tactic| walk_at "execs cons") => `(tactic| (k_here; (with_reducible refine toks_gen ?_); intro k'))

local macro_rules | `(tactic| walk_at "getMethod ref") => `(tactic| (k_here; (with_reducible show wpAny _ _ (getMethod (Value.ref 63) (PySem.Str.ofString "sub") _) _ _ _); k_dflt (refine' gm_sub ?k1 ?k2 ?_; (case k1 => k_asm); (case k2 => k_asm); k_whole)))
local macro_rules | `(tactic| walk_at "ite") => `(tactic| (k_here; first | (refine ite_pos (by with_reducible assumption) ?_; walk_say "PRUNED (own)") | (refine ite_isFalse (by with_reducible assumption) ?_; walk_say "PRUNED (own)")))
local macro_rules | `(tactic| walk_at "eval Lambda") => `(tactic| (k_here; k_dflt (refine' lam_rule ?k1 ?k2 ?k3 ?k4 ?k5 ?k6 ?k7 ?k8 ?k9 ?_; (case k1 => k_asm); (case k2 => k_asm); (case k3 => k_asm); (case k4 => k_asm); (case k5 => k_ne); (case k6 => k_ne); (case k7 => assumption); (case k8 => exact rfl); (case k9 => exact rfl); k_whole); intro f' τ' d' h' tk' F' N' n1 n2 n3 n4; (try dsimp only at n1 n2)))

local macro_rules | `(tactic| walk_at "subscriptTail") => `(tactic| (k_here; (with_reducible show wpAny _ _ (subscriptTail _ _ (Value.ref _) (Value.int (-1) _)) _ _ _); k_dflt (refine' last_item ?k1 ?k2 ?_ ?k3; (case k1 => k_asm); (case k2 => k_mem); (case k3 => with_unfolding_all rfl); k_whole)))
local macro_rules | `(tactic| walk_at "compareOp IsNot") => `(tactic| (k_here; (with_reducible show wpAny _ _ (compareOp CmpOp.IsNot (Value.str _ _) (Value.ref _)) _ _ _); refine wpAny_isNot_other (by rfl) (by intro x; cases x) ?_))
local macro_rules | `(tactic| walk_at "compareOp Is") => `(tactic| (k_here; (with_reducible show wpAny _ _ (compareOp CmpOp.Is (Value.str _ _) (Value.ref _)) _ _ _); refine wpAny_is_other (by rfl) (by intro x; cases x) ?_))
local macro_rules | `(tactic| walk_at "compareOp IsNot ref ref") => `(tactic| (k_here; with_reducible refine wpAny_isNot_ref_self ?_))
local macro_rules | `(tactic| walk_at "compareOp Is ref ref") => `(tactic| (k_here; with_reducible refine wpAny_is_ref_self ?_))

local macro_rules | `(tactic| walk_at "subscriptTail") => `(tactic| (k_here; (with_reducible show wpAny _ _ (subscriptTail _ _ (Value.ref _) (Value.int ((_ : Nat) : Int) _)) _ _ _); k_dflt (refine' item_at ?k1 ?k2 ?k3 ?k4 ?_ ?k5; (case k1 => k_asm); (case k2 => k_mem); (case k3 => assumption); (case k4 => omega); (case k5 => with_unfolding_all rfl); k_whole)))
local macro_rules | `(tactic| walk_at "call builtin:str.join") => `(tactic| (k_here; k_dflt (refine' join_at ?k1 ?k2 ?k3 ?k4 ?k5 ?k6 ?_; (case k1 => k_asm); (case k2 => k_mem); (case k3 => first | assumption | exact strsAre_push (by assumption)); (case k4 => assumption); (case k5 => decide +kernel); (case k6 => assumption); k_whole); intro _ _))
local macro_rules | `(tactic| walk_at "WhlIf") => `(tactic| (first | (refine WhlIf.yes (by with_reducible assumption) ?_) | (refine WhlIf.no (by with_reducible assumption) ?_)))
local macro_rules | `(tactic| walk_at "call builtin:len") => `(tactic| (k_here; k_dflt (refine' len_at ?k1 ?k2 ?k3 ?k4 ?_; (case k1 => k_asm); (case k2 => k_mem); (case k3 => assumption); (case k4 => omega); k_whole)))
local macro_rules | `(tactic| cell_enter) => `(tactic| (refine' code_defC ?k1 ?k2 ?k3 ?k4 ?k5 ?kA ?kF ?kK ?k6 ?k7 ?k8 ?k9 ?kB ?kD ?_ ?c2 ?c3 ?c4; (case kA => exact rfl); (case kF => exact rfl); (case kK => assumption); (case k1 => k_asm); (case k2 => k_asm); (case k3 => k_asm); (case k4 => k_asm); (case k5 => k_asm); (case k6 => k_is); (case k7 => k_is); (case k8 => ktr_room); (case k9 => exact BindsTo.of_eq rfl); (case kB => exact rfl); (case kD => decide +kernel); (case c2 => exact rfl); (case c3 => exact rfl); (case c4 => exact rfl); k_whole; intro g' L' h' tk' cells' FG' F' N' Y' B' X' T' l1; (try k_lt l1); k_cells Y'; (try simp only [List.cons_append, List.nil_append] at N'); (try dsimp only); (try k_lift B'); (try k_fold)))

set_option hygiene false in
local macro_rules | `(tactic| walk_at "exec For Tuple Call cons nil") => `(tactic| (k_here; (rename Fr _ _ _ _ => lF'); refine post_gen fun Q9 hQ9 => ?_; (with_unfolding_all refine' For_turns lF' ?_; k_whole)))
local macro_rules | `(tactic| walk_at "call type:enumerate") => `(tactic| (k_here; (with_reducible show wpAny _ _ (call (Value.type _) [Value.ref _]) (fun xv s₁ => wpAny _ _ (pyIter xv) (fun it s₂ => TurnsAt _ _ _ _ _ _ _ _ _ it s₂) _ s₁) _ _); ((rename Fr _ _ _ _ => lF'); (rename News _ _ _ _ => lN'); (with_unfolding_all refine' ktu_enum (vs := [_]) (xs := [Itm.pair (fun t => Value.int (0 : Int) t) _]) (by rfl) lF' lN' ?e1 ?e2 ?e3 ?e4 ?_; (case e1 => k_mem); (case e2 => rfl); (case e3 => rfl); (case e4 => rfl); k_whole); clear lF' lN'; intro i' l1; (try k_lt l1))))
local macro_rules | `(tactic| walk_at "CompEnd") => `(tactic| (k_dflt (refine' LCg.CompEnd.intro ?cF ?cN _ (fun _ hp => hp) ?cO ?cS ?_; (case cF => k_asm); (case cN => k_asm); (case cO => assumption); (case cS => lcg_src); k_whole)))

set_option hygiene false in
local macro_rules | `(tactic| k_all) => `(tactic| exact hz9 _ (by omega))

def tupN (vs : List Value) (n : Nat) : Obj := { cls := .type "tuple", data := .seq vs.toArray n }
theorem allLt_ne_le {d : Addr} : ∀ {l : List (Addr × Obj)}, AllLt d l → ∀ e : Nat, @LE.le Nat instLENat d e → ∀ p ∈ l, p.1 ≠ e
  | [], _, _, _, _, h => nomatch h
  | _ :: _, x, e, he, p, h => by
    rcases List.mem_cons.mp h with rfl | h
    · exact Nat.ne_of_lt (Nat.lt_of_lt_of_le x.1 he)
    · exact allLt_ne_le x.2 e he p h
theorem unr_own {h₀ h' : Heap} {L : Addr} {i : Nat} {o1 o2 : Obj} {x : Addr × Obj} {rest : List (Addr × Obj)} {s₁ : Shared} {tk : Nat} {m' : Str → Option Value} {K : List (Addr × Obj) → Prop} {R : (Str → Option Value) → List (Addr × Obj) → Prop}
    (F : Fr h₀ L h' m') (N : News h₀ L h' (x :: (i + 1, o1) :: (i, o2) :: rest)) (hlt : AllLt i rest) (r : K rest ∧ R m' rest) : UnrEndW h₀ L s₁ [(i + 1, o1), (i, o2)] (fun m' n' => K n' ∧ R m' n') { s₁ with heap := h', toks := tk } :=
  ⟨h', tk, m', rest, rfl, F, fun p hp => N p (.tail _ hp), fun p hp q hq => by
    rcases List.mem_cons.mp hq with rfl | hq
    · exact allLt_ne_le hlt _ (by show i ≤ i + 1; omega) p hp
    rw [List.mem_singleton.mp hq]
    exact allLt_ne_le hlt _ (Nat.le_refl _) p hp, r⟩
theorem lt_S (a b : Nat) : ((S [a]).cps.toList < (S [b]).cps.toList) ↔ a < b := by
  show ([a] : List Nat) < [b] ↔ a < b
  rw [List.cons_lt_cons_iff]
  simp
set_option hygiene false in
local macro_rules | `(tactic| walk_at "compareOp LtE str str") => `(tactic| (k_here; (have hcut8 : True := hcut9); refine cut_in ?_))
set_option maxRecDepth 100000 in
set_option maxHeartbeats 8000000 in
theorem fits1 {w : World} {x : Str} {c : Nat} {tk : Tok} {k : Int} {tk2 t1 t2 : Tok} {a1 u1 sp1 p1 : Addr} {n1 n2 m1 m2 m3 : Nat} {d : Nat} (hdx : Txt.item x k = S [d]) (news : List (Addr × Obj)) (hk : 0 ≤ k) (hk2 : k < x.length) (hl : x.length < 100) :
   Ctr 3 w 115 [.ref a1, .str x tk, .int k tk2] ((a1, W.listOf [Value.ref u1].toArray n1) :: (u1, tupN [.bool false, .ref sp1] m1) :: (sp1, W.listOf [Value.ref p1].toArray n2) :: (p1, tupN [.str (S [c]) t1, .str (S [c]) t2] m2) :: news) (fun v news' => v = .bool (decide (d = c)) ∧ (a1, W.listOf [Value.ref u1].toArray n1) :: (u1, tupN [.bool false, .ref sp1] m1) :: (sp1, W.listOf [Value.ref p1].toArray n2) :: (p1, tupN [.str (S [c]) t1, .str (S [c]) t2] m2) :: news = news') := by
  unfold Ctr tupN
  k_with_none
  k_fill
  intro p loose mean mg mb dp un gd cn cs a ccd cl outer A₀ base h₀ L m hp9 gs9 dr9 tk9 os9 Q E B F X N T hkf hd hu hret
  refine wpAny_call ?_
  k_dflt cell_enter
  rename (_ ∧ _ ∧ _ ∧ _ ∧ AllLt _ news) => hz8
  have hz9 := allLt_ne_le hz8.2.2.2.2
  have e0 : k + 0 = k := by omega
  have hdx : Txt.item x (k + 0) = S [d] := by rw [e0]; exact hdx
  have hcut9 : True := trivial
  k_steps
  unfold Cut
  clear hcut9
  rcases Nat.lt_trichotomy d c with h | h | h
  · have h1 : (Txt.item x (k + 0)).cps.toList < (S [c]).cps.toList := by rw [hdx]; exact (lt_S _ _).mpr h
    have g1 : (false == !decide ((Txt.item x (k + 0)).cps.toList < (S [c]).cps.toList)) = true := by rw [decide_eq_true h1]; rfl
    k_steps
    refine hQ9 _ _ ?_
    k_steps
    rename News _ _ _ _ => kN9
    refine hret _ _ _ _ ⟨by rw [decide_eq_false (by omega)], rfl⟩ (by assumption) (fun p hp => kN9 p ?_)
    repeat (first | exact hp | refine List.Mem.tail _ ?_)
  · have h1 : ¬ (Txt.item x (k + 0)).cps.toList < (S [c]).cps.toList := by rw [hdx]; exact fun e => absurd ((lt_S _ _).mp e) (by omega)
    have h2 : ¬ (S [c]).cps.toList < (Txt.item x (k + 0)).cps.toList := by rw [hdx]; exact fun e => absurd ((lt_S _ _).mp e) (by omega)
    have g1 : (false == !decide ((S [c]).cps.toList < (Txt.item x (k + 0)).cps.toList)) = false := by rw [decide_eq_false h2]; rfl
    k_steps
    k_dflt (refine' unr_own ?cF ?cN ?cO ⟨?cS, ?_⟩)
    case cF => k_asm
    case cN => k_asm
    case cO => k_dflt assumption
    case cS => k_subL
    k_steps
    refine hQ9 _ _ ?_
    k_steps
    rename News _ _ _ _ => kN9
    refine hret _ _ _ _ ⟨by rw [decide_eq_true (by omega)], rfl⟩ (by assumption) (fun p hp => kN9 p ?_)
    repeat (first | exact hp | refine List.Mem.tail _ ?_)
  · have h1 : ¬ (Txt.item x (k + 0)).cps.toList < (S [c]).cps.toList := by rw [hdx]; exact fun e => absurd ((lt_S _ _).mp e) (by omega)
    have h2 : (S [c]).cps.toList < (Txt.item x (k + 0)).cps.toList := by rw [hdx]; exact (lt_S _ _).mpr h
    have g1 : (false == !decide ((S [c]).cps.toList < (Txt.item x (k + 0)).cps.toList)) = true := by rw [decide_eq_true h2]; rfl
    k_steps
    refine hQ9 _ _ ?_
    k_steps
    rename News _ _ _ _ => kN9
    refine hret _ _ _ _ ⟨by rw [decide_eq_false (by omega)], rfl⟩ (by assumption) (fun p hp => kN9 p ?_)
    repeat (first | exact hp | refine List.Mem.tail _ ?_)
set_option maxRecDepth 100000 in
set_option maxHeartbeats 8000000 in
theorem fits0 {w : World} {x : Str} {tk : Tok} {k : Int} {tk2 : Tok} {a1 u1 : Addr} {n1 : Nat} (news : List (Addr × Obj)) (hk : (x.length : Int) ≤ k) (hk2 : k < 100) :
   Ctr 3 w 115 [.ref a1, .str x tk, .int k tk2] ((a1, W.listOf [Value.ref u1].toArray n1) :: news) (fun v news' => v = .bool false ∧ (a1, W.listOf [Value.ref u1].toArray n1) :: news = news') := by
  unfold Ctr
  k_with_none
  k_fill
  intro p loose mean mg mb dp un gd cn cs a ccd cl outer A₀ base h₀ L m hp9 gs9 dr9 tk9 os9 Q E B F X N T hkf hd hu hret
  have hl0 : 0 ≤ (x.length : Int) := by omega
  have hl1 : x.length < 100 := by omega
  refine wpAny_call ?_
  k_dflt cell_enter
  k_steps
  rename News _ _ _ _ => kN9
  refine hret _ _ _ _ ⟨rfl, rfl⟩ (by assumption) (fun p hp => kN9 p ?_)
  repeat (first | exact hp | refine List.Mem.tail _ ?_)
set_option maxRecDepth 100000 in
set_option maxHeartbeats 8000000 in
theorem fits2 {w : World} {x : Str} {tk : Tok} {k : Int} {tk2 t1 t2 t3 t4 : Tok} {a1 u1 sp1 p1 p2 : Addr} {n1 n2 m1 m2 m3 : Nat} {d : Nat} (hdx : Txt.item x k = S [d]) (hdd : d = 97 ∨ d = 98 ∨ d = 99) (news : List (Addr × Obj)) (hk : 0 ≤ k) (hk2 : k < x.length) (hl : x.length < 100) :
   Ctr 3 w 115 [.ref a1, .str x tk, .int k tk2] ((a1, W.listOf [Value.ref u1].toArray n1) :: (u1, tupN [.bool false, .ref sp1] m1) :: (sp1, W.listOf [Value.ref p1, .ref p2].toArray n2) :: (p1, tupN [.str (S [97]) t1, .str (S [97]) t2] m2) :: (p2, tupN [.str (S [98]) t3, .str (S [98]) t4] m3) :: news) (fun v news' => v = .bool (decide (d = 97 ∨ d = 98)) ∧ (a1, W.listOf [Value.ref u1].toArray n1) :: (u1, tupN [.bool false, .ref sp1] m1) :: (sp1, W.listOf [Value.ref p1, .ref p2].toArray n2) :: (p1, tupN [.str (S [97]) t1, .str (S [97]) t2] m2) :: (p2, tupN [.str (S [98]) t3, .str (S [98]) t4] m3) :: news = news') := by
  unfold Ctr tupN
  k_with_none
  k_fill
  intro p loose mean mg mb dp un gd cn cs a ccd cl outer A₀ base h₀ L m hp9 gs9 dr9 tk9 os9 Q E B F X N T hkf hd hu hret
  refine wpAny_call ?_
  k_dflt cell_enter
  rename (_ ∧ _ ∧ _ ∧ _ ∧ _ ∧ AllLt _ news) => hz8
  have hz9 := allLt_ne_le hz8.2.2.2.2.2
  have e0 : k + 0 = k := by omega
  have hdx : Txt.item x (k + 0) = S [d] := by rw [e0]; exact hdx
  have b1 : ¬ (Txt.item x (k + 0)).cps.toList < (S [97]).cps.toList := by rw [hdx]; exact fun e => absurd ((lt_S _ _).mp e) (by omega)
  have hcut9 : True := trivial
  k_steps
  unfold Cut
  clear hcut9
  rcases hdd with rfl | rfl | rfl
  · have h1 : ¬ (S [97]).cps.toList < (Txt.item x (k + 0)).cps.toList := by rw [hdx]; exact fun e => absurd ((lt_S _ _).mp e) (by omega)
    have h2 : (Txt.item x (k + 0)).cps.toList < (S [98]).cps.toList := by rw [hdx]; exact (lt_S _ _).mpr (by omega)
    have g1 : (false == (!decide ((S [97]).cps.toList < (Txt.item x (k + 0)).cps.toList) || !decide ((Txt.item x (k + 0)).cps.toList < (S [98]).cps.toList))) = false := by rw [decide_eq_false h1]; rfl
    k_steps
    k_dflt (refine' unr_own ?cF ?cN ?cO ⟨?cS, ?_⟩)
    case cF => k_asm
    case cN => k_asm
    case cO => k_dflt assumption
    case cS => k_subL
    k_steps
    refine hQ9 _ _ ?_
    k_steps
    rename News _ _ _ _ => kN9
    refine hret _ _ _ _ ⟨by rw [decide_eq_true (by omega)], rfl⟩ (by assumption) (fun p hp => kN9 p ?_)
    repeat (first | exact hp | refine List.Mem.tail _ ?_)
  · have h1 : (S [97]).cps.toList < (Txt.item x (k + 0)).cps.toList := by rw [hdx]; exact (lt_S _ _).mpr (by omega)
    have h2 : ¬ (Txt.item x (k + 0)).cps.toList < (S [98]).cps.toList := by rw [hdx]; exact fun e => absurd ((lt_S _ _).mp e) (by omega)
    have h3 : ¬ (S [98]).cps.toList < (Txt.item x (k + 0)).cps.toList := by rw [hdx]; exact fun e => absurd ((lt_S _ _).mp e) (by omega)
    have g1 : (false == (!decide ((S [97]).cps.toList < (Txt.item x (k + 0)).cps.toList) || !decide ((S [98]).cps.toList < (Txt.item x (k + 0)).cps.toList))) = false := by rw [decide_eq_true h1, decide_eq_false h3]; rfl
    k_steps
    k_dflt (refine' unr_own ?cF ?cN ?cO ⟨?cS, ?_⟩)
    case cF => k_asm
    case cN => k_asm
    case cO => k_dflt assumption
    case cS => k_subL
    k_steps
    refine hQ9 _ _ ?_
    k_steps
    rename News _ _ _ _ => kN9
    refine hret _ _ _ _ ⟨by rw [decide_eq_true (by omega)], rfl⟩ (by assumption) (fun p hp => kN9 p ?_)
    repeat (first | exact hp | refine List.Mem.tail _ ?_)
  · have h1 : (S [97]).cps.toList < (Txt.item x (k + 0)).cps.toList := by rw [hdx]; exact (lt_S _ _).mpr (by omega)
    have h2 : ¬ (Txt.item x (k + 0)).cps.toList < (S [98]).cps.toList := by rw [hdx]; exact fun e => absurd ((lt_S _ _).mp e) (by omega)
    have h3 : (S [98]).cps.toList < (Txt.item x (k + 0)).cps.toList := by rw [hdx]; exact (lt_S _ _).mpr (by omega)
    have g1 : (false == (!decide ((S [97]).cps.toList < (Txt.item x (k + 0)).cps.toList) || !decide ((S [98]).cps.toList < (Txt.item x (k + 0)).cps.toList))) = true := by rw [decide_eq_true h1, decide_eq_true h3]; rfl
    k_steps
    refine hQ9 _ _ ?_
    k_steps
    rename News _ _ _ _ => kN9
    refine hret _ _ _ _ ⟨by rw [decide_eq_false (by omega)], rfl⟩ (by assumption) (fun p hp => kN9 p ?_)
    repeat (first | exact hp | refine List.Mem.tail _ ?_)
theorem ctr_led {r : Nat} {w : World} {f : Addr} {vs : List Value} {big news : List (Addr × Obj)} {P : Value → Prop} (C : Ctr r w f vs big (fun v n' => P v ∧ big = n')) (h1 : ∀ q ∈ big, q ∈ news) (h2 : ∀ q ∈ news, q ∈ big) : Ctr r w f vs news (fun v n' => P v ∧ news = n') := by
  intro p loose mean mg mb dp un gd cn cs a ccd cl outer A₀ base h₀ L m hp9 gs9 dr9 tk9 os9 Q E B F X N T hkf hd hu hret
  refine C p loose mean mg mb dp un gd cn cs a ccd cl outer A₀ base h₀ L m hp9 gs9 dr9 tk9 os9 Q E B F X (fun p hp => N p (h1 p hp)) T hkf hd hu ?_
  rintro v news' h' tk' ⟨hP, rfl⟩ F' N'
  exact hret v news h' tk' ⟨hP, rfl⟩ F' (fun p hp => N' p (h2 p hp))
def fitsB (cs : List Nat) (w0 : List Nat) (k : Nat) : Bool := match w0[k]? with
  | some d => cs.contains d
  | none => false
theorem w_facts {w0 : List Nat} (h : w0 ∈ W40) : w0.length ≤ 3 ∧ (S w0).length = w0.length ∧ ∀ k, k < w0.length → ∃ d, w0[k]? = some d ∧ (d = 97 ∨ d = 98 ∨ d = 99) ∧ Txt.item (S w0) (k : Int) = S [d] := by
  have h := all_words (q := fun w0 => decide (w0.length ≤ 3 ∧ (S w0).length = w0.length) && (List.range w0.length).all fun k => letters.any fun d => decide (w0[k]? = some d ∧ Txt.item (S w0) (k : Int) = S [d])) (by decide +kernel) h
  rw [Bool.and_eq_true] at h
  have h1 := of_decide_eq_true h.1
  refine ⟨h1.1, h1.2, fun k hk => ?_⟩
  obtain ⟨d, hd, h⟩ := List.any_eq_true.mp (List.all_eq_true.mp h.2 k (List.mem_range.mpr hk))
  have h := of_decide_eq_true h
  exact ⟨d, h.1, by simpa [letters] using hd, h.2⟩
theorem dat_list {news : List (Addr × Obj)} {v : Value} {ds : List Dat} (h : DatIn news v (.list ds)) : ∃ a vs n, v = .ref a ∧ (a, W.listOf (List.toArray vs) n) ∈ news ∧ DatAll news vs ds := by
  generalize hD : Dat.list ds = D at h
  cases h with
  | none => cases hD
  | bool => cases hD
  | int => cases hD
  | str => cases hD
  | bytes => cases hD
  | tuple => cases hD
  | list a b => cases hD; exact ⟨_, _, _, rfl, a, b⟩
theorem dat_tup {news : List (Addr × Obj)} {v : Value} {ds : List Dat} (h : DatIn news v (.tuple ds)) : ∃ a vs n, v = .ref a ∧ (a, tupN vs n) ∈ news ∧ DatAll news vs ds := by
  generalize hD : Dat.tuple ds = D at h
  cases h with
  | none => cases hD
  | bool => cases hD
  | int => cases hD
  | str => cases hD
  | bytes => cases hD
  | list => cases hD
  | tuple a b => cases hD; exact ⟨_, _, _, rfl, a, b⟩
theorem dat_str {news : List (Addr × Obj)} {v : Value} {x : Str} (h : DatIn news v (.str x)) : ∃ t, v = .str x t := by
  generalize hD : Dat.str x = D at h
  cases h with
  | none => cases hD
  | bool => cases hD
  | int => cases hD
  | bytes => cases hD
  | list => cases hD
  | tuple => cases hD
  | str a b => cases hD; exact ⟨_, rfl⟩
theorem dat_nil {news : List (Addr × Obj)} {vs : List Value} (h : DatAll news vs []) : vs = [] := by cases h; rfl
theorem dat_cons {news : List (Addr × Obj)} {vs : List Value} {d : Dat} {ds : List Dat} (h : DatAll news vs (d :: ds)) : ∃ v vs', vs = v :: vs' ∧ DatIn news v d ∧ DatAll news vs' ds := by cases h with | cons a b => exact ⟨_, _, rfl, a, b⟩
theorem dat_pair {news : List (Addr × Obj)} {v : Value} {x y : Str} (h : DatIn news v (.tuple [.str x, .str y])) : ∃ p m t1 t2, v = .ref p ∧ (p, tupN [.str x t1, .str y t2] m) ∈ news := by
  obtain ⟨p, vs, m, rfl, q, h⟩ := dat_tup h
  obtain ⟨v1, vs, rfl, h1, h⟩ := dat_cons h
  obtain ⟨v2, vs, rfl, h2, h⟩ := dat_cons h
  obtain rfl := dat_nil h
  obtain ⟨t1, rfl⟩ := dat_str h1
  obtain ⟨t2, rfl⟩ := dat_str h2
  exact ⟨p, m, t1, t2, rfl, q⟩
theorem span1 {news : List (Addr × Obj)} {v : Value} {c : Nat} (h : DatIn news v (.list ([c].map fun c => .tuple [.str (S [c]), .str (S [c])]))) : ∃ sp n2 p1 m2 t1 t2, v = .ref sp ∧ (sp, W.listOf [Value.ref p1].toArray n2) ∈ news ∧ (p1, tupN [.str (S [c]) t1, .str (S [c]) t2] m2) ∈ news := by
  obtain ⟨sp, vs, n2, rfl, q, h⟩ := dat_list h
  obtain ⟨v1, vs, rfl, h1, h⟩ := dat_cons h
  obtain rfl := dat_nil h
  obtain ⟨p1, m2, t1, t2, rfl, q2⟩ := dat_pair h1
  exact ⟨sp, n2, p1, m2, t1, t2, rfl, q, q2⟩
theorem span2 {news : List (Addr × Obj)} {v : Value} {c c' : Nat} (h : DatIn news v (.list ([c, c'].map fun c => .tuple [.str (S [c]), .str (S [c])]))) : ∃ sp n2 p1 p2 m2 m3 t1 t2 t3 t4, v = .ref sp ∧ (sp, W.listOf [Value.ref p1, .ref p2].toArray n2) ∈ news ∧ (p1, tupN [.str (S [c]) t1, .str (S [c]) t2] m2) ∈ news ∧ (p2, tupN [.str (S [c']) t3, .str (S [c']) t4] m3) ∈ news := by
  obtain ⟨sp, vs, n2, rfl, q, h⟩ := dat_list h
  obtain ⟨v1, vs, rfl, h1, h⟩ := dat_cons h
  obtain ⟨v2, vs, rfl, h2, h⟩ := dat_cons h
  obtain rfl := dat_nil h
  obtain ⟨p1, m2, t1, t2, rfl, q2⟩ := dat_pair h1
  obtain ⟨p2, m3, t3, t4, rfl, q3⟩ := dat_pair h2
  exact ⟨sp, n2, p1, p2, m2, m3, t1, t2, t3, t4, rfl, q, q2, q3⟩
theorem fits_ctr {w : World} {w0 : List Nat} (hw : w0 ∈ W40) {cs : List Nat} (hcs : (∃ c, cs = [c]) ∨ cs = [97, 98]) {v : Value} {news : List (Addr × Obj)} (hd : DatIn news v (.list [unitD cs])) {tk tk2 : Tok} (k : Nat) (hk : k < 100) :
   Ctr 3 w 115 [v, .str (S w0) tk, .int (k : Int) tk2] news (fun v' news' => v' = .bool (fitsB cs w0 k) ∧ news = news') := by
  obtain ⟨hw1, hw2, hw3⟩ := w_facts hw
  generalize hD : Dat.list [unitD cs] = D at hd
  cases hd with
  | none => cases hD
  | bool => cases hD
  | int => cases hD
  | str => cases hD
  | bytes => cases hD
  | tuple => cases hD
  | @list a1 vs n1 ds q1 e1 =>
    cases hD
    cases e1 with
    | @cons v1 vs _ _ e1 e2 =>
      cases e2
      generalize hD : unitD cs = D at e1
      unfold unitD at hD
      cases e1 with
      | none => cases hD
      | bool => cases hD
      | int => cases hD
      | str => cases hD
      | bytes => cases hD
      | list => cases hD
      | @tuple u1 vs m1 ds q2 e1 =>
        cases hD
        cases e1 with
        | cons e1 e2 =>
          cases e1
          cases e2 with
          | cons e2 e3 =>
            cases e3
            have hk0 : (0 : Int) ≤ (k : Int) := by omega
            rcases Nat.lt_or_ge k w0.length with hlt | hge
            · obtain ⟨d, hd1, hd2, hd3⟩ := hw3 k hlt
              have hfb : fitsB cs w0 k = cs.contains d := by unfold fitsB; rw [hd1]
              rw [hfb]
              rcases hcs with ⟨c, rfl⟩ | rfl
              · obtain ⟨sp1, n2, p1, m2, t1, t2, rfl, q3, q4⟩ := span1 e2
                refine ctr_led (big := (a1, W.listOf [Value.ref u1].toArray n1) :: (u1, tupN [.bool false, .ref sp1] m1) :: (sp1, W.listOf [Value.ref p1].toArray n2) :: (p1, tupN [.str (S [c]) t1, .str (S [c]) t2] m2) :: news) ?_ ?_ ?_
                · have e : ([c] : List Nat).contains d = decide (d = c) := by simp
                  rw [e]
                  exact fits1 (m3 := 0) hd3 news hk0 (by omega) (by omega)
                · intro q hq
                  simp only [List.mem_cons] at hq
                  rcases hq with rfl | rfl | rfl | rfl | hq
                  · exact q1
                  · exact q2
                  · exact q3
                  · exact q4
                  · exact hq
                · intro q hq
                  exact .tail _ (.tail _ (.tail _ (.tail _ hq)))
              · obtain ⟨sp1, n2, p1, p2, m2, m3, t1, t2, t3, t4, rfl, q3, q4, q5⟩ := span2 e2
                refine ctr_led (big := (a1, W.listOf [Value.ref u1].toArray n1) :: (u1, tupN [.bool false, .ref sp1] m1) :: (sp1, W.listOf [Value.ref p1, .ref p2].toArray n2) :: (p1, tupN [.str (S [97]) t1, .str (S [97]) t2] m2) :: (p2, tupN [.str (S [98]) t3, .str (S [98]) t4] m3) :: news) ?_ ?_ ?_
                · have e : ([97, 98] : List Nat).contains d = decide (d = 97 ∨ d = 98) := by simp
                  rw [e]
                  exact fits2 hd3 hd2 news hk0 (by omega) (by omega)
                · intro q hq
                  simp only [List.mem_cons] at hq
                  rcases hq with rfl | rfl | rfl | rfl | rfl | hq
                  · exact q1
                  · exact q2
                  · exact q3
                  · exact q4
                  · exact q5
                  · exact hq
                · intro q hq
                  exact .tail _ (.tail _ (.tail _ (.tail _ (.tail _ hq))))
            · have hfb : fitsB cs w0 k = false := by unfold fitsB; rw [List.getElem?_eq_none hge]
              rw [hfb]
              refine ctr_led (big := (a1, W.listOf [Value.ref u1].toArray n1) :: news) ?_ ?_ ?_
              · exact fits0 news (by omega) (by omega)
              · intro q hq
                simp only [List.mem_cons] at hq
                rcases hq with rfl | hq
                · exact q1
                · exact hq
              · intro q hq
                exact .tail _ hq
end Mine
end
section
open PySem PySem.W PySem.Calls PyProof.Rows PySem.W.X
namespace Mine
local macro_rules | `(tactic| k_all) => `(tactic| first
  | assumption
  | exact allLt_ne (by assumption)
  | exact ltAll_ne (by assumption)
  | exact allLt_ne (And.right (by assumption))
  | exact allLt_ne (And.right (And.right (by assumption)))
  | exact allLt_ne (And.right (And.right (And.right (by assumption))))
  | exact allLt_ne (And.right (And.right (And.right (And.right (by assumption)))))
  | exact allLt_ne (And.right (And.right (And.right (And.right (And.right (by assumption))))))
  | exact And.right (by assumption)
  | exact And.right (And.right (by assumption))
  | exact And.right (And.right (And.right (by assumption)))
  | exact And.right (And.right (And.right (And.right (by assumption)))))
local macro_rules | `(tactic| walk_at "getAttr ref") => `(tactic| (k_here; (with_reducible show wpAny _ _ (getAttr (Value.ref _) (PySem.Str.ofString "append") _) _ _ _); k_dflt (refine' getAttr_append ?k1 ?k2 ?k3 ?k4 ?k5 ?_; (case k1 => ktr_room); (case k2 => ktr_units); (case k3 => k_asm); (case k4 => k_asm); (case k5 => k_mem); k_whole); intro q' h' F' N' o1; (simp only [List.forall_mem_cons] at o1); (repeat (obtain ⟨oh, o1⟩ := o1))))
local macro_rules | `(tactic| walk_at "callWith ref") => `(tactic| (k_here; (with_reducible show wpAny _ _ (callWith _ (Value.ref _) _ (backTo _ (starEach (_ :: _) _)) []) _ _ _); k_dflt (refine' callWith_bApp ?kfbN ?kfbM ?_; (case kfbN => k_asm); (case kfbM => k_mem); k_whole)))
local macro_rules | `(tactic| walk_at "And") => `(tactic| ((with_reducible show BAt _ _ _ ∧ _); k_dflt (refine ⟨bat_of (by k_asm) (by k_mem), ?_⟩); (try dsimp only [List.nil_append, List.cons_append])))
local macro_rules | `(tactic| walk_at "call ref") => `(tactic| (k_here; (with_reducible show wpAny _ _ (call (Value.ref _) [_]) _ _ _); k_dflt (refine' call_bApp ?k1 ?k2 ?k3 ?k4 ?_ ?z; (case k1 => k_asm); (case k2 => k_asm); (case k3 => k_mem); (case k4 => k_upd); (case z => size_fits); k_whole); intro h' F' N'))
local macro_rules | `(tactic| walk_at "call type:object") => `(tactic| (k_here; k_dflt (refine' call_object ?k1 ?k2 ?k3 ?k4 ?_; (case k1 => ktr_room); (case k2 => ktr_units); (case k3 => k_asm); (case k4 => k_asm); k_whole); intro q' h' F' N' o1; (simp only [List.forall_mem_cons] at o1); (repeat (obtain ⟨oh, o1⟩ := o1))))
local macro_rules | `(tactic| walk_at "execs cons") => `(tactic| (k_here; (with_reducible refine toks_gen ?_); intro k'))

local macro_rules | `(tactic| walk_at "getMethod ref") => `(tactic| (k_here; (with_reducible show wpAny _ _ (getMethod (Value.ref 63) (PySem.Str.ofString "sub") _) _ _ _); k_dflt (refine' gm_sub ?k1 ?k2 ?_; (case k1 => k_asm); (case k2 => k_asm); k_whole)))
local macro_rules | `(tactic| walk_at "ite") => `(tactic| (k_here; first | (refine ite_pos (by with_reducible assumption) ?_; walk_say "PRUNED (own)") | (refine ite_isFalse (by with_reducible assumption) ?_; walk_say "PRUNED (own)")))
local macro_rules | `(tactic| walk_at "eval Lambda") => `(tactic| (k_here; k_dflt (refine' lam_rule ?k1 ?k2 ?k3 ?k4 ?k5 ?k6 ?k7 ?k8 ?k9 ?_; (case k1 => k_asm); (case k2 => k_asm); (case k3 => k_asm); (case k4 => k_asm); (case k5 => k_ne); (case k6 => k_ne); (case k7 => assumption); (case k8 => exact rfl); (case k9 => exact rfl); k_whole); intro f' τ' d' h' tk' F' N' n1 n2 n3 n4; (try dsimp only at n1 n2)))

local macro_rules | `(tactic| walk_at "subscriptTail") => `(tactic| (k_here; (with_reducible show wpAny _ _ (subscriptTail _ _ (Value.ref _) (Value.int (-1) _)) _ _ _); k_dflt (refine' last_item ?k1 ?k2 ?_ ?k3; (case k1 => k_asm); (case k2 => k_mem); (case k3 => with_unfolding_all rfl); k_whole)))
local macro_rules | `(tactic| walk_at "compareOp IsNot") => `(tactic| (k_here; (with_reducible show wpAny _ _ (compareOp CmpOp.IsNot (Value.str _ _) (Value.ref _)) _ _ _); refine wpAny_isNot_other (by rfl) (by intro x; cases x) ?_))
local macro_rules | `(tactic| walk_at "compareOp Is") => `(tactic| (k_here; (with_reducible show wpAny _ _ (compareOp CmpOp.Is (Value.str _ _) (Value.ref _)) _ _ _); refine wpAny_is_other (by rfl) (by intro x; cases x) ?_))
local macro_rules | `(tactic| walk_at "compareOp IsNot ref ref") => `(tactic| (k_here; with_reducible refine wpAny_isNot_ref_self ?_))
local macro_rules | `(tactic| walk_at "compareOp Is ref ref") => `(tactic| (k_here; with_reducible refine wpAny_is_ref_self ?_))

local macro_rules | `(tactic| walk_at "subscriptTail") => `(tactic| (k_here; (with_reducible show wpAny _ _ (subscriptTail _ _ (Value.ref _) (Value.int ((_ : Nat) : Int) _)) _ _ _); k_dflt (refine' item_at ?k1 ?k2 ?k3 ?k4 ?_ ?k5; (case k1 => k_asm); (case k2 => k_mem); (case k3 => assumption); (case k4 => omega); (case k5 => with_unfolding_all rfl); k_whole)))
local macro_rules | `(tactic| walk_at "call builtin:str.join") => `(tactic| (k_here; k_dflt (refine' join_at ?k1 ?k2 ?k3 ?k4 ?k5 ?k6 ?_; (case k1 => k_asm); (case k2 => k_mem); (case k3 => first | assumption | exact strsAre_push (by assumption)); (case k4 => assumption); (case k5 => decide +kernel); (case k6 => assumption); k_whole); intro _ _))
local macro_rules | `(tactic| walk_at "WhlIf") => `(tactic| (first | (refine WhlIf.yes (by with_reducible assumption) ?_) | (refine WhlIf.no (by with_reducible assumption) ?_)))
local macro_rules | `(tactic| walk_at "call builtin:len") => `(tactic| (k_here; k_dflt (refine' len_at ?k1 ?k2 ?k3 ?k4 ?_; (case k1 => k_asm); (case k2 => k_mem); (case k3 => assumption); (case k4 => omega); k_whole)))
local macro_rules | `(tactic| cell_enter) => `(tactic| (refine' code_defC ?k1 ?k2 ?k3 ?k4 ?k5 ?kA ?kF ?kK ?k6 ?k7 ?k8 ?k9 ?kB ?kD ?_ ?c2 ?c3 ?c4; (case kA => exact rfl); (case kF => exact rfl); (case kK => assumption); (case k1 => k_asm); (case k2 => k_asm); (case k3 => k_asm); (case k4 => k_asm); (case k5 => k_asm); (case k6 => k_is); (case k7 => k_is); (case k8 => ktr_room); (case k9 => exact BindsTo.of_eq rfl); (case kB => exact rfl); (case kD => decide +kernel); (case c2 => exact rfl); (case c3 => exact rfl); (case c4 => exact rfl); k_whole; intro g' L' h' tk' cells' FG' F' N' Y' B' X' T' l1; (try k_lt l1); k_cells Y'; (try simp only [List.cons_append, List.nil_append] at N'); (try dsimp only); (try k_lift B'); (try k_fold)))

set_option hygiene false in
local macro_rules | `(tactic| walk_at "exec For Tuple Call cons nil") => `(tactic| (k_here; (rename Fr _ _ _ _ => lF'); refine post_gen fun Q9 hQ9 => ?_; (with_unfolding_all refine' For_turns lF' ?_; k_whole)))
local macro_rules | `(tactic| walk_at "call type:enumerate") => `(tactic| (k_here; (with_reducible show wpAny _ _ (call (Value.type _) [Value.ref _]) (fun xv s₁ => wpAny _ _ (pyIter xv) (fun it s₂ => TurnsAt _ _ _ _ _ _ _ _ _ it s₂) _ s₁) _ _); ((rename Fr _ _ _ _ => lF'); (rename News _ _ _ _ => lN'); (with_unfolding_all refine' ktu_enum (vs := [_]) (xs := [Itm.pair (fun t => Value.int (0 : Int) t) _]) (by rfl) lF' lN' ?e1 ?e2 ?e3 ?e4 ?_; (case e1 => k_mem); (case e2 => rfl); (case e3 => rfl); (case e4 => rfl); k_whole); clear lF' lN'; intro i' l1; (try k_lt l1))))
local macro_rules | `(tactic| walk_at "CompEnd") => `(tactic| (k_dflt (refine' LCg.CompEnd.intro ?cF ?cN _ (fun _ hp => hp) ?cO ?cS ?_; (case cF => k_asm); (case cN => k_asm); (case cO => assumption); (case cS => lcg_src); k_whole)))

set_option hygiene false in
local macro_rules | `(tactic| k_all) => `(tactic| exact hz9 _ (by omega))

local macro_rules | `(tactic| walk_at "call ref") => `(tactic| (k_here; (with_reducible show wpAny _ _ (call (Value.ref 115) [_, _, _]) _ _ _); k_dflt (refine' ctr_use (fits_ctr ?w1 ?w2 ?w3 _ ?w4) ?k1 ?k2 ?k3 ?k4 ?k5 ?kK ?kd ?ku ?_; (case w1 => assumption); (case k1 => k_asm); (case k2 => k_asm); (case k3 => k_asm); (case k4 => k_asm); (case w3 => refine DatIn.mono ?wm (by assumption); case wm => intro p hp; (repeat refine List.Mem.tail _ ?_); exact hp); (case w2 => assumption); (case w4 => omega); (case k5 => k_asm); (case kK => first | exact rfl | assumption); (case kd => ktr_room); (case ku => ktr_units); k_whole); (intro v9 n9 h' tk' hR9 F' N'); (obtain ⟨e1, e2⟩ := hR9); (subst e1); (subst e2); (try dsimp only); (try k_fold)))

section
variable {prog : Program} {w : World} {A : Around} {E : Value → Shared → Prop} {Q : Flow → Shared → Prop} {s : Shared} {env : Env} {h₀ : Heap} {target : PySem.Expr} {body : List Stmt}
theorem items_mono {ws : List (Addr × String)} {keep : List (Addr × Obj)} {m : Str → Option Value} {n1 n2 : List (Addr × Obj)} (hs : ∀ p ∈ n1, p ∈ n2) : ∀ {xs : List Itm}, ItemsRest prog w A E h₀ env target body Q s ws keep xs m n1 → ItemsRest prog w A E h₀ env target body Q s ws keep xs m n2
  | [], h => fun h' tk F N => h h' tk F (fun p hp => N p (hs p hp))
  | x :: r, h => fun v h' tk e F => allobj_mono (fun its hh N => hh (fun p hp => N p (by
      rcases List.mem_append.mp hp with hp | hp
      · exact List.mem_append.mpr (.inl hp)
      · exact List.mem_append.mpr (.inr (hs p hp))))) (h v h' tk e F)
where
  allobj_mono {k1 k2 : List (Addr × Obj) → Prop} (hk : ∀ its, k1 its → k2 its) : ∀ {ws : List (Addr × String)}, AllObj ws k1 → AllObj ws k2
    := fun {ws} => go ws hk
  go : ∀ (ws : List (Addr × String)) {k1 k2 : List (Addr × Obj) → Prop} (_ : ∀ its, k1 its → k2 its), AllObj ws k1 → AllObj ws k2
    | [], _, _, hk, h => hk _ h
    | w :: r, _, _, hk, h => fun o ho => go r (fun its => hk ((w.1, o) :: its)) (h o ho)
/-- what a turn hands on: a state, its ledger and its names -/
def KitR {σ : Type} (Led : σ → List (Addr × Obj)) (ps : σ → List (Str × Value)) (stored : List Str) (m₀ : Str → Option Value) (P : σ → List Value → Prop) (keep : List (Addr × Obj)) (rest : List Value) (m' : Str → Option Value) (n' : List (Addr × Obj)) : Prop :=
  ∃ c', (∀ p ∈ Led c', p ∈ n') ∧ SubL keep n' ∧ (∀ p ∈ ps c', m' p.1 = some p.2) ∧ (∀ z, (∀ p ∈ ps c', z ≠ p.1) → stored.contains z = false → m' z = m₀ z) ∧ P c' rest
theorem kit_end {σ : Type} {L : Addr} {Led : σ → List (Addr × Obj)} {ps : σ → List (Str × Value)} {stored : List Str} {m₀ m' : Str → Option Value} {P : σ → List Value → Prop} {keep its all : List (Addr × Obj)} {rest : List Value} {s₁ : Shared} {h' : Heap} {tk : Nat} (c' : σ)
    (F : Fr h₀ L h' m') (N : News h₀ L h' all) (hI : ∀ p ∈ its, p ∈ all) (hn : ∀ p ∈ Led c', p ∈ all) (off : ∀ p ∈ Led c', ∀ q ∈ its, @Ne Nat p.1 q.1) (hk : SubL keep (Led c')) (hps : ∀ p ∈ ps c', m' p.1 = some p.2) (hr : ∀ z, (∀ p ∈ ps c', z ≠ p.1) → stored.contains z = false → m' z = m₀ z) (hp : P c' rest) :
    UnrEndW h₀ L s₁ its (KitR Led ps stored m₀ P keep rest) { s₁ with heap := h', toks := tk } :=
  ⟨h', tk, m', Led c', rfl, F, fun p hp => by
    rcases List.mem_append.mp hp with hp | hp
    · exact N p (hI p hp)
    · exact N p (hn p hp), off, c', fun _ hp => hp, hk, hps, hr, hp⟩
theorem items_inv {σ : Type} {ws : List (Addr × String)} {keep : List (Addr × Obj)} {m₀ : Str → Option Value} (Led : σ → List (Addr × Obj)) (ps : σ → List (Str × Value)) (stored : List Str) (P : σ → List Value → Prop)
    (step : ∀ c v rest (u : Str → Option Value) h tk, P c (v :: rest) → Fr h₀ env.locals h (kstB (fun z => if stored.contains z = true then u z else m₀ z) (ps c)) → AllObj ws (fun its => News h₀ env.locals h (its ++ Led c) →
      wpAny (model prog w) A (assign target env v) (fun _ s₂ => wpAny (model prog w) A (execs body env) (UnrPostW h₀ env.locals { s with heap := h, toks := tk } its (KitR Led ps stored m₀ P keep rest) Q) E s₂) E { s with heap := h, toks := tk }))
    (fin : ∀ c (u : Str → Option Value) h tk, P c [] → Fr h₀ env.locals h (kstB (fun z => if stored.contains z = true then u z else m₀ z) (ps c)) → News h₀ env.locals h (Led c) → Q .next { s with heap := h, toks := tk }) :
    ∀ (vs : List Value) (c : σ) (u : Str → Option Value), P c vs → ItemsRest prog w A E h₀ env target body Q s ws keep (vs.map .val) (kstB (fun z => if stored.contains z = true then u z else m₀ z) (ps c)) (Led c)
  | [], c, u, hp => fun h' tk F N => fin c u h' tk hp F N
  | v :: r, c, u, hp => by
    intro x h' tk e F
    have e' : x = v := e
    subst e'
    refine items_mono.go ws (fun its hh N => ?_) (step c x r u h' tk hp F)
    refine wpAny_mono (hh N) (fun _ s₂ h₂ => wpAny_mono h₂ (fun f s₃ hp => ?_) fun _ _ e => e) fun _ _ e => e
    have conv : ∀ s₄, UnrEndW h₀ env.locals { s with heap := h', toks := tk } its (KitR Led ps stored m₀ P keep r) s₄ → UnrEndW h₀ env.locals { s with heap := h', toks := tk } its (fun m' n' => SubL keep n' ∧ ItemsRest prog w A E h₀ env target body Q s ws keep (r.map .val) m' n') s₄ := by
      rintro s₄ ⟨h1, tk1, m1, n1, e1, F1, N1, o1, c1, hs, hk, hps, hr, hp1⟩
      refine ⟨h1, tk1, m1, n1, e1, F1, N1, o1, hk, ?_⟩
      have em : kstB (fun z => if stored.contains z = true then m1 z else m₀ z) (ps c1) = m1 := by
        funext y
        refine kstB_eq hps fun hn => ?_
        show (if stored.contains y = true then m1 y else m₀ y) = m1 y
        cases h3 : stored.contains y with
        | true => simp
        | false => simp only [Bool.false_eq_true, if_false]; exact (hr y hn h3).symm
      have := items_inv Led ps stored P step fin r c1 m1 hp1
      rw [em] at this
      exact items_mono hs this
    cases f with
    | ret v => exact hp
    | brk => exact hp
    | next => exact conv _ hp
    | cont => exact conv _ hp
theorem items_from {σ : Type} {ws : List (Addr × String)} {keep : List (Addr × Obj)} {m₀ : Str → Option Value} {news : List (Addr × Obj)} {vs : List Value} (Led : σ → List (Addr × Obj)) (ps : σ → List (Str × Value)) (stored : List Str) (P : σ → List Value → Prop) (c₀ : σ)
    (hn : ∀ p ∈ Led c₀, p ∈ news) (hk : ∀ p ∈ ps c₀, m₀ p.1 = some p.2) (hp : P c₀ vs)
    (step : ∀ c v rest (u : Str → Option Value) h tk, P c (v :: rest) → Fr h₀ env.locals h (kstB (fun z => if stored.contains z = true then u z else m₀ z) (ps c)) → AllObj ws (fun its => News h₀ env.locals h (its ++ Led c) →
      wpAny (model prog w) A (assign target env v) (fun _ s₂ => wpAny (model prog w) A (execs body env) (UnrPostW h₀ env.locals { s with heap := h, toks := tk } its (KitR Led ps stored m₀ P keep rest) Q) E s₂) E { s with heap := h, toks := tk }))
    (fin : ∀ c (u : Str → Option Value) h tk, P c [] → Fr h₀ env.locals h (kstB (fun z => if stored.contains z = true then u z else m₀ z) (ps c)) → News h₀ env.locals h (Led c) → Q .next { s with heap := h, toks := tk }) :
    ItemsRest prog w A E h₀ env target body Q s ws keep (vs.map .val) m₀ news := by
  refine items_mono hn ?_
  have em : kstB (fun z => if stored.contains z = true then m₀ z else m₀ z) (ps c₀) = m₀ := by
    funext y
    refine kstB_eq hk fun _ => ?_
    show (if stored.contains y = true then m₀ y else m₀ y) = m₀ y
    cases stored.contains y <;> simp
  have := items_inv (E := E) (Q := Q) (s := s) (ws := ws) (keep := keep) Led ps stored P step fin vs c₀ m₀ hp
  rw [em] at this
  exact this
end
def goodT : List (Option (List Nat)) → Bool
  | [] => true
  | some cs :: r => (decide (cs = [97, 98]) || decide (cs.length = 1)) && goodT r
  | none :: r => decide (r = [])
def takesF (w0 : List Nat) : List (Option (List Nat)) → Option Nat → Bool
  | [], st => decide (st = some w0.length)
  | some cs :: r, st => takesF w0 r (match st with
    | some p => if fitsB cs w0 p then some (p + 1) else none
    | none => none)
  | none :: _, st => st.isSome
structure TK where
  pvs : List Value
  pl : Addr
  n : Nat
  oU : Obj
def TkSt (w0 : List Nat) (pvs : List Value) : Option Nat → Prop
  | none => pvs = []
  | some p => (∃ t, pvs = [Value.int (p : Int) t]) ∧ p ≤ w0.length
def TkP (w0 : List Nat) (news : List (Addr × Obj)) (L : Nat) (res : Bool) (c : TK) (rest : List Value) : Prop :=
  (∃ v, c.oU.data = .cell v) ∧ @Ne Nat c.pl (L + 1 + 1) ∧ ∃ toks, DatAll news rest (toks.map tokD) ∧ ((∃ st, TkSt w0 c.pvs st ∧ goodT toks = true ∧ takesF w0 toks st = res) ∨ (toks = [] ∧ ∃ ks, IntsAre c.pvs ks ∧ ks.length ≤ 4 ∧ ks.contains (w0.length : Int) = res))
theorem any_contains {ks : List Int} {x : Int} : (ks.any fun y => y == x) = ks.contains x := by
  induction ks with
  | nil => rfl
  | cons a r ih => simp only [List.any_cons, List.contains_cons, ih]; rw [show (a == x) = (x == a) from BEq.comm]
theorem mem_skip2 {p x y z : Addr × Obj} {r : List (Addr × Obj)} (h : p ∈ x :: r) : p ∈ x :: y :: z :: r := by
  rcases List.mem_cons.mp h with rfl | h
  · exact .head _
  · exact .tail _ (.tail _ (.tail _ h))
theorem fits_lt {cs w0 : List Nat} {p : Nat} (h : fitsB cs w0 p = true) : p + 1 ≤ w0.length := by
  unfold fitsB at h
  cases e : w0[p]? with
  | none => rw [e] at h; cases h
  | some d => exact (List.getElem?_eq_some_iff.mp e).1
theorem range_has {p n : Nat} (h : p ≤ n) : (rangeKs (p : Int) (n + 1 - p)).contains (n : Int) = true := by
  refine List.contains_iff_mem.mpr ?_
  unfold rangeKs
  refine List.mem_map.mpr ⟨n - p, List.mem_range.mpr (by omega), by omega⟩
theorem nm9 {h₀ h : Heap} {l : Addr} {L LL : Nat} {o2 o3 : Obj} {b c : Addr × Obj} {rest : List (Addr × Obj)} (N : News h₀ LL h ((l, o3) :: b :: c :: (L, o2) :: rest)) {P : Prop} (k : ∀ l' o2', l' = l → o2' = o2 → P) : P := k l o2 rfl rfl
theorem nm8 {h₀ h : Heap} {l : Addr} {L : Nat} {o1 o2 o3 : Obj} {rest : List (Addr × Obj)} (N : News h₀ L h ((l, o3) :: (L + 1 + 1, o2) :: (L + 1, o1) :: rest)) {P : Prop} (k : ∀ L' l' o2' o1', L' = L → l' = l → o2' = o2 → o1' = o1 → P) : P := k L l o2 o1 rfl rfl rfl rfl
set_option maxRecDepth 100000 in
set_option maxHeartbeats 8000000 in
theorem takes1 {w : World} {w0 : List Nat} (hw : w0 ∈ W40) {tk : Tok} {l0 : Addr} {vs : List Value} {n0 : Nat} (news : List (Addr × Obj)) (toks : List (Option (List Nat))) (hds : DatAll news vs (toks.map tokD)) (hgood : goodT toks = true) :
   Ctr 5 w 120 [.ref l0, .str (S w0) tk] ((l0, W.listOf vs.toArray n0) :: news) (fun v' n' => v' = .bool (takesF w0 toks (some 0)) ∧ (l0, W.listOf vs.toArray n0) :: news = n') := by
  unfold Ctr
  k_with_none
  k_fill
  intro p loose mean mg mb dp un gd cn cs a ccd cl outer A₀ base h₀ L m hp9 gs9 dr9 tk9 os9 Q E B F X N T hkf hd hu hret
  obtain ⟨hw1, hw2, hw3⟩ := w_facts hw
  refine wpAny_call ?_
  k_dflt cell_enter
  rename (_ < _ ∧ AllLt _ news) => hz8
  have hz9 := allLt_ne_le hz8.2
  k_steps
  rename Fr _ _ _ _ => F1
  rename News _ _ _ _ => N1
  refine nm8 N1 fun L9 l o2 o1 e1 e2 e3 e4 => ?_
  subst e1 e2 e3 e4
  refine post_gen fun Q9 hQ9 => ?_
  with_unfolding_all refine' For_turns F1 ?_
  k_steps
  rename Fr _ _ _ _ => F2
  rename News _ _ _ _ => N2
  with_unfolding_all refine iter_listTurns (lo := W.listOf vs.toArray n0) (vs := vs) (by rfl) F2 N2 (by k_mem) (by rfl) (by rfl) ?_
  intro I lI
  k_lt lI
  refine items_from (fun c : TK => (c.pl, W.listOf c.pvs.toArray c.n) :: (L9 + 1 + 1, c.oU) :: (L9 + 1, o1) :: (l0, W.listOf vs.toArray n0) :: news) (fun c => [(Str.ofString "places", .ref c.pl)]) [Str.ofString "kind", Str.ofString "place", Str.ofString "after"] (TkP w0 news L9 (takesF w0 toks (some 0))) ⟨[.int 0 _], l, 0, o2⟩ (fun p hp => hp) (fun p hp => by rw [List.mem_singleton.mp hp]; rfl) ?p0 ?step ?fin
  case p0 => exact ⟨⟨_, by assumption⟩, by k_ne, toks, hds, .inl ⟨some 0, ⟨⟨_, rfl⟩, Nat.zero_le _⟩, hgood, rfl⟩⟩
  case step =>
    rintro ⟨pvs, pl, n, oU⟩ v rest u h tk' ⟨⟨cv, hcv⟩, hne, tks, hds2, hst⟩ F3
    refine AllObj.cons (fun oI hoI => AllObj.nil (fun N3 => ?_))
    dsimp only at hcv hne hst N3 F3
    dsimp only [kstB] at F3
    simp only [List.cons_append, List.nil_append] at N3
    refine post_gen2 fun P9 hP9 => ?_
    cases tks with
    | nil => cases hds2
    | cons tk0 tks =>
      rcases hst with ⟨st, hts, hg, hres⟩ | ⟨hnil, _⟩
      · cases hds2 with
        | cons hv hrest =>
          cases tk0 with
          | some cs =>
            obtain ⟨T9, vs2, m2, rfl, qT, h2⟩ := dat_tup hv
            obtain ⟨v1, vs2, rfl, h1, h2⟩ := dat_cons h2
            obtain ⟨v2, vs2, rfl, h3, h2⟩ := dat_cons h2
            obtain rfl := dat_nil h2
            obtain ⟨t1, rfl⟩ := dat_str h1
            obtain ⟨uu, us, nu, rfl, qu, _⟩ := dat_list h3
            have hT : IsTup h T9 #[.str (Str.ofString "one") t1, .ref uu] := ⟨_, (N3 _ (.tail _ (.tail _ (.tail _ (.tail _ (.tail _ qT)))))).1, rfl, _, rfl⟩
            simp only [goodT, Bool.and_eq_true, Bool.or_eq_true, decide_eq_true_eq] at hg
            have hcs : (∃ c, cs = [c]) ∨ cs = [97, 98] := by
              rcases hg.1 with h | h
              · exact .inr h
              · exact .inl (List.length_eq_one_iff.mp h)
            cases st with
            | none =>
              have hts : pvs = [] := hts
              subst hts
              k_steps
              rename Fr _ _ _ _ => F5
              rename News _ _ _ _ => N5
              refine nm9 N5 fun D9 o9 e1 e2 => ?_
              subst e1 e2
              refine hP9 _ _ ?_
              dsimp only [UnrPostW]
              refine kit_end ⟨[], D9, _, o9⟩ F5 N5 (fun p hp => .tail _ (by rw [List.mem_singleton.mp hp]; exact .head _)) (fun p hp => mem_skip2 hp) ?off ?hk (fun p hp => by rw [List.mem_singleton.mp hp]; rfl) (by ksw_same) ?hp
              case off =>
                intro p hp q hq
                rw [List.mem_singleton.mp hq]
                rcases List.mem_cons.mp hp with rfl | hp
                · k_ne
                rcases List.mem_cons.mp hp with rfl | hp
                · k_ne
                rcases List.mem_cons.mp hp with rfl | hp
                · k_ne
                rcases List.mem_cons.mp hp with rfl | hp
                · k_ne
                exact allLt_ne lI.2.2.2.2 p hp
              case hk => k_subL
              case hp => exact ⟨⟨_, by assumption⟩, by k_ne, tks, hrest, .inl ⟨none, rfl, hg.2, hres⟩⟩
            | some p9 =>
              obtain ⟨⟨t9, rfl⟩, hp9⟩ := hts
              cases hf : fitsB cs w0 p9 with
              | true =>
                k_steps
                rename Fr _ _ _ _ => F5
                rename News _ _ _ _ => N5
                refine nm9 N5 fun D9 o9 e1 e2 => ?_
                subst e1 e2
                refine hP9 _ _ ?_
                dsimp only [UnrPostW]
                refine kit_end ⟨[.int ((p9 : Int) + 1) _], D9, _, o9⟩ F5 N5 (fun p hp => .tail _ (by rw [List.mem_singleton.mp hp]; exact .head _)) (fun p hp => mem_skip2 hp) ?off ?hk (fun p hp => by rw [List.mem_singleton.mp hp]; rfl) (by ksw_same) ?hp
                case off =>
                  intro p hp q hq
                  rw [List.mem_singleton.mp hq]
                  rcases List.mem_cons.mp hp with rfl | hp
                  · k_ne
                  rcases List.mem_cons.mp hp with rfl | hp
                  · k_ne
                  rcases List.mem_cons.mp hp with rfl | hp
                  · k_ne
                  rcases List.mem_cons.mp hp with rfl | hp
                  · k_ne
                  exact allLt_ne lI.2.2.2.2 p hp
                case hk => k_subL
                case hp => exact ⟨⟨_, by assumption⟩, by k_ne, tks, hrest, .inl ⟨some (p9 + 1), ⟨⟨_, rfl⟩, fits_lt hf⟩, hg.2, by rw [← hres]; simp only [takesF, hf, if_true]⟩⟩
              | false =>
                k_steps
                rename Fr _ _ _ _ => F5
                rename News _ _ _ _ => N5
                refine nm9 N5 fun D9 o9 e1 e2 => ?_
                subst e1 e2
                refine hP9 _ _ ?_
                dsimp only [UnrPostW]
                refine kit_end ⟨[], D9, _, o9⟩ F5 N5 (fun p hp => .tail _ (by rw [List.mem_singleton.mp hp]; exact .head _)) (fun p hp => mem_skip2 hp) ?off ?hk (fun p hp => by rw [List.mem_singleton.mp hp]; rfl) (by ksw_same) ?hp
                case off =>
                  intro p hp q hq
                  rw [List.mem_singleton.mp hq]
                  rcases List.mem_cons.mp hp with rfl | hp
                  · k_ne
                  rcases List.mem_cons.mp hp with rfl | hp
                  · k_ne
                  rcases List.mem_cons.mp hp with rfl | hp
                  · k_ne
                  rcases List.mem_cons.mp hp with rfl | hp
                  · k_ne
                  exact allLt_ne lI.2.2.2.2 p hp
                case hk => k_subL
                case hp => exact ⟨⟨_, by assumption⟩, by k_ne, tks, hrest, .inl ⟨none, rfl, hg.2, by rw [← hres]; simp only [takesF, hf]; rfl⟩⟩
          | none =>
            obtain ⟨T9, vs2, m2, rfl, qT, h2⟩ := dat_tup hv
            obtain ⟨v1, vs2, rfl, h1, h2⟩ := dat_cons h2
            obtain ⟨v2, vs2, rfl, h3, h2⟩ := dat_cons h2
            obtain rfl := dat_nil h2
            obtain ⟨t1, rfl⟩ := dat_str h1
            obtain ⟨uu, us, nu, rfl, qu, _⟩ := dat_list h3
            have hT : IsTup h T9 #[.str (Str.ofString "run") t1, .ref uu] := ⟨_, (N3 _ (.tail _ (.tail _ (.tail _ (.tail _ (.tail _ qT)))))).1, rfl, _, rfl⟩
            simp only [goodT, decide_eq_true_eq] at hg
            subst hg
            cases st with
            | none =>
              have hts : pvs = [] := hts
              subst hts
              k_steps
              rename Fr _ _ _ _ => F5
              rename News _ _ _ _ => N5
              refine nm9 N5 fun D9 o9 e1 e2 => ?_
              subst e1 e2
              refine hP9 _ _ ?_
              dsimp only [UnrPostW]
              refine kit_end ⟨[], D9, _, o9⟩ F5 N5 (fun p hp => .tail _ (by rw [List.mem_singleton.mp hp]; exact .head _)) (fun p hp => mem_skip2 hp) ?off ?hk (fun p hp => by rw [List.mem_singleton.mp hp]; rfl) (by ksw_same) ?hp
              case off =>
                intro p hp q hq
                rw [List.mem_singleton.mp hq]
                rcases List.mem_cons.mp hp with rfl | hp
                · k_ne
                rcases List.mem_cons.mp hp with rfl | hp
                · k_ne
                rcases List.mem_cons.mp hp with rfl | hp
                · k_ne
                rcases List.mem_cons.mp hp with rfl | hp
                · k_ne
                exact allLt_ne lI.2.2.2.2 p hp
              case hk => k_subL
              case hp => exact ⟨⟨_, by assumption⟩, by k_ne, [], hrest, .inl ⟨none, rfl, rfl, hres⟩⟩
            | some p9 =>
              obtain ⟨⟨t9, rfl⟩, hp9⟩ := hts
              k_steps
              rename IsRange _ _ _ _ _ _ _ _ => R9
              rename Fr _ _ _ _ => F4
              rename News _ _ _ _ => N4
              rw [hw2] at R9
              with_unfolding_all refine kll_range (a := (p9 : Int)) (b := (w0.length : Int) + 1) (n := w0.length + 1 - p9) rfl F4 N4 R9 (small_one (by omega) (by omega) (by omega) (by omega)) (by rw [rangeSize_one, if_pos (by omega)]; omega) (by omega) ?_
              intro D us c h' tk F4' N4' lD hus
              k_lt lD
              k_steps
              rename Fr _ _ _ _ => F5
              rename News _ _ _ _ => N5
              refine nm9 N5 fun D9 o9 e1 e2 => ?_
              subst e1 e2
              refine hP9 _ _ ?_
              dsimp only [UnrPostW]
              refine kit_end ⟨us, D9, c, o9⟩ F5 N5 (fun p hp => .tail _ (by rw [List.mem_singleton.mp hp]; exact .head _)) (fun p hp => mem_skip2 hp) ?off ?hk (fun p hp => by rw [List.mem_singleton.mp hp]; rfl) (by ksw_same) ?hp
              case off =>
                intro p hp q hq
                rw [List.mem_singleton.mp hq]
                rcases List.mem_cons.mp hp with rfl | hp
                · k_ne
                rcases List.mem_cons.mp hp with rfl | hp
                · k_ne
                rcases List.mem_cons.mp hp with rfl | hp
                · k_ne
                rcases List.mem_cons.mp hp with rfl | hp
                · k_ne
                exact allLt_ne lI.2.2.2.2 p hp
              case hk => k_subL
              case hp =>
                refine ⟨⟨_, by assumption⟩, by k_ne, [], hrest, .inr ⟨rfl, _, hus, by rw [rangeKs_length]; omega, ?_⟩⟩
                rw [← hres]
                exact range_has hp9
      · cases hnil
  case fin =>
    rintro ⟨pvs, pl, n, oU⟩ u h tk' ⟨⟨cv, hcv⟩, hne, tks, hds2, hst⟩ F3 N3
    dsimp only at hcv hne hst N3 F3
    dsimp only [kstB] at F3
    have hks : ∃ ks, IntsAre pvs ks ∧ ks.length ≤ 4 ∧ ks.contains (w0.length : Int) = takesF w0 toks (some 0) := by
      rcases hst with ⟨st, hts, hg, hres⟩ | ⟨_, h⟩
      · have htk : tks = [] := by
          cases tks with
          | nil => rfl
          | cons a b => cases hds2
        subst htk
        cases st with
        | none =>
          have hts : pvs = [] := hts
          subst hts
          exact ⟨[], .nil, by decide, by rw [← hres]; simp [takesF]⟩
        | some p =>
          obtain ⟨⟨t, rfl⟩, hp⟩ := hts
          refine ⟨[(p : Int)], .cons _ _ .nil, by simp, ?_⟩
          rw [← hres]
          simp only [takesF, List.contains_cons, List.contains_nil, Bool.or_false]
          rw [Bool.eq_iff_iff]
          simp only [beq_iff_eq, decide_eq_true_eq, Option.some.injEq]
          omega
      · exact h
    obtain ⟨ks, hk1, hk2, hk3⟩ := hks
    refine hQ9 _ _ ?_
    k_steps
    rename News _ _ _ _ => kN9
    refine hret _ _ _ _ ⟨?_, rfl⟩ (by assumption) (fun p hp => kN9 p (.tail _ (.tail _ (.tail _ hp))))
    rw [← hk3, hw2, any_contains]
theorem toks_good {p : Pt} (hp : p ∈ allP) : goodT p.toks = true := all_pats (q := fun p => goodT p.toks) (by decide +kernel) hp
theorem takes_ctr {w : World} {w0 : List Nat} (hw : w0 ∈ W40) {pp : Pt} (hp : pp ∈ allP) {v : Value} {news : List (Addr × Obj)} (hd : DatIn news v (.list (pp.toks.map tokD))) {tk : Tok} :
   Ctr 5 w 120 [v, .str (S w0) tk] news (fun v' n' => v' = .bool (takesF w0 pp.toks (some 0)) ∧ news = n') := by
  obtain ⟨l0, vs, n0, rfl, q, h⟩ := dat_list hd
  refine ctr_led (big := (l0, W.listOf vs.toArray n0) :: news) (takes1 hw news pp.toks h (toks_good hp)) (fun p hp => ?_) (fun p hp => .tail _ hp)
  rcases List.mem_cons.mp hp with rfl | hp
  · exact q
  · exact hp
end Mine
end
section
open PySem PySem.W PySem.Calls PyProof.Rows PySem.W.X
namespace Mine
local macro_rules | `(tactic| k_all) => `(tactic| first
  | assumption
  | exact allLt_ne (by assumption)
  | exact ltAll_ne (by assumption)
  | exact allLt_ne (And.right (by assumption))
  | exact allLt_ne (And.right (And.right (by assumption)))
  | exact allLt_ne (And.right (And.right (And.right (by assumption))))
  | exact allLt_ne (And.right (And.right (And.right (And.right (by assumption)))))
  | exact allLt_ne (And.right (And.right (And.right (And.right (And.right (by assumption))))))
  | exact And.right (by assumption)
  | exact And.right (And.right (by assumption))
  | exact And.right (And.right (And.right (by assumption)))
  | exact And.right (And.right (And.right (And.right (by assumption)))))
local macro_rules | `(tactic| walk_at "getAttr ref") => `(tactic| (k_here; (with_reducible show wpAny _ _ (getAttr (Value.ref _) (PySem.Str.ofString "append") _) _ _ _); k_dflt (refine' getAttr_append ?k1 ?k2 ?k3 ?k4 ?k5 ?_; (case k1 => ktr_room); (case k2 => ktr_units); (case k3 => k_asm); (case k4 => k_asm); (case k5 => k_mem); k_whole); intro q' h' F' N' o1; (simp only [List.forall_mem_cons] at o1); (repeat (obtain ⟨oh, o1⟩ := o1))))
local macro_rules | `(tactic| walk_at "callWith ref") => `(tactic| (k_here; (with_reducible show wpAny _ _ (callWith _ (Value.ref _) _ (backTo _ (starEach (_ :: _) _)) []) _ _ _); k_dflt (refine' callWith_bApp ?kfbN ?kfbM ?_; (case kfbN => k_asm); (case kfbM => k_mem); k_whole)))
local macro_rules | `(tactic| walk_at "And") => `(tactic| ((with_reducible show BAt _ _ _ ∧ _); k_dflt (refine ⟨bat_of (by k_asm) (by k_mem), ?_⟩); (try dsimp only [List.nil_append, List.cons_append])))
local macro_rules | `(tactic| walk_at "call ref") => `(tactic| (k_here; (with_reducible show wpAny _ _ (call (Value.ref _) [_]) _ _ _); k_dflt (refine' call_bApp ?k1 ?k2 ?k3 ?k4 ?_ ?z; (case k1 => k_asm); (case k2 => k_asm); (case k3 => k_mem); (case k4 => k_upd); (case z => size_fits); k_whole); intro h' F' N'))
local macro_rules | `(tactic| walk_at "call type:object") => `(tactic| (k_here; k_dflt (refine' call_object ?k1 ?k2 ?k3 ?k4 ?_; (case k1 => ktr_room); (case k2 => ktr_units); (case k3 => k_asm); (case k4 => k_asm); k_whole); intro q' h' F' N' o1; (simp only [List.forall_mem_cons] at o1); (repeat (obtain ⟨oh, o1⟩ := o1))))
local macro_rules | `(tactic| walk_at "execs cons") => `(tactic| (k_here; (with_reducible refine toks_gen ?_); intro k'))

local macro_rules | `(tactic| walk_at "getMethod ref") => `(tactic| (k_here; (with_reducible show wpAny _ _ (getMethod (Value.ref 63) (PySem.Str.ofString "sub") _) _ _ _); k_dflt (refine' gm_sub ?k1 ?k2 ?_; (case k1 => k_asm); (case k2 => k_asm); k_whole)))
local macro_rules | `(tactic| walk_at "ite") => `(tactic| (k_here; first | (refine ite_pos (by with_reducible assumption) ?_; walk_say "PRUNED (own)") | (refine ite_isFalse (by with_reducible assumption) ?_; walk_say "PRUNED (own)")))
local macro_rules | `(tactic| walk_at "eval Lambda") => `(tactic| (k_here; k_dflt (refine' lam_rule ?k1 ?k2 ?k3 ?k4 ?k5 ?k6 ?k7 ?k8 ?k9 ?_; (case k1 => k_asm); (case k2 => k_asm); (case k3 => k_asm); (case k4 => k_asm); (case k5 => k_ne); (case k6 => k_ne); (case k7 => assumption); (case k8 => exact rfl); (case k9 => exact rfl); k_whole); intro f' τ' d' h' tk' F' N' n1 n2 n3 n4; (try dsimp only at n1 n2)))

local macro_rules | `(tactic| walk_at "subscriptTail") => `(tactic| (k_here; (with_reducible show wpAny _ _ (subscriptTail _ _ (Value.ref _) (Value.int (-1) _)) _ _ _); k_dflt (refine' last_item ?k1 ?k2 ?_ ?k3; (case k1 => k_asm); (case k2 => k_mem); (case k3 => with_unfolding_all rfl); k_whole)))
local macro_rules | `(tactic| walk_at "compareOp IsNot") => `(tactic| (k_here; (with_reducible show wpAny _ _ (compareOp CmpOp.IsNot (Value.str _ _) (Value.ref _)) _ _ _); refine wpAny_isNot_other (by rfl) (by intro x; cases x) ?_))
local macro_rules | `(tactic| walk_at "compareOp Is") => `(tactic| (k_here; (with_reducible show wpAny _ _ (compareOp CmpOp.Is (Value.str _ _) (Value.ref _)) _ _ _); refine wpAny_is_other (by rfl) (by intro x; cases x) ?_))
local macro_rules | `(tactic| walk_at "compareOp IsNot ref ref") => `(tactic| (k_here; with_reducible refine wpAny_isNot_ref_self ?_))
local macro_rules | `(tactic| walk_at "compareOp Is ref ref") => `(tactic| (k_here; with_reducible refine wpAny_is_ref_self ?_))

local macro_rules | `(tactic| walk_at "subscriptTail") => `(tactic| (k_here; (with_reducible show wpAny _ _ (subscriptTail _ _ (Value.ref _) (Value.int ((_ : Nat) : Int) _)) _ _ _); k_dflt (refine' item_at ?k1 ?k2 ?k3 ?k4 ?_ ?k5; (case k1 => k_asm); (case k2 => k_mem); (case k3 => assumption); (case k4 => omega); (case k5 => with_unfolding_all rfl); k_whole)))
local macro_rules | `(tactic| walk_at "call builtin:str.join") => `(tactic| (k_here; k_dflt (refine' join_at ?k1 ?k2 ?k3 ?k4 ?k5 ?k6 ?_; (case k1 => k_asm); (case k2 => k_mem); (case k3 => first | assumption | exact strsAre_push (by assumption)); (case k4 => assumption); (case k5 => decide +kernel); (case k6 => assumption); k_whole); intro _ _))
local macro_rules | `(tactic| walk_at "WhlIf") => `(tactic| (first | (refine WhlIf.yes (by with_reducible assumption) ?_) | (refine WhlIf.no (by with_reducible assumption) ?_)))
local macro_rules | `(tactic| walk_at "call builtin:len") => `(tactic| (k_here; k_dflt (refine' len_at ?k1 ?k2 ?k3 ?k4 ?_; (case k1 => k_asm); (case k2 => k_mem); (case k3 => assumption); (case k4 => omega); k_whole)))
local macro_rules | `(tactic| cell_enter) => `(tactic| (refine' code_defC ?k1 ?k2 ?k3 ?k4 ?k5 ?kA ?kF ?kK ?k6 ?k7 ?k8 ?k9 ?kB ?kD ?_ ?c2 ?c3 ?c4; (case kA => exact rfl); (case kF => exact rfl); (case kK => assumption); (case k1 => k_asm); (case k2 => k_asm); (case k3 => k_asm); (case k4 => k_asm); (case k5 => k_asm); (case k6 => k_is); (case k7 => k_is); (case k8 => ktr_room); (case k9 => exact BindsTo.of_eq rfl); (case kB => exact rfl); (case kD => decide +kernel); (case c2 => exact rfl); (case c3 => exact rfl); (case c4 => exact rfl); k_whole; intro g' L' h' tk' cells' FG' F' N' Y' B' X' T' l1; (try k_lt l1); k_cells Y'; (try simp only [List.cons_append, List.nil_append] at N'); (try dsimp only); (try k_lift B'); (try k_fold)))

set_option hygiene false in
local macro_rules | `(tactic| walk_at "exec For Tuple Call cons nil") => `(tactic| (k_here; (rename Fr _ _ _ _ => lF'); refine post_gen fun Q9 hQ9 => ?_; (with_unfolding_all refine' For_turns lF' ?_; k_whole)))
local macro_rules | `(tactic| walk_at "call type:enumerate") => `(tactic| (k_here; (with_reducible show wpAny _ _ (call (Value.type _) [Value.ref _]) (fun xv s₁ => wpAny _ _ (pyIter xv) (fun it s₂ => TurnsAt _ _ _ _ _ _ _ _ _ it s₂) _ s₁) _ _); ((rename Fr _ _ _ _ => lF'); (rename News _ _ _ _ => lN'); (with_unfolding_all refine' ktu_enum (vs := [_]) (xs := [Itm.pair (fun t => Value.int (0 : Int) t) _]) (by rfl) lF' lN' ?e1 ?e2 ?e3 ?e4 ?_; (case e1 => k_mem); (case e2 => rfl); (case e3 => rfl); (case e4 => rfl); k_whole); clear lF' lN'; intro i' l1; (try k_lt l1))))
local macro_rules | `(tactic| walk_at "CompEnd") => `(tactic| (k_dflt (refine' LCg.CompEnd.intro ?cF ?cN _ (fun _ hp => hp) ?cO ?cS ?_; (case cF => k_asm); (case cN => k_asm); (case cO => assumption); (case cS => lcg_src); k_whole)))

set_option hygiene false in
local macro_rules | `(tactic| k_all) => `(tactic| exact hz9 _ (by omega))

local macro_rules | `(tactic| walk_at "call ref") => `(tactic| (k_here; (with_reducible show wpAny _ _ (call (Value.ref 115) [_, _, _]) _ _ _); k_dflt (refine' ctr_use (fits_ctr ?w1 ?w2 ?w3 _ ?w4) ?k1 ?k2 ?k3 ?k4 ?k5 ?kK ?kd ?ku ?_; (case w1 => assumption); (case k1 => k_asm); (case k2 => k_asm); (case k3 => k_asm); (case k4 => k_asm); (case w3 => refine DatIn.mono ?wm (by assumption); case wm => intro p hp; (repeat refine List.Mem.tail _ ?_); exact hp); (case w2 => assumption); (case w4 => omega); (case k5 => k_asm); (case kK => first | exact rfl | assumption); (case kd => ktr_room); (case ku => ktr_units); k_whole); (intro v9 n9 h' tk' hR9 F' N'); (obtain ⟨e1, e2⟩ := hR9); (subst e1); (subst e2); (try dsimp only); (try k_fold)))

theorem sorted_at {prog : Program} {w : World} {A : Around} {E : Value → Shared → Prop} {s : Shared} {h₀ : Heap} {L l : Addr} {m : Str → Option Value} {news : List (Addr × Obj)} {vs : List Value} {ss : List Str} {n k : Nat} {Q : Value → Shared → Prop} (F : Fr h₀ L s.heap m) (N : News h₀ L s.heap news) (hm : (l, W.listOf vs.toArray n) ∈ news) (hS : StrsAre vs ss) (hk : ss.length = k) (h64 : k < 64)
    (h : ∀ D h' (vs' : List Value) (ss' : List Str) (e : Nat), Fr h₀ L h' m → News h₀ L h' ((D, W.listOf vs'.toArray e) :: news) → (∀ p ∈ news, p.1 < D) → Cut (StrsAre vs' ss') → vs'.toArray.size = k → ss'.length = k → ss'.Perm ss → sortedS ss' = true → Q (.ref D) { s with heap := h' }) :
    wpAny (model prog w) A (call (.builtin "sorted") [.ref l]) Q E s := by
  subst hk
  have e1 := StrsAre.length hS
  refine sorted_N_str F N (PySem.IsL.isList (n := n) (N _ hm).1) hS (by omega) fun h' vs' ss' e F' N' a1 a2 a3 => ?_
  have e2 := StrsAre.length a1
  have e3 := a2.length_eq
  exact h _ h' vs' ss' e F' N' (fun p hp => Nat.lt_succ_of_lt (Heap.lt_size (N p hp).1)) a1 (by rw [List.size_toArray]; omega) (by omega) a2 a3
local macro_rules | `(tactic| walk_at "call builtin:sorted") => `(tactic| (k_here; k_dflt (refine' sorted_at ?k1 ?k2 ?k3 ?k4 ?k5 ?k6 ?_; (case k1 => k_asm); (case k2 => k_asm); (case k3 => k_mem); (case k4 => assumption); (case k5 => assumption); (case k6 => omega); k_whole); intro D' h' vs' ss' e' F' N' l1 hS' hz' hn' hp' hs'; (try k_lt l1)))
theorem item_strs {prog : Program} {w : World} {A : Around} {E : Value → Shared → Prop} {s : Shared} {h₀ : Heap} {L l : Addr} {value slice : PySem.Expr} {news : List (Addr × Obj)} {vs : List Value} {ss : List Str} {n j : Nat} {i : Int} {u : Tok} {Q : Value → Shared → Prop} (N : News h₀ L s.heap news) (hm : (l, W.listOf vs.toArray n) ∈ news) (hS : Cut (StrsAre vs ss)) (hi : i = (j : Int)) (hj : j < ss.length) (hk : (j : Int) < 2 ^ 63) (h : ∀ t, Q (.str (ss.getD j Str.empty) t) s)
    (hs : subscripted slice false (.ref l) (.int i u) = operate [.ref l, .int i u] (getItem (.ref l) (.int i u)) := by with_unfolding_all rfl) :
    wpAny (model prog w) A (subscriptTail value slice (.ref l) (.int i u)) Q E s := by
  subst hi
  obtain ⟨t, ht⟩ := StrsAre.get hS j _ (List.getElem?_eq_getElem hj)
  have h9 := h t
  rw [List.getD_eq_getElem?_getD, List.getElem?_eq_getElem hj, Option.getD_some] at h9
  exact item_at N hm ht hk h9 hs
local macro_rules | `(tactic| walk_at "subscriptTail") => `(tactic| (k_here; (with_reducible show wpAny _ _ (subscriptTail _ _ (Value.ref _) (Value.int _ _)) _ _ _); k_dflt (refine' item_strs ?k1 ?k2 ?k3 ?k4 ?k5 ?k6 ?_ ?k7; (case k1 => k_asm); (case k2 => k_mem); (case k3 => assumption); (case k4 => assumption); (case k5 => omega); (case k6 => omega); (case k7 => with_unfolding_all rfl); k_whole); intro t'))
set_option maxRecDepth 100000 in
set_option maxHeartbeats 8000000 in
theorem med_low {w : World} {lw : Addr} {wvs : List Value} {nw n : Nat} {ss : List Str} (hS : StrsAre wvs ss) (hn : ss.length = n) (hn0 : 4 ≤ n) (hn1 : n ≤ 8) (news : List (Addr × Obj)) :
   Ctr 3 w 51 [.ref lw] ((lw, W.listOf wvs.toArray nw) :: news) (fun v' n' => (∃ ss' t, ss'.Perm ss ∧ sortedS ss' = true ∧ v' = .str (ss'.getD ((n - 1) / 2) Str.empty) t) ∧ (lw, W.listOf wvs.toArray nw) :: news = n') := by
  unfold Ctr
  k_with_none
  k_fill
  intro p loose mean mg mb dp un gd cn cs a ccd cl outer A₀ base h₀ L m hp9 gs9 dr9 tk9 os9 Q E B F X N T hkf hd hu hret
  refine wpAny_call ?_
  k_dflt cell_enter
  have z0 : ((n : Int) == 0) = false := beq_eq_false_iff_ne.mpr (by omega)
  rcases Nat.mod_two_eq_zero_or_one n with hpar | hpar
  · have z1 : ((n : Int).fmod 2 == 1) = false := beq_eq_false_iff_ne.mpr (by rw [Int.fmod_eq_emod_of_nonneg _ (by omega)]; omega)
    have z2 : (n : Int).fdiv 2 - 1 = (((n - 1) / 2 : Nat) : Int) := by rw [Int.fdiv_eq_ediv_of_nonneg _ (by omega)]; omega
    have z3 : (n - 1) / 2 < n := by omega
    k_steps
    rename News _ _ _ _ => kN9
    exact hret _ _ _ _ ⟨⟨_, _, by assumption, by assumption, by rw [z2, Int.toNat_natCast]⟩, rfl⟩ (by assumption) (fun p hp => kN9 p (.tail _ hp))
  · have z1 : ((n : Int).fmod 2 == 1) = true := beq_iff_eq.mpr (by rw [Int.fmod_eq_emod_of_nonneg _ (by omega)]; omega)
    have z2 : (n : Int).fdiv 2 = (((n - 1) / 2 : Nat) : Int) := by rw [Int.fdiv_eq_ediv_of_nonneg _ (by omega)]; omega
    have z3 : (n - 1) / 2 < n := by omega
    k_steps
    rename News _ _ _ _ => kN9
    exact hret _ _ _ _ ⟨⟨_, _, by assumption, by assumption, by rw [z2, Int.toNat_natCast]⟩, rfl⟩ (by assumption) (fun p hp => kN9 p (.tail _ hp))
set_option maxRecDepth 100000 in
set_option maxHeartbeats 8000000 in
theorem med_high {w : World} {lw : Addr} {wvs : List Value} {nw n : Nat} {ss : List Str} (hS : StrsAre wvs ss) (hn : ss.length = n) (hn0 : 4 ≤ n) (hn1 : n ≤ 8) (news : List (Addr × Obj)) :
   Ctr 3 w 58 [.ref lw] ((lw, W.listOf wvs.toArray nw) :: news) (fun v' n' => (∃ ss' t, ss'.Perm ss ∧ sortedS ss' = true ∧ v' = .str (ss'.getD (n / 2) Str.empty) t) ∧ (lw, W.listOf wvs.toArray nw) :: news = n') := by
  unfold Ctr
  k_with_none
  k_fill
  intro p loose mean mg mb dp un gd cn cs a ccd cl outer A₀ base h₀ L m hp9 gs9 dr9 tk9 os9 Q E B F X N T hkf hd hu hret
  refine wpAny_call ?_
  k_dflt cell_enter
  have z0 : ((n : Int) == 0) = false := beq_eq_false_iff_ne.mpr (by omega)
  have z2 : (n : Int).fdiv 2 = ((n / 2 : Nat) : Int) := by rw [Int.fdiv_eq_ediv_of_nonneg _ (by omega)]; omega
  have z3 : n / 2 < n := by omega
  k_steps
  rename News _ _ _ _ => kN9
  exact hret _ _ _ _ ⟨⟨_, _, by assumption, by assumption, by rw [z2, Int.toNat_natCast]⟩, rfl⟩ (by assumption) (fun p hp => kN9 p (.tail _ hp))
end Mine
end
section
open PySem PySem.W PySem.Calls PyProof.Rows PySem.W.X
namespace Mine
local macro_rules | `(tactic| k_all) => `(tactic| first
  | assumption
  | exact allLt_ne (by assumption)
  | exact ltAll_ne (by assumption)
  | exact allLt_ne (And.right (by assumption))
  | exact allLt_ne (And.right (And.right (by assumption)))
  | exact allLt_ne (And.right (And.right (And.right (by assumption))))
  | exact allLt_ne (And.right (And.right (And.right (And.right (by assumption)))))
  | exact allLt_ne (And.right (And.right (And.right (And.right (And.right (by assumption))))))
  | exact And.right (by assumption)
  | exact And.right (And.right (by assumption))
  | exact And.right (And.right (And.right (by assumption)))
  | exact And.right (And.right (And.right (And.right (by assumption)))))
local macro_rules | `(tactic| walk_at "getAttr ref") => `(tactic| (k_here; (with_reducible show wpAny _ _ (getAttr (Value.ref _) (PySem.Str.ofString "append") _) _ _ _); k_dflt (refine' getAttr_append ?k1 ?k2 ?k3 ?k4 ?k5 ?_; (case k1 => ktr_room); (case k2 => ktr_units); (case k3 => k_asm); (case k4 => k_asm); (case k5 => k_mem); k_whole); intro q' h' F' N' o1; (simp only [List.forall_mem_cons] at o1); (repeat (obtain ⟨oh, o1⟩ := o1))))
local macro_rules | `(tactic| walk_at "callWith ref") => `(tactic| (k_here; (with_reducible show wpAny _ _ (callWith _ (Value.ref _) _ (backTo _ (starEach (_ :: _) _)) []) _ _ _); k_dflt (refine' callWith_bApp ?kfbN ?kfbM ?_; (case kfbN => k_asm); (case kfbM => k_mem); k_whole)))
local macro_rules | `(tactic| walk_at "And") => `(tactic| ((with_reducible show BAt _ _ _ ∧ _); k_dflt (refine ⟨bat_of (by k_asm) (by k_mem), ?_⟩); (try dsimp only [List.nil_append, List.cons_append])))
local macro_rules | `(tactic| walk_at "call ref") => `(tactic| (k_here; (with_reducible show wpAny _ _ (call (Value.ref _) [_]) _ _ _); k_dflt (refine' call_bApp ?k1 ?k2 ?k3 ?k4 ?_ ?z; (case k1 => k_asm); (case k2 => k_asm); (case k3 => k_mem); (case k4 => k_upd); (case z => size_fits); k_whole); intro h' F' N'))
local macro_rules | `(tactic| walk_at "call type:object") => `(tactic| (k_here; k_dflt (refine' call_object ?k1 ?k2 ?k3 ?k4 ?_; (case k1 => ktr_room); (case k2 => ktr_units); (case k3 => k_asm); (case k4 => k_asm); k_whole); intro q' h' F' N' o1; (simp only [List.forall_mem_cons] at o1); (repeat (obtain ⟨oh, o1⟩ := o1))))
local macro_rules | `(tactic| walk_at "execs cons") => `(tactic| (k_here; (with_reducible refine toks_gen ?_); intro k'))

local macro_rules | `(tactic| walk_at "getMethod ref") => `(tactic| (k_here; (with_reducible show wpAny _ _ (getMethod (Value.ref 63) (PySem.Str.ofString "sub") _) _ _ _); k_dflt (refine' gm_sub ?k1 ?k2 ?_; (case k1 => k_asm); (case k2 => k_asm); k_whole)))
local macro_rules | `(tactic| walk_at "ite") => `(tactic| (k_here; first | (refine ite_pos (by with_reducible assumption) ?_; walk_say "PRUNED (own)") | (refine ite_isFalse (by with_reducible assumption) ?_; walk_say "PRUNED (own)")))
local macro_rules | `(tactic| walk_at "eval Lambda") => `(tactic| (k_here; k_dflt (refine' lam_rule ?k1 ?k2 ?k3 ?k4 ?k5 ?k6 ?k7 ?k8 ?k9 ?_; (case k1 => k_asm); (case k2 => k_asm); (case k3 => k_asm); (case k4 => k_asm); (case k5 => k_ne); (case k6 => k_ne); (case k7 => assumption); (case k8 => exact rfl); (case k9 => exact rfl); k_whole); intro f' τ' d' h' tk' F' N' n1 n2 n3 n4; (try dsimp only at n1 n2)))

local macro_rules | `(tactic| walk_at "subscriptTail") => `(tactic| (k_here; (with_reducible show wpAny _ _ (subscriptTail _ _ (Value.ref _) (Value.int (-1) _)) _ _ _); k_dflt (refine' last_item ?k1 ?k2 ?_ ?k3; (case k1 => k_asm); (case k2 => k_mem); (case k3 => with_unfolding_all rfl); k_whole)))
local macro_rules | `(tactic| walk_at "compareOp IsNot") => `(tactic| (k_here; (with_reducible show wpAny _ _ (compareOp CmpOp.IsNot (Value.str _ _) (Value.ref _)) _ _ _); refine wpAny_isNot_other (by rfl) (by intro x; cases x) ?_))
local macro_rules | `(tactic| walk_at "compareOp Is") => `(tactic| (k_here; (with_reducible show wpAny _ _ (compareOp CmpOp.Is (Value.str _ _) (Value.ref _)) _ _ _); refine wpAny_is_other (by rfl) (by intro x; cases x) ?_))
local macro_rules | `(tactic| walk_at "compareOp IsNot ref ref") => `(tactic| (k_here; with_reducible refine wpAny_isNot_ref_self ?_))
local macro_rules | `(tactic| walk_at "compareOp Is ref ref") => `(tactic| (k_here; with_reducible refine wpAny_is_ref_self ?_))

local macro_rules | `(tactic| walk_at "subscriptTail") => `(tactic| (k_here; (with_reducible show wpAny _ _ (subscriptTail _ _ (Value.ref _) (Value.int ((_ : Nat) : Int) _)) _ _ _); k_dflt (refine' item_at ?k1 ?k2 ?k3 ?k4 ?_ ?k5; (case k1 => k_asm); (case k2 => k_mem); (case k3 => assumption); (case k4 => omega); (case k5 => with_unfolding_all rfl); k_whole)))
local macro_rules | `(tactic| walk_at "call builtin:str.join") => `(tactic| (k_here; k_dflt (refine' join_at ?k1 ?k2 ?k3 ?k4 ?k5 ?k6 ?_; (case k1 => k_asm); (case k2 => k_mem); (case k3 => first | assumption | exact strsAre_push (by assumption)); (case k4 => assumption); (case k5 => decide +kernel); (case k6 => assumption); k_whole); intro _ _))
local macro_rules | `(tactic| walk_at "WhlIf") => `(tactic| (first | (refine WhlIf.yes (by with_reducible assumption) ?_) | (refine WhlIf.no (by with_reducible assumption) ?_)))
local macro_rules | `(tactic| walk_at "call builtin:len") => `(tactic| (k_here; k_dflt (refine' len_at ?k1 ?k2 ?k3 ?k4 ?_; (case k1 => k_asm); (case k2 => k_mem); (case k3 => assumption); (case k4 => omega); k_whole)))
local macro_rules | `(tactic| cell_enter) => `(tactic| (refine' code_defC ?k1 ?k2 ?k3 ?k4 ?k5 ?kA ?kF ?kK ?k6 ?k7 ?k8 ?k9 ?kB ?kD ?_ ?c2 ?c3 ?c4; (case kA => exact rfl); (case kF => exact rfl); (case kK => assumption); (case k1 => k_asm); (case k2 => k_asm); (case k3 => k_asm); (case k4 => k_asm); (case k5 => k_asm); (case k6 => k_is); (case k7 => k_is); (case k8 => ktr_room); (case k9 => exact BindsTo.of_eq rfl); (case kB => exact rfl); (case kD => decide +kernel); (case c2 => exact rfl); (case c3 => exact rfl); (case c4 => exact rfl); k_whole; intro g' L' h' tk' cells' FG' F' N' Y' B' X' T' l1; (try k_lt l1); k_cells Y'; (try simp only [List.cons_append, List.nil_append] at N'); (try dsimp only); (try k_lift B'); (try k_fold)))

set_option hygiene false in
local macro_rules | `(tactic| walk_at "exec For Tuple Call cons nil") => `(tactic| (k_here; (rename Fr _ _ _ _ => lF'); refine post_gen fun Q9 hQ9 => ?_; (with_unfolding_all refine' For_turns lF' ?_; k_whole)))
local macro_rules | `(tactic| walk_at "call type:enumerate") => `(tactic| (k_here; (with_reducible show wpAny _ _ (call (Value.type _) [Value.ref _]) (fun xv s₁ => wpAny _ _ (pyIter xv) (fun it s₂ => TurnsAt _ _ _ _ _ _ _ _ _ it s₂) _ s₁) _ _); ((rename Fr _ _ _ _ => lF'); (rename News _ _ _ _ => lN'); (with_unfolding_all refine' ktu_enum (vs := [_]) (xs := [Itm.pair (fun t => Value.int (0 : Int) t) _]) (by rfl) lF' lN' ?e1 ?e2 ?e3 ?e4 ?_; (case e1 => k_mem); (case e2 => rfl); (case e3 => rfl); (case e4 => rfl); k_whole); clear lF' lN'; intro i' l1; (try k_lt l1))))
local macro_rules | `(tactic| walk_at "CompEnd") => `(tactic| (k_dflt (refine' LCg.CompEnd.intro ?cF ?cN _ (fun _ hp => hp) ?cO ?cS ?_; (case cF => k_asm); (case cN => k_asm); (case cO => assumption); (case cS => lcg_src); k_whole)))

set_option hygiene false in
local macro_rules | `(tactic| k_all) => `(tactic| exact hz9 _ (by omega))

local macro_rules | `(tactic| walk_at "call ref") => `(tactic| (k_here; (with_reducible show wpAny _ _ (call (Value.ref 115) [_, _, _]) _ _ _); k_dflt (refine' ctr_use (fits_ctr ?w1 ?w2 ?w3 _ ?w4) ?k1 ?k2 ?k3 ?k4 ?k5 ?kK ?kd ?ku ?_; (case w1 => assumption); (case k1 => k_asm); (case k2 => k_asm); (case k3 => k_asm); (case k4 => k_asm); (case w3 => refine DatIn.mono ?wm (by assumption); case wm => intro p hp; (repeat refine List.Mem.tail _ ?_); exact hp); (case w2 => assumption); (case w4 => omega); (case k5 => k_asm); (case kK => first | exact rfl | assumption); (case kd => ktr_room); (case ku => ktr_units); k_whole); (intro v9 n9 h' tk' hR9 F' N'); (obtain ⟨e1, e2⟩ := hR9); (subst e1); (subst e2); (try dsimp only); (try k_fold)))

local macro_rules | `(tactic| walk_at "call builtin:sorted") => `(tactic| (k_here; k_dflt (refine' sorted_at ?k1 ?k2 ?k3 ?k4 ?k5 ?k6 ?_; (case k1 => k_asm); (case k2 => k_asm); (case k3 => k_mem); (case k4 => assumption); (case k5 => assumption); (case k6 => omega); k_whole); intro D' h' vs' ss' e' F' N' l1 hS' hz' hn' hp' hs'; (try k_lt l1)))
local macro_rules | `(tactic| walk_at "subscriptTail") => `(tactic| (k_here; (with_reducible show wpAny _ _ (subscriptTail _ _ (Value.ref _) (Value.int _ _)) _ _ _); k_dflt (refine' item_strs ?k1 ?k2 ?k3 ?k4 ?k5 ?k6 ?_ ?k7; (case k1 => k_asm); (case k2 => k_mem); (case k3 => assumption); (case k4 => assumption); (case k5 => omega); (case k6 => omega); (case k7 => with_unfolding_all rfl); k_whole); intro t'))

def enumS : Nat → List Nat → List Itm
  | _, [] => []
  | i, c :: r => .pairF (fun t => .int (i : Int) t) (.str (S [c])) :: enumS (i + 1) r
theorem enumS_length : ∀ (vs : List Nat) (a : Nat), (enumS a vs).length = vs.length
  | [], _ => rfl
  | _ :: r, a => congrArg (· + 1) (enumS_length r (a + 1))
theorem enumS_get : ∀ (vs : List Nat) (a i : Nat) {v : Nat}, vs[i]? = some v → (enumS a vs)[i]? = some (.pairF (fun t => .int ((a + i : Nat) : Int) t) (.str (S [v])))
  | [], _, _, _, h => by simp at h
  | x :: r, a, 0, v, h => by
    have e : x = v := by simpa using h
    subst e
    rfl
  | x :: r, a, i + 1, v, h => by
    have h' : r[i]? = some v := by simpa using h
    have q := enumS_get r (a + 1) i h'
    have e : a + 1 + i = a + (i + 1) := by omega
    rw [e] at q
    simpa [enumS] using q
section
variable {prog : Program} {w : World} {A : Around} {E : Value → Shared → Prop} {Q : Flow → Shared → Prop} {s : Shared} {env : Env} {h₀ : Heap} {body : List Stmt}
theorem ktu_enumS {elts : List PySem.Expr} {k : Nat} {pos : Pos} {w0 : List Nat} {tx : Tok} {m₀ : Str → Option Value} {news : List (Addr × Obj)}
    (hh : A.handled = none) (F : Fr h₀ env.locals s.heap m₀) (N : News h₀ env.locals s.heap news) (hasc : strIterType (S w0) = "str_ascii_iterator")
    (rest₀ : ∀ I : Addr, (∀ p ∈ news, p.1 < I) → ItemsRest prog w A E h₀ env (.Tuple elts k pos) body Q s [(I + 1, "enumerate"), (I, "str_ascii_iterator")] [] (enumS 0 w0) m₀ news) :
    wpAny (model prog w) A (call (.type "enumerate") [.str (S w0) tx]) (fun xv s₁ => wpAny (model prog w) A (pyIter xv) (fun it s₂ => TurnsAt prog w A h₀ env (.Tuple elts k pos) body Q E it s₂) E s₁) E s := by
  have hLs : env.locals < s.heap.objs.size := F.ns.lt
  refine call_enumerate_str fun h' hE hI hsz hk => ?_
  rw [hasc] at hI
  refine wpAny_pyIter_enum hE ?_
  refine ktu_core (tk0 := s.toks) (keep := []) (KTurns.ofWalksU (WalksT.enumerateD (Draws.strAscii (A := A.in1) hh s.heap.objs.size (S w0) tx) (s.heap.objs.size + 1) (Nat.succ_ne_self _) (by simp) (by simp)).toU) (by rw [enumS_length]; simp [S]) ?_ ?_ ?_ ?_ ?_ ?_ ?_ ?_ (F.keeps hk) (N.grown hk) trivial (rest₀ _ fun p hp => Heap.lt_size (N p hp).1)
  · rintro i v h ⟨T, vals, rfl, ⟨t, x, ⟨c, u, hx, rfl⟩, rfl⟩, hT⟩
    refine ⟨_, enumS_get w0 0 i (v := c) (by simpa [S] using hx), T, t, _, rfl, .str _ u, ?_⟩
    show IsTup h T #[.int ((0 + i : Nat) : Int) t, _]
    rw [Nat.zero_add]
    exact hT
  · rintro i h ⟨⟨old, he⟩, ⟨oi, hoi, hic, _⟩⟩
    have he' : ∃ oe : Obj, h.get? (s.heap.objs.size + 1) = some oe ∧ oe.cls = .type "enumerate" := ⟨_, he, rfl⟩
    obtain ⟨oe, h1, h2⟩ := he'
    refine ⟨[(s.heap.objs.size + 1, oe), (s.heap.objs.size, oi)], ⟨⟨rfl, h2⟩, ⟨rfl, hic⟩, trivial⟩, fun p hp => ?_⟩
    rcases List.mem_cons.mp hp with rfl | hp
    · exact h1
    · rw [List.mem_singleton.mp hp]; exact hoi
  · intro b hb
    have hb' : b = s.heap.objs.size + 1 ∨ b = s.heap.objs.size := by simpa using hb
    rcases hb' with rfl | rfl
    · exact ⟨by simp, ktu_new F (Nat.le_add_right _ _)⟩
    · exact ⟨by simp, ktu_new F (Nat.le_refl _)⟩
  · intro b hb
    simpa using hb
  · intro b hb
    have hb' : b = s.heap.objs.size + 1 ∨ b = s.heap.objs.size := by simpa using hb
    rcases hb' with rfl | rfl
    · exact .inl (by simp)
    · exact .inl (by simp)
  · intro hI'
    have hb' : env.locals = s.heap.objs.size + 1 ∨ env.locals = s.heap.objs.size := by simpa using hI'
    rcases hb' with e | e
    · exact ktu_ne 1 hLs e
    · exact Nat.ne_of_lt hLs e
  · intro p hp hI'
    have hb' : p.1 = s.heap.objs.size + 1 ∨ p.1 = s.heap.objs.size := by simpa using hI'
    have hlp := Heap.lt_size (N p hp).1
    rcases hb' with e | e
    · exact ktu_ne 1 hlp e
    · exact Nat.ne_of_lt hlp e
  · exact ⟨⟨.none, hE⟩, hI⟩
/-- as KitR, over items -/
def KitI {σ : Type} (Led : σ → List (Addr × Obj)) (ps : σ → List (Str × Value)) (stored : List Str) (m₀ : Str → Option Value) (P : σ → List Itm → Prop) (keep : List (Addr × Obj)) (rest : List Itm) (m' : Str → Option Value) (n' : List (Addr × Obj)) : Prop :=
  ∃ c', (∀ p ∈ Led c', p ∈ n') ∧ SubL keep n' ∧ (∀ p ∈ ps c', m' p.1 = some p.2) ∧ (∀ z, (∀ p ∈ ps c', z ≠ p.1) → stored.contains z = false → m' z = m₀ z) ∧ P c' rest
theorem kit_endI {σ : Type} {L : Addr} {Led : σ → List (Addr × Obj)} {ps : σ → List (Str × Value)} {stored : List Str} {m₀ m' : Str → Option Value} {P : σ → List Itm → Prop} {keep its all : List (Addr × Obj)} {rest : List Itm} {s₁ : Shared} {h' : Heap} {tk : Nat} (c' : σ)
    (F : Fr h₀ L h' m') (N : News h₀ L h' all) (hI : ∀ p ∈ its, p ∈ all) (hn : ∀ p ∈ Led c', p ∈ all) (off : ∀ p ∈ Led c', ∀ q ∈ its, @Ne Nat p.1 q.1) (hk : SubL keep (Led c')) (hps : ∀ p ∈ ps c', m' p.1 = some p.2) (hr : ∀ z, (∀ p ∈ ps c', z ≠ p.1) → stored.contains z = false → m' z = m₀ z) (hp : P c' rest) :
    UnrEndW h₀ L s₁ its (KitI Led ps stored m₀ P keep rest) { s₁ with heap := h', toks := tk } :=
  ⟨h', tk, m', Led c', rfl, F, fun p hp => by
    rcases List.mem_append.mp hp with hp | hp
    · exact N p (hI p hp)
    · exact N p (hn p hp), off, c', fun _ hp => hp, hk, hps, hr, hp⟩
theorem items_invI {target : PySem.Expr} {σ : Type} {ws : List (Addr × String)} {keep : List (Addr × Obj)} {m₀ : Str → Option Value} (Led : σ → List (Addr × Obj)) (ps : σ → List (Str × Value)) (stored : List Str) (P : σ → List Itm → Prop)
    (step : ∀ c a rest v (u : Str → Option Value) h tk, P c (a :: rest) → a.Is v h → Fr h₀ env.locals h (kstB (fun z => if stored.contains z = true then u z else m₀ z) (ps c)) → AllObj ws (fun its => News h₀ env.locals h (its ++ Led c) →
      wpAny (model prog w) A (assign target env v) (fun _ s₂ => wpAny (model prog w) A (execs body env) (UnrPostW h₀ env.locals { s with heap := h, toks := tk } its (KitI Led ps stored m₀ P keep rest) Q) E s₂) E { s with heap := h, toks := tk }))
    (fin : ∀ c (u : Str → Option Value) h tk, P c [] → Fr h₀ env.locals h (kstB (fun z => if stored.contains z = true then u z else m₀ z) (ps c)) → News h₀ env.locals h (Led c) → Q .next { s with heap := h, toks := tk }) :
    ∀ (xs : List Itm) (c : σ) (u : Str → Option Value), P c xs → ItemsRest prog w A E h₀ env target body Q s ws keep xs (kstB (fun z => if stored.contains z = true then u z else m₀ z) (ps c)) (Led c)
  | [], c, u, hp => fun h' tk F N => fin c u h' tk hp F N
  | v :: r, c, u, hp => by
    intro x h' tk e F
    refine items_mono.go ws (fun its hh N => ?_) (step c v r x u h' tk hp e F)
    refine wpAny_mono (hh N) (fun _ s₂ h₂ => wpAny_mono h₂ (fun f s₃ hp => ?_) fun _ _ e => e) fun _ _ e => e
    have conv : ∀ s₄, UnrEndW h₀ env.locals { s with heap := h', toks := tk } its (KitI Led ps stored m₀ P keep r) s₄ → UnrEndW h₀ env.locals { s with heap := h', toks := tk } its (fun m' n' => SubL keep n' ∧ ItemsRest prog w A E h₀ env target body Q s ws keep r m' n') s₄ := by
      rintro s₄ ⟨h1, tk1, m1, n1, e1, F1, N1, o1, c1, hs, hk, hps, hr, hp1⟩
      refine ⟨h1, tk1, m1, n1, e1, F1, N1, o1, hk, ?_⟩
      have em : kstB (fun z => if stored.contains z = true then m1 z else m₀ z) (ps c1) = m1 := by
        funext y
        refine kstB_eq hps fun hn => ?_
        show (if stored.contains y = true then m1 y else m₀ y) = m1 y
        cases h3 : stored.contains y with
        | true => simp
        | false => simp only [Bool.false_eq_true, if_false]; exact (hr y hn h3).symm
      have := items_invI Led ps stored P step fin r c1 m1 hp1
      rw [em] at this
      exact items_mono hs this
    cases f with
    | ret v => exact hp
    | brk => exact hp
    | next => exact conv _ hp
    | cont => exact conv _ hp
theorem items_fromI {target : PySem.Expr} {σ : Type} {ws : List (Addr × String)} {keep : List (Addr × Obj)} {m₀ : Str → Option Value} {news : List (Addr × Obj)} {xs : List Itm} (Led : σ → List (Addr × Obj)) (ps : σ → List (Str × Value)) (stored : List Str) (P : σ → List Itm → Prop) (c₀ : σ)
    (hn : ∀ p ∈ Led c₀, p ∈ news) (hk : ∀ p ∈ ps c₀, m₀ p.1 = some p.2) (hp : P c₀ xs)
    (step : ∀ c a rest v (u : Str → Option Value) h tk, P c (a :: rest) → a.Is v h → Fr h₀ env.locals h (kstB (fun z => if stored.contains z = true then u z else m₀ z) (ps c)) → AllObj ws (fun its => News h₀ env.locals h (its ++ Led c) →
      wpAny (model prog w) A (assign target env v) (fun _ s₂ => wpAny (model prog w) A (execs body env) (UnrPostW h₀ env.locals { s with heap := h, toks := tk } its (KitI Led ps stored m₀ P keep rest) Q) E s₂) E { s with heap := h, toks := tk }))
    (fin : ∀ c (u : Str → Option Value) h tk, P c [] → Fr h₀ env.locals h (kstB (fun z => if stored.contains z = true then u z else m₀ z) (ps c)) → News h₀ env.locals h (Led c) → Q .next { s with heap := h, toks := tk }) :
    ItemsRest prog w A E h₀ env target body Q s ws keep xs m₀ news := by
  refine items_mono hn ?_
  have em : kstB (fun z => if stored.contains z = true then m₀ z else m₀ z) (ps c₀) = m₀ := by
    funext y
    refine kstB_eq hk fun _ => ?_
    show (if stored.contains y = true then m₀ y else m₀ y) = m₀ y
    cases stored.contains y <;> simp
  have := items_invI (E := E) (Q := Q) (s := s) (ws := ws) (keep := keep) Led ps stored P step fin xs c₀ m₀ hp
  rw [em] at this
  exact this
end
def lessF (w0 : List Nat) (k : Nat) : List Pt := ⟨w0.take k, 0⟩ :: (match w0[k]? with
  | some 98 => [⟨w0.take k, 1⟩]
  | some 99 => [⟨w0.take k, 2⟩]
  | _ => [])
def lessN (w0 : List Nat) (j : Nat) : List Pt := (List.range j).flatMap (lessF w0)
theorem lessN_succ (w0 : List Nat) (j : Nat) : lessN w0 (j + 1) = lessN w0 j ++ lessF w0 j := by
  unfold lessN
  rw [List.range_succ, List.flatMap_append]
  simp
theorem lessF_len (w0 : List Nat) (k : Nat) : (lessF w0 k).length ≤ 2 := by
  unfold lessF
  split <;> simp
theorem lessN_len (w0 : List Nat) : ∀ j, (lessN w0 j).length ≤ 2 * j
  | 0 => by simp [lessN]
  | j + 1 => by
    have := lessN_len w0 j
    have := lessF_len w0 j
    rw [lessN_succ, List.length_append]
    omega
theorem nm11 {h₀ h : Heap} {L : Addr} {l : Addr} {a : Array Value} {n : Nat} {x y : Addr × Obj} {rest : List (Addr × Obj)} (N : News h₀ L h (x :: y :: (l, W.listOf a n) :: rest)) {P : Prop} (k : ∀ a', a' = a → P) : P := k a rfl
theorem strs_arr {a : Array Value} {its : List Value} {v : Value} {ss : List Str} {x : Str} {t : Tok} (h : StrsAre its ss) (e : a = its.toArray.push v) (hv : v = .str x t) : StrsAre a.toList (ss ++ [x]) := by
  subst e hv
  exact strsAre_push (its := its.toArray) h
structure SS where
  its : List Value
  n : Nat
def SsP (w0 : List Nat) (c : SS) (xs : List Itm) : Prop := ∃ j, j ≤ w0.length ∧ xs = enumS j (w0.drop j) ∧ StrsAre c.its ((lessN w0 j).map Pt.pat)
theorem w_ascii {w0 : List Nat} (h : w0 ∈ W40) : strIterType (S w0) = "str_ascii_iterator" := by
  have h := all_words (q := fun w0 => decide (strIterType (S w0) = "str_ascii_iterator")) (by decide +kernel) h
  exact of_decide_eq_true h
theorem w_slice {w0 : List Nat} (h : w0 ∈ W40) {k : Nat} (hk : k < w0.length) : Txt.slice (S w0) none (some (k : Int)) = S (w0.take k) := by
  have h := all_words (q := fun w0 => (List.range w0.length).all fun k => decide (Txt.slice (S w0) none (some (k : Int)) = S (w0.take k))) (by decide +kernel) h
  exact of_decide_eq_true (List.all_eq_true.mp h k (List.mem_range.mpr hk))
theorem S_app (a b : List Nat) : S a ++ S b = S (a ++ b) := by
  show (⟨a.toArray ++ b.toArray⟩ : Str) = ⟨(a ++ b).toArray⟩
  rw [List.append_toArray]
theorem pat0 {w0 : List Nat} : S w0 = (⟨w0, 0⟩ : Pt).pat := by
  show S w0 = S (w0 ++ [])
  rw [List.append_nil]
theorem pat1 {w0 : List Nat} : S w0 ++ Str.ofString "[" ++ Str.ofString "a" ++ Str.ofString "]*" = (⟨w0, 1⟩ : Pt).pat := by
  have e1 : Str.ofString "[" = S [91] := by decide +kernel
  have e2 : Str.ofString "a" = S [97] := by decide +kernel
  have e3 : Str.ofString "]*" = S [93, 42] := by decide +kernel
  rw [e1, e2, e3, S_app, S_app, S_app, List.append_assoc, List.append_assoc]
  rfl
theorem pat2 {w0 : List Nat} : S w0 ++ Str.ofString "[" ++ Str.ofString "ab" ++ Str.ofString "]*" = (⟨w0, 2⟩ : Pt).pat := by
  have e1 : Str.ofString "[" = S [91] := by decide +kernel
  have e2 : Str.ofString "ab" = S [97, 98] := by decide +kernel
  have e3 : Str.ofString "]*" = S [93, 42] := by decide +kernel
  rw [e1, e2, e3, S_app, S_app, S_app, List.append_assoc, List.append_assoc]
  rfl
theorem nm10 {h₀ h : Heap} {L l : Addr} {its : Array Value} {n : Nat} {rest : List (Addr × Obj)} (N : News h₀ L h ((l, W.listOf its n) :: rest)) {P : Prop} (k : ∀ l', l' = l → P) : P := k l rfl
set_option maxRecDepth 100000 in
set_option maxHeartbeats 8000000 in
theorem less_ctr {w : World} {w0 : List Nat} (hw : w0 ∈ W40) {tk : Tok} (news : List (Addr × Obj)) :
   Ctr 3 w 134 [.str (S w0) tk] news (fun v' n' => ∃ l its n, v' = .ref l ∧ n' = (l, W.listOf its.toArray n) :: news ∧ StrsAre its ((lessN w0 w0.length).map Pt.pat) ∧ (∀ q ∈ news, @Ne Nat q.1 l)) := by
  unfold Ctr
  k_with_none
  k_fill
  intro p loose mean mg mb dp un gd cn cs a ccd cl outer A₀ base h₀ L m hp9 gs9 dr9 tk9 os9 Q E B F X N T hkf hd hu hret
  obtain ⟨hw1, hw2, hw3⟩ := w_facts hw
  refine wpAny_call ?_
  k_dflt cell_enter
  k_with "call type:enumerate" => (refine cut_in ?_)
  k_steps
  k_with_none
  unfold Cut
  rename Fr _ _ _ _ => F1
  rename News _ _ _ _ => N1
  refine nm10 N1 fun l e1 => ?_
  subst e1
  rename (∀ p : Addr × Obj, p ∈ news → p.1 < l) => hlt0
  with_unfolding_all refine ktu_enumS (w0 := w0) (by rfl) F1 N1 (w_ascii hw) ?_
  intro I lI
  k_lt lI
  refine items_fromI (fun c : SS => (l, W.listOf c.its.toArray c.n) :: news) (fun _ => []) [Str.ofString "k", Str.ofString "letter"] (SsP w0) ⟨[], 0⟩ (fun p hp => hp) (fun p hp => by cases hp) ?p0 ?step ?fin
  case p0 => exact ⟨0, Nat.zero_le _, rfl, .nil⟩
  case step =>
    rintro ⟨its, n⟩ a9 rest v u h tk' ⟨j, hj, hxs, hits⟩ hav F3
    refine AllObj.cons (fun oE hoE => AllObj.cons (fun oI hoI => AllObj.nil (fun N3 => ?_)))
    dsimp only at hits N3 F3
    dsimp only [kstB] at F3
    simp only [List.cons_append, List.nil_append] at N3
    refine post_gen2 fun P9 hP9 => ?_
    rcases Nat.lt_or_ge j w0.length with hlt | hge
    · obtain ⟨c, hc1, hc2, hc3⟩ := hw3 j hlt
      have hdrop : w0.drop j = c :: w0.drop (j + 1) := by
        rw [List.drop_eq_getElem_cons hlt]
        congr 1
        exact Option.some.inj ((List.getElem?_eq_getElem hlt).symm.trans hc1)
      rw [hdrop] at hxs
      simp only [enumS, List.cons.injEq] at hxs
      obtain ⟨rfl, rfl⟩ := hxs
      obtain ⟨T9, t9, x9, rfl, hx9, hT9⟩ := hav
      obtain ⟨u9, rfl⟩ := hx9.str_inv
      dsimp only at hT9
      have hil : its.length ≤ 6 := by
        have h1 := StrsAre.length hits
        have h2 := lessN_len w0 j
        rw [List.length_map] at h1
        omega
      have hsz : its.toArray.size ≤ sizeLine := by rw [List.size_toArray, sizeLine_eq]; omega
      have hsl := w_slice hw hlt
      rcases hc2 with rfl | rfl | rfl
      · have g1 : (S [97] != Str.ofString "a") = false := by decide +kernel
        k_steps
        rename Fr _ _ _ _ => F5
        rename News _ _ _ _ => N5
        refine nm11 N5 fun a9 e9 => ?_
        rw [← e9] at N5
        refine hP9 _ _ ?_
        dsimp only [UnrPostW]
        refine kit_endI ⟨a9.toList, _⟩ F5 N5 (fun p hp => ?_) (fun p hp => .tail _ (.tail _ (by rw [Array.toArray_toList] at hp; exact hp))) ?off trivial (fun p hp => by cases hp) (by ksw_same) ?hp
        case off =>
          intro p hp q hq
          rcases List.mem_cons.mp hq with rfl | hq
          · rcases List.mem_cons.mp hp with rfl | hp
            · k_ne
            · exact allLt_ne_le lI.2 _ (Nat.le_succ I) p hp
          rw [List.mem_singleton.mp hq]
          rcases List.mem_cons.mp hp with rfl | hp
          · k_ne
          · exact allLt_ne lI.2 p hp
        case hp =>
          refine ⟨j + 1, hlt, rfl, ?_⟩
          rw [lessN_succ, List.map_append]
          have e : lessF w0 j = [⟨w0.take j, 0⟩] := by unfold lessF; rw [hc1]; rfl
          rw [e]
          exact strs_arr hits e9 (by rw [hsl, pat0])
        · rcases List.mem_cons.mp hp with rfl | hp
          · exact .head _
          · rw [List.mem_singleton.mp hp]
            exact .tail _ (.head _)
      · have g1 : (S [98] != Str.ofString "a") = true := by decide +kernel
        have g2 : (Builtin.Str.occurrences (Str.ofString "abc") (S [98]) 0 (Str.ofString "abc").length 1).isEmpty = false := by decide +kernel
        k_with "exec If" => (refine cut_in ?_)
        k_steps
        k_with_none
        unfold Cut
        rename News _ _ _ _ => N6
        refine nm11 N6 fun a6 e6 => ?_
        rw [← e6] at N6
        have hsz2 : a6.size ≤ sizeLine := by rw [e6, Array.size_push, List.size_toArray, sizeLine_eq]; omega
        k_steps
        all_goals try exact absurd ‹_ = true› (by rw [g2]; exact Bool.false_ne_true)
        rename Fr _ _ _ _ => F5
        rename News _ _ _ _ => N5
        refine nm11 N5 fun a9 e9 => ?_
        rw [← e9] at N5
        refine hP9 _ _ ?_
        dsimp only [UnrPostW]
        refine kit_endI ⟨a9.toList, _⟩ F5 N5 (fun p hp => ?_) (fun p hp => .tail _ (.tail _ (by rw [Array.toArray_toList] at hp; exact hp))) ?off trivial (fun p hp => by cases hp) (by ksw_same) ?hp
        case off =>
          intro p hp q hq
          rcases List.mem_cons.mp hq with rfl | hq
          · rcases List.mem_cons.mp hp with rfl | hp
            · k_ne
            · exact allLt_ne_le lI.2 _ (Nat.le_succ I) p hp
          rw [List.mem_singleton.mp hq]
          rcases List.mem_cons.mp hp with rfl | hp
          · k_ne
          · exact allLt_ne lI.2 p hp
        case hp =>
          refine ⟨j + 1, hlt, rfl, ?_⟩
          rw [lessN_succ, List.map_append]
          have e : lessF w0 j = [⟨w0.take j, 0⟩, ⟨w0.take j, 1⟩] := by unfold lessF; rw [hc1]; rfl
          rw [e]
          have h6 := strs_arr hits e6 (x := (⟨w0.take j, 0⟩ : Pt).pat) (by rw [hsl, pat0])
          have h7 := strs_arr (x := (⟨w0.take j, 1⟩ : Pt).pat) h6 e9 (by rw [hsl, pat1])
          rw [List.append_assoc] at h7
          exact h7
        · rcases List.mem_cons.mp hp with rfl | hp
          · exact .head _
          · rw [List.mem_singleton.mp hp]
            exact .tail _ (.head _)
      · have g1 : (S [99] != Str.ofString "a") = true := by decide +kernel
        have g2 : (Builtin.Str.occurrences (Str.ofString "abc") (S [99]) 0 (Str.ofString "abc").length 1).isEmpty = false := by decide +kernel
        k_with "exec If" => (refine cut_in ?_)
        k_steps
        k_with_none
        unfold Cut
        rename News _ _ _ _ => N6
        refine nm11 N6 fun a6 e6 => ?_
        rw [← e6] at N6
        have hsz2 : a6.size ≤ sizeLine := by rw [e6, Array.size_push, List.size_toArray, sizeLine_eq]; omega
        k_steps
        all_goals try exact absurd ‹_ = true› (by rw [g2]; exact Bool.false_ne_true)
        rename Fr _ _ _ _ => F5
        rename News _ _ _ _ => N5
        refine nm11 N5 fun a9 e9 => ?_
        rw [← e9] at N5
        refine hP9 _ _ ?_
        dsimp only [UnrPostW]
        refine kit_endI ⟨a9.toList, _⟩ F5 N5 (fun p hp => ?_) (fun p hp => .tail _ (.tail _ (by rw [Array.toArray_toList] at hp; exact hp))) ?off trivial (fun p hp => by cases hp) (by ksw_same) ?hp
        case off =>
          intro p hp q hq
          rcases List.mem_cons.mp hq with rfl | hq
          · rcases List.mem_cons.mp hp with rfl | hp
            · k_ne
            · exact allLt_ne_le lI.2 _ (Nat.le_succ I) p hp
          rw [List.mem_singleton.mp hq]
          rcases List.mem_cons.mp hp with rfl | hp
          · k_ne
          · exact allLt_ne lI.2 p hp
        case hp =>
          refine ⟨j + 1, hlt, rfl, ?_⟩
          rw [lessN_succ, List.map_append]
          have e : lessF w0 j = [⟨w0.take j, 0⟩, ⟨w0.take j, 2⟩] := by unfold lessF; rw [hc1]; rfl
          rw [e]
          have h6 := strs_arr hits e6 (x := (⟨w0.take j, 0⟩ : Pt).pat) (by rw [hsl, pat0])
          have h7 := strs_arr (x := (⟨w0.take j, 2⟩ : Pt).pat) h6 e9 (by rw [hsl, pat2])
          rw [List.append_assoc] at h7
          exact h7
        · rcases List.mem_cons.mp hp with rfl | hp
          · exact .head _
          · rw [List.mem_singleton.mp hp]
            exact .tail _ (.head _)
    · have e : w0.drop j = [] := List.drop_eq_nil_of_le hge
      rw [e] at hxs
      cases hxs
  case fin =>
    rintro ⟨its, n⟩ u h tk' ⟨j, hj, hxs, hits⟩ F3 N3
    dsimp only at hits N3 F3
    dsimp only [kstB] at F3
    have hje : j = w0.length := by
      rcases Nat.lt_or_ge j w0.length with hlt | hge
      · rw [List.drop_eq_getElem_cons hlt] at hxs
        cases hxs
      · omega
    subst hje
    refine hQ9 _ _ ?_
    k_steps
    rename News _ _ _ _ => kN9
    exact hret _ _ _ _ ⟨l, its, n, rfl, rfl, hits, fun q hq => Nat.ne_of_lt (hlt0 q hq)⟩ (by assumption) kN9
end Mine
end
section
open PySem PySem.W PySem.Calls PyProof.Rows PySem.W.X
namespace Mine
local macro_rules | `(tactic| k_all) => `(tactic| first
  | assumption
  | exact allLt_ne (by assumption)
  | exact ltAll_ne (by assumption)
  | exact allLt_ne (And.right (by assumption))
  | exact allLt_ne (And.right (And.right (by assumption)))
  | exact allLt_ne (And.right (And.right (And.right (by assumption))))
  | exact allLt_ne (And.right (And.right (And.right (And.right (by assumption)))))
  | exact allLt_ne (And.right (And.right (And.right (And.right (And.right (by assumption))))))
  | exact And.right (by assumption)
  | exact And.right (And.right (by assumption))
  | exact And.right (And.right (And.right (by assumption)))
  | exact And.right (And.right (And.right (And.right (by assumption)))))
local macro_rules | `(tactic| walk_at "getAttr ref") => `(tactic| (k_here; (with_reducible show wpAny _ _ (getAttr (Value.ref _) (PySem.Str.ofString "append") _) _ _ _); k_dflt (refine' getAttr_append ?k1 ?k2 ?k3 ?k4 ?k5 ?_; (case k1 => ktr_room); (case k2 => ktr_units); (case k3 => k_asm); (case k4 => k_asm); (case k5 => k_mem); k_whole); intro q' h' F' N' o1; (simp only [List.forall_mem_cons] at o1); (repeat (obtain ⟨oh, o1⟩ := o1))))
local macro_rules | `(tactic| walk_at "callWith ref") => `(tactic| (k_here; (with_reducible show wpAny _ _ (callWith _ (Value.ref _) _ (backTo _ (starEach (_ :: _) _)) []) _ _ _); k_dflt (refine' callWith_bApp ?kfbN ?kfbM ?_; (case kfbN => k_asm); (case kfbM => k_mem); k_whole)))
local macro_rules | `(tactic| walk_at "And") => `(tactic| ((with_reducible show BAt _ _ _ ∧ _); k_dflt (refine ⟨bat_of (by k_asm) (by k_mem), ?_⟩); (try dsimp only [List.nil_append, List.cons_append])))
local macro_rules | `(tactic| walk_at "call ref") => `(tactic| (k_here; (with_reducible show wpAny _ _ (call (Value.ref _) [_]) _ _ _); k_dflt (refine' call_bApp ?k1 ?k2 ?k3 ?k4 ?_ ?z; (case k1 => k_asm); (case k2 => k_asm); (case k3 => k_mem); (case k4 => k_upd); (case z => size_fits); k_whole); intro h' F' N'))
local macro_rules | `(tactic| walk_at "call type:object") => `(tactic| (k_here; k_dflt (refine' call_object ?k1 ?k2 ?k3 ?k4 ?_; (case k1 => ktr_room); (case k2 => ktr_units); (case k3 => k_asm); (case k4 => k_asm); k_whole); intro q' h' F' N' o1; (simp only [List.forall_mem_cons] at o1); (repeat (obtain ⟨oh, o1⟩ := o1))))
local macro_rules | `(tactic| walk_at "execs cons") => `(tactic| (k_here; (with_reducible refine toks_gen ?_); intro k'))

local macro_rules | `(tactic| walk_at "getMethod ref") => `(tactic| (k_here; (with_reducible show wpAny _ _ (getMethod (Value.ref 63) (PySem.Str.ofString "sub") _) _ _ _); k_dflt (refine' gm_sub ?k1 ?k2 ?_; (case k1 => k_asm); (case k2 => k_asm); k_whole)))
local macro_rules | `(tactic| walk_at "ite") => `(tactic| (k_here; first | (refine ite_pos (by with_reducible assumption) ?_; walk_say "PRUNED (own)") | (refine ite_isFalse (by with_reducible assumption) ?_; walk_say "PRUNED (own)")))
local macro_rules | `(tactic| walk_at "eval Lambda") => `(tactic| (k_here; k_dflt (refine' lam_rule ?k1 ?k2 ?k3 ?k4 ?k5 ?k6 ?k7 ?k8 ?k9 ?_; (case k1 => k_asm); (case k2 => k_asm); (case k3 => k_asm); (case k4 => k_asm); (case k5 => k_ne); (case k6 => k_ne); (case k7 => assumption); (case k8 => exact rfl); (case k9 => exact rfl); k_whole); intro f' τ' d' h' tk' F' N' n1 n2 n3 n4; (try dsimp only at n1 n2)))

local macro_rules | `(tactic| walk_at "subscriptTail") => `(tactic| (k_here; (with_reducible show wpAny _ _ (subscriptTail _ _ (Value.ref _) (Value.int (-1) _)) _ _ _); k_dflt (refine' last_item ?k1 ?k2 ?_ ?k3; (case k1 => k_asm); (case k2 => k_mem); (case k3 => with_unfolding_all rfl); k_whole)))
local macro_rules | `(tactic| walk_at "compareOp IsNot") => `(tactic| (k_here; (with_reducible show wpAny _ _ (compareOp CmpOp.IsNot (Value.str _ _) (Value.ref _)) _ _ _); refine wpAny_isNot_other (by rfl) (by intro x; cases x) ?_))
local macro_rules | `(tactic| walk_at "compareOp Is") => `(tactic| (k_here; (with_reducible show wpAny _ _ (compareOp CmpOp.Is (Value.str _ _) (Value.ref _)) _ _ _); refine wpAny_is_other (by rfl) (by intro x; cases x) ?_))
local macro_rules | `(tactic| walk_at "compareOp IsNot ref ref") => `(tactic| (k_here; with_reducible refine wpAny_isNot_ref_self ?_))
local macro_rules | `(tactic| walk_at "compareOp Is ref ref") => `(tactic| (k_here; with_reducible refine wpAny_is_ref_self ?_))

local macro_rules | `(tactic| walk_at "subscriptTail") => `(tactic| (k_here; (with_reducible show wpAny _ _ (subscriptTail _ _ (Value.ref _) (Value.int ((_ : Nat) : Int) _)) _ _ _); k_dflt (refine' item_at ?k1 ?k2 ?k3 ?k4 ?_ ?k5; (case k1 => k_asm); (case k2 => k_mem); (case k3 => assumption); (case k4 => omega); (case k5 => with_unfolding_all rfl); k_whole)))
local macro_rules | `(tactic| walk_at "call builtin:str.join") => `(tactic| (k_here; k_dflt (refine' join_at ?k1 ?k2 ?k3 ?k4 ?k5 ?k6 ?_; (case k1 => k_asm); (case k2 => k_mem); (case k3 => first | assumption | exact strsAre_push (by assumption)); (case k4 => assumption); (case k5 => decide +kernel); (case k6 => assumption); k_whole); intro _ _))
local macro_rules | `(tactic| walk_at "WhlIf") => `(tactic| (first | (refine WhlIf.yes (by with_reducible assumption) ?_) | (refine WhlIf.no (by with_reducible assumption) ?_)))
local macro_rules | `(tactic| walk_at "call builtin:len") => `(tactic| (k_here; k_dflt (refine' len_at ?k1 ?k2 ?k3 ?k4 ?_; (case k1 => k_asm); (case k2 => k_mem); (case k3 => assumption); (case k4 => omega); k_whole)))
local macro_rules | `(tactic| cell_enter) => `(tactic| (refine' code_defC ?k1 ?k2 ?k3 ?k4 ?k5 ?kA ?kF ?kK ?k6 ?k7 ?k8 ?k9 ?kB ?kD ?_ ?c2 ?c3 ?c4; (case kA => exact rfl); (case kF => exact rfl); (case kK => assumption); (case k1 => k_asm); (case k2 => k_asm); (case k3 => k_asm); (case k4 => k_asm); (case k5 => k_asm); (case k6 => k_is); (case k7 => k_is); (case k8 => ktr_room); (case k9 => exact BindsTo.of_eq rfl); (case kB => exact rfl); (case kD => decide +kernel); (case c2 => exact rfl); (case c3 => exact rfl); (case c4 => exact rfl); k_whole; intro g' L' h' tk' cells' FG' F' N' Y' B' X' T' l1; (try k_lt l1); k_cells Y'; (try simp only [List.cons_append, List.nil_append] at N'); (try dsimp only); (try k_lift B'); (try k_fold)))

set_option hygiene false in
local macro_rules | `(tactic| walk_at "exec For Tuple Call cons nil") => `(tactic| (k_here; (rename Fr _ _ _ _ => lF'); refine post_gen fun Q9 hQ9 => ?_; (with_unfolding_all refine' For_turns lF' ?_; k_whole)))
local macro_rules | `(tactic| walk_at "call type:enumerate") => `(tactic| (k_here; (with_reducible show wpAny _ _ (call (Value.type _) [Value.ref _]) (fun xv s₁ => wpAny _ _ (pyIter xv) (fun it s₂ => TurnsAt _ _ _ _ _ _ _ _ _ it s₂) _ s₁) _ _); ((rename Fr _ _ _ _ => lF'); (rename News _ _ _ _ => lN'); (with_unfolding_all refine' ktu_enum (vs := [_]) (xs := [Itm.pair (fun t => Value.int (0 : Int) t) _]) (by rfl) lF' lN' ?e1 ?e2 ?e3 ?e4 ?_; (case e1 => k_mem); (case e2 => rfl); (case e3 => rfl); (case e4 => rfl); k_whole); clear lF' lN'; intro i' l1; (try k_lt l1))))
local macro_rules | `(tactic| walk_at "CompEnd") => `(tactic| (k_dflt (refine' LCg.CompEnd.intro ?cF ?cN _ (fun _ hp => hp) ?cO ?cS ?_; (case cF => k_asm); (case cN => k_asm); (case cO => assumption); (case cS => lcg_src); k_whole)))

set_option hygiene false in
local macro_rules | `(tactic| k_all) => `(tactic| exact hz9 _ (by omega))

local macro_rules | `(tactic| walk_at "call ref") => `(tactic| (k_here; (with_reducible show wpAny _ _ (call (Value.ref 115) [_, _, _]) _ _ _); k_dflt (refine' ctr_use (fits_ctr ?w1 ?w2 ?w3 _ ?w4) ?k1 ?k2 ?k3 ?k4 ?k5 ?kK ?kd ?ku ?_; (case w1 => assumption); (case k1 => k_asm); (case k2 => k_asm); (case k3 => k_asm); (case k4 => k_asm); (case w3 => refine DatIn.mono ?wm (by assumption); case wm => intro p hp; (repeat refine List.Mem.tail _ ?_); exact hp); (case w2 => assumption); (case w4 => omega); (case k5 => k_asm); (case kK => first | exact rfl | assumption); (case kd => ktr_room); (case ku => ktr_units); k_whole); (intro v9 n9 h' tk' hR9 F' N'); (obtain ⟨e1, e2⟩ := hR9); (subst e1); (subst e2); (try dsimp only); (try k_fold)))

local macro_rules | `(tactic| walk_at "call builtin:sorted") => `(tactic| (k_here; k_dflt (refine' sorted_at ?k1 ?k2 ?k3 ?k4 ?k5 ?k6 ?_; (case k1 => k_asm); (case k2 => k_asm); (case k3 => k_mem); (case k4 => assumption); (case k5 => assumption); (case k6 => omega); k_whole); intro D' h' vs' ss' e' F' N' l1 hS' hz' hn' hp' hs'; (try k_lt l1)))
local macro_rules | `(tactic| walk_at "subscriptTail") => `(tactic| (k_here; (with_reducible show wpAny _ _ (subscriptTail _ _ (Value.ref _) (Value.int _ _)) _ _ _); k_dflt (refine' item_strs ?k1 ?k2 ?k3 ?k4 ?k5 ?k6 ?_ ?k7; (case k1 => k_asm); (case k2 => k_mem); (case k3 => assumption); (case k4 => assumption); (case k5 => omega); (case k6 => omega); (case k7 => with_unfolding_all rfl); k_whole); intro t'))

section
variable {prog : Program} {w : World} {A : Around} {E : Value → Shared → Prop} {s : Shared} {h₀ : Heap} {L : Addr} {m : Str → Option Value}
theorem env_one {M : Model} {scope : Scope} {a b c x : Str} {globals : Addr} {cl : List (Str × Addr)} {qual : Str} {env0 : Env} {Q : Env → Shared → Prop} (hn : scope.names = [(a, .local), (x, .cell), (b, .globalImplicit), (c, .free)])
    (h : Q (newEnv scope s.heap.objs.size globals ((x, s.heap.objs.size + 1) :: cl) qual none .none (some env0) builtinsNs) { s with heap := (s.heap.push { cls := .type "dict", data := .dict #[] }).push { cls := .type "cell", data := .cell none } }) :
    wpAny M A (newFunctionEnv scope globals cl [] qual none .none (some env0)) Q E s := by
  unfold newFunctionEnv
  rw [hn]
  refine wpAny_bind (wpAny_alloc ?_)
  simp only [List.forIn_cons, List.forIn_nil, Option.isSome_some, if_true]
  refine wpAny_bind ?_
  refine wpAny_bind (wpAny_of_eq (a := ForInStep.yield cl) (by rfl) ?_)
  dsimp only
  refine wpAny_bind (wpAny_bind (wpAny_alloc ?_))
  refine wpAny_pure ?_
  dsimp only
  refine wpAny_bind (wpAny_of_eq (by rfl) ?_)
  dsimp only
  refine wpAny_bind (wpAny_of_eq (by rfl) ?_)
  refine wpAny_pure ?_
  refine wpAny_bind (wpAny_pure ?_)
  refine wpAny_pure ?_
  rw [Heap.size_push] 
  exact h
end
section
open PyProof.Rows.LCg
variable {prog : Program} {w : World} {A : Around} {E : Value → Shared → Prop} {s : Shared} {h₀ : Heap} {L : Addr} {m : Str → Option Value} {env : Env}
def Off4 (I C D W : Addr) (nw : List (Addr × Obj)) : Prop := ∀ p ∈ nw, @Ne Nat p.1 I ∧ @Ne Nat p.1 C ∧ @Ne Nat p.1 D ∧ @Ne Nat p.1 W
/-- a turn's end -/
def CellEnd (h₀ : Heap) (L : Addr) (m : Str → Option Value) (s : Shared) (I : Addr) (oI : Obj) (C : Addr) (oC : Obj) (D : Addr) (oD : Obj) (W : Addr) (oW : Obj) (J : Value → List (Addr × Obj) → Prop) (y : Value) (s₂ : Shared) : Prop :=
  ∃ h' tk' nw', s₂ = { s with heap := h', toks := tk' } ∧ Fr h₀ L h' m ∧ News h₀ L h' ((I, oI) :: (C, oC) :: (D, oD) :: (W, oW) :: nw') ∧ Off4 I C D W nw' ∧ J y nw'
theorem comp_cell {elt iter : PySem.Expr} {x a b c : Str} {px : Pos} {scope : Scope} {cl : List (Str × Addr)} {pos : Pos} {Q : Value → Shared → Prop} {ax : Addr} {vs : List Value} {k : Nat} {news : List (Addr × Obj)} (J : Nat → List Value → List (Addr × Obj) → Prop)
    (hn : scope.names = [(a, .local), (x, .cell), (b, .globalImplicit), (c, .free)]) (hkind : scope.kind = .function) (hclos : closureFor scope env = pure cl) (hax : x ≠ a)
    (hh : A.handled = none) (F : Fr h₀ L s.heap m) (N : News h₀ L s.heap news) (J0 : J 0 [] news) (hsz : vs.length ≤ 64)
    (hJ : ∀ i ys nw, J i ys nw → (ax, W.listOf vs.toArray k) ∈ nw)
    (heval : wpAny (model prog w) A (eval iter env) (fun xv s₁ => xv = .ref ax ∧ s₁ = s) E s)
    (step : ∀ i v ys nw I oI C oC D W oW h tk (E' : Value → Shared → Prop), vs[i]? = some v → J i ys nw → oW.data = .cell (some v) → Fr h₀ L h m → News h₀ L h ((I, oI) :: (C, oC) :: (D, lst ys) :: (W, oW) :: nw) → Off4 I C D W nw →
      ((@Ne Nat I C ∧ @Ne Nat I D ∧ @Ne Nat I W) ∧ (@Ne Nat C D ∧ @Ne Nat C W) ∧ @Ne Nat D W) →
      wpAny (model prog w) A (eval elt (compEnvC scope ((x, W) :: cl) C env)) (CellEnd h₀ L m { s with heap := h, toks := tk } I oI C oC D (lst ys) W oW (fun y nw' => J (i + 1) (ys ++ [y]) nw')) E' { s with heap := h, toks := tk })
    (fin : ∀ ys nw D h tk, J vs.length ys nw → Fr h₀ L h m → News h₀ L h ((D, lst ys) :: nw) → (∀ p ∈ nw, @Ne Nat p.1 D) → Q (.ref D) { s with heap := h, toks := tk })
    (hs : ∀ x, foldedSetIterable iter env x = pure x := by intro _; rfl) :
    wpAny (model prog w) A (eval (.ListComp elt [⟨.Name x px, iter, [], 0⟩] scope pos) env) Q E s := by
  have hnames : ∀ y ∈ scope.names, y.2 = .local → scope.names.lookup y.1 = some .local := by
    rw [hn]
    intro y hy hl
    simp only [List.mem_cons, List.not_mem_nil, or_false] at hy
    rcases hy with rfl | rfl | rfl | rfl
    · simp
    · cases hl
    · cases hl
    · cases hl
  have hxk : ∀ C cl', (compEnvC scope cl' C env).kindOf x = some .cell := by
    intro C cl'
    show List.lookup x (List.map _ scope.names) = _
    rw [hn]
    have e : (x == a) = false := beq_eq_false_iff_ne.mpr hax
    simp [List.lookup_cons, e]
  rw [eval_ListComp]
  refine wpAny_comprehension_free (use := none) rfl hs hclos hkind hnames (wpAny_mono heval (fun xv s₁ h₁ => ?_) fun _ _ e => e)
  obtain ⟨rfl, rfl⟩ := h₁
  have hm0 := N _ (hJ _ _ _ J0)
  have hl : s₁.heap.IsList ax vs.toArray := ⟨_, hm0.1, rfl, k, rfl⟩
  have hlt : ax < s₁.heap.objs.size := Heap.lt_size hm0.1
  refine wpAny_pyIter_list hl ?_
  refine wpAny_newObj_type (env_one hn ?_)
  dsimp only
  have hz1 : (s₁.heap.push { cls := .type "list_iterator", data := .fields #[.ref ax, .int 0 0] }).objs.size = s₁.heap.objs.size + 1 := Heap.size_push ..
  have hz2 : ((s₁.heap.push { cls := .type "list_iterator", data := .fields #[.ref ax, .int 0 0] }).push { cls := .type "list", dict := none, data := .seq ([] : List Value).toArray }).objs.size = s₁.heap.objs.size + 1 + 1 := by rw [Heap.size_push, hz1]
  have gI : (((s₁.heap.push { cls := .type "list_iterator", data := .fields #[.ref ax, .int 0 0] }).push { cls := .type "list", dict := none, data := .seq ([] : List Value).toArray }).push { cls := .type "dict", data := .dict #[] } |>.push { cls := .type "cell", data := .cell none }).get? s₁.heap.objs.size = some { cls := .type "list_iterator", data := .fields #[.ref ax, .int 0 0] } :=
    Heap.get?_push_of_some _ (Heap.get?_push_of_some _ (Heap.get?_push_of_some _ (Heap.get?_push_size _ rfl)))
  have gD : (((s₁.heap.push { cls := .type "list_iterator", data := .fields #[.ref ax, .int 0 0] }).push { cls := .type "list", dict := none, data := .seq ([] : List Value).toArray }).push { cls := .type "dict", data := .dict #[] } |>.push { cls := .type "cell", data := .cell none }).get? (s₁.heap.objs.size + 1) = some (lst []) := by
    rw [← hz1]
    exact Heap.get?_push_of_some _ (Heap.get?_push_of_some _ (Heap.get?_push_size _ rfl))
  have gC : (((s₁.heap.push { cls := .type "list_iterator", data := .fields #[.ref ax, .int 0 0] }).push { cls := .type "list", dict := none, data := .seq ([] : List Value).toArray }).push { cls := .type "dict", data := .dict #[] } |>.push { cls := .type "cell", data := .cell none }).Ns (s₁.heap.objs.size + 1 + 1) (fun _ => none) := by
    rw [← hz2]
    exact (Heap.Ns.new _ (.type "dict")).keeps fun b o e => Heap.get?_push_of_some _ e
  have gW : (((s₁.heap.push { cls := .type "list_iterator", data := .fields #[.ref ax, .int 0 0] }).push { cls := .type "list", dict := none, data := .seq ([] : List Value).toArray }).push { cls := .type "dict", data := .dict #[] } |>.push { cls := .type "cell", data := .cell none }).get? (s₁.heap.objs.size + 1 + 1 + 1) = some { cls := .type "cell", data := .cell none } := by
    have e : (((s₁.heap.push { cls := .type "list_iterator", data := .fields #[.ref ax, .int 0 0] }).push { cls := .type "list", dict := none, data := .seq ([] : List Value).toArray }).push { cls := .type "dict", data := .dict #[] }).objs.size = s₁.heap.objs.size + 1 + 1 + 1 := by rw [Heap.size_push, hz2]
    rw [← e]
    exact Heap.get?_push_size _ rfl
  have old : ∀ b o, s₁.heap.get? b = some o → (((s₁.heap.push { cls := .type "list_iterator", data := .fields #[.ref ax, .int 0 0] }).push { cls := .type "list", dict := none, data := .seq ([] : List Value).toArray }).push { cls := .type "dict", data := .dict #[] } |>.push { cls := .type "cell", data := .cell none }).get? b = some o :=
    fun b o e => Heap.get?_push_of_some _ (Heap.get?_push_of_some _ (Heap.get?_push_of_some _ (Heap.get?_push_of_some _ e)))
  rw [hz1, hz2]
  generalize (((s₁.heap.push { cls := .type "list_iterator", data := .fields #[.ref ax, .int 0 0] }).push { cls := .type "list", dict := none, data := .seq ([] : List Value).toArray }).push { cls := .type "dict", data := .dict #[] } |>.push { cls := .type "cell", data := .cell none }) = H4 at gI gD gC gW old ⊢
  have hLlt : L < s₁.heap.objs.size := F.ns.lt
  have fresh₀ : ∀ q : Addr, @LE.le Nat _ s₁.heap.objs.size q → h₀.get? q = none := fun q hq => by
    cases e : h₀.get? q with
    | none => rfl
    | some o' => exact absurd (Heap.lt_size (F.keep q o' e)) (Nat.not_lt.mpr hq)
  have hold : ∀ p ∈ news, @LT.lt Nat _ p.1 s₁.heap.objs.size := fun p hp => Heap.lt_size (N p hp).1
  generalize s₁.heap.objs.size = I at *
  have Wk := Walks.list (prog := prog) (w := w) hh I ax (Nat.ne_of_lt hlt) vs.toArray
  have st0 : H4.IsListIter I ax 0 ∧ H4.IsList ax vs.toArray := ⟨⟨_, gI, rfl, rfl⟩, _, old _ _ hm0.1, rfl, k, rfl⟩
  have F4 : Fr h₀ L H4 m := F.keeps old
  have N4 : News h₀ L H4 news := fun p hp => ⟨old _ _ (N p hp).1, (N p hp).2⟩
  show codeAny _ A (.compStart _ 0 (.ref I) (.ref (I + 1)) (compEnvC scope ((x, I + 1 + 1 + 1) :: cl) (I + 1 + 1) env)) (compPost _ A E none Q (.ref (I + 1)) (I + 1 + 1)) _
  have hIC : @Ne Nat I (I + 1 + 1) := by omega
  have hID : @Ne Nat I (I + 1) := by omega
  have hIW : @Ne Nat I (I + 1 + 1 + 1) := by omega
  have hCD : @Ne Nat (I + 1 + 1) (I + 1) := by omega
  have hCW : @Ne Nat (I + 1 + 1) (I + 1 + 1 + 1) := by omega
  have hDW : @Ne Nat (I + 1) (I + 1 + 1 + 1) := by omega
  have hLI : @Ne Nat L I := Nat.ne_of_lt hLlt
  have hLD : @Ne Nat L (I + 1) := Nat.ne_of_lt (Nat.lt_succ_of_lt hLlt)
  have hLC : @Ne Nat L (I + 1 + 1) := Nat.ne_of_lt (Nat.lt_succ_of_lt (Nat.lt_succ_of_lt hLlt))
  have hLW : @Ne Nat L (I + 1 + 1 + 1) := Nat.ne_of_lt (Nat.lt_succ_of_lt (Nat.lt_succ_of_lt (Nat.lt_succ_of_lt hLlt)))
  have zI : h₀.get? I = none := fresh₀ I (Nat.le_refl _)
  have zD : h₀.get? (I + 1) = none := fresh₀ _ (Nat.le_succ _)
  have zC : h₀.get? (I + 1 + 1) = none := fresh₀ _ (Nat.le_add_right I 2)
  have zW : h₀.get? (I + 1 + 1 + 1) = none := fresh₀ _ (Nat.le_add_right I 3)
  have off0 : Off4 I (I + 1 + 1) (I + 1) (I + 1 + 1 + 1) news := fun p hp => by
    have := hold p hp
    refine ⟨Nat.ne_of_lt this, ?_, ?_, ?_⟩ <;> omega
  generalize I + 1 + 1 + 1 = Wc at *
  generalize I + 1 + 1 = C at *
  generalize I + 1 = D at *
  have loop : ∀ s₃ : Shared, s₃ = { s₁ with heap := H4 } → codeAny (model prog w) A (.compLoop (.ListComp elt [⟨.Name x px, iter, [], 0⟩] scope pos) 0 (.ref I) (.ref D) (compEnvC scope ((x, Wc) :: cl) C env)) (compPost (model prog w) A E none Q (.ref D) C) s₃ := by
    rintro s₃ rfl
    refine codeAny_compLoop_tests
      (fun n s' => ∃ h' tk i ys nw oW mC, s' = { s₁ with heap := h', toks := tk } ∧ i ≤ vs.length ∧ n = vs.length + 1 - i ∧ ys.length = i ∧ (h'.IsListIter I ax i ∧ h'.IsList ax vs.toArray) ∧ Fr h₀ L h' m ∧ h'.Ns C mC ∧
        News h₀ L h' ((D, lst ys) :: (Wc, oW) :: nw) ∧ (∃ v, oW.data = .cell v) ∧ Off4 I C D Wc nw ∧ J i ys nw) ?_ (vs.length + 1)
      ⟨H4, s₁.toks, 0, [], news, { cls := .type "cell", data := .cell none }, _, rfl, Nat.zero_le _, rfl, rfl, st0, F4, gC, ?_, ⟨none, rfl⟩, off0, J0⟩
    · rintro n s' ⟨h', tk, i, ys, nw, oW, mC, rfl, hi, rfl, hyl, st, F', hn', N', ⟨cv, hcv⟩, off, hJi⟩
      have nD := N' (D, lst ys) (.head _)
      have nW := N' (Wc, oW) (.tail _ (.head _))
      by_cases hlt' : i < vs.length
      · refine Wk.item i _ _ _ (by rw [List.size_toArray]; exact hlt') st fun v h₂ tk₂ hPv st₂ hk₂ => ?_
        have hv : vs[i]? = some v := by simpa using hPv
        have k2 : ∀ q o, @Ne Nat q I → h'.get? q = some o → h₂.get? q = some o := fun q o hq e => hk₂ q o (by simpa using hq) e
        refine wpAny_assign_Name (wpAny_storeName_cell hkind (hxk _ _) (c := Wc) (v₀ := cv) (by simp [compEnvC, List.lookup_cons]) ⟨oW, k2 _ _ (Ne.symm hIW) nW.1, hcv⟩ fun h₃ hc₃ hs₃ => ?_)
        obtain ⟨oW', eW, dW⟩ := hc₃
        refine wpAny_tests_nil ?_
        simp only [if_true]
        have k3 : ∀ q o, @Ne Nat q Wc → h₂.get? q = some o → h₃.get? q = some o := fun q o hq e => hs₃.extBut q o hq e
        have F₃ : Fr h₀ L h₃ m := (fr_but F' hk₂ hLI zI).change hs₃ (Ne.symm hLW) zW
        have st₃ : h₃.IsListIter I ax (i + 1) ∧ h₃.IsList ax vs.toArray := ⟨st₂.1.at fun o e => k3 _ _ hIW e, st₂.2.at fun o e => k3 _ _ (by
          have q := off _ (hJ _ _ _ hJi)
          exact q.2.2.2) e⟩
        obtain ⟨oI, eI, rI⟩ := st₃.1
        obtain ⟨oC, eC, rC⟩ := ns_obj ((hn'.at' fun o e => k2 _ _ (Ne.symm hIC) e).at' fun o e => k3 _ _ hCW e)
        have N₃ : News h₀ L h₃ ((I, oI) :: (C, oC) :: (D, lst ys) :: (Wc, oW') :: nw) := fun p hp => by
          rcases List.mem_cons.mp hp with rfl | hp
          · exact ⟨eI, Ne.symm hLI, zI⟩
          rcases List.mem_cons.mp hp with rfl | hp
          · exact ⟨eC, Ne.symm hLC, zC⟩
          rcases List.mem_cons.mp hp with rfl | hp
          · exact ⟨k3 _ _ hDW (k2 _ _ (Ne.symm hID) nD.1), nD.2⟩
          rcases List.mem_cons.mp hp with rfl | hp
          · exact ⟨eW, nW.2⟩
          · have q := N' p (.tail _ (.tail _ hp))
            have o4 := off p hp
            exact ⟨k3 _ _ o4.2.2.2 (k2 _ _ o4.1 q.1), q.2⟩
        refine wpAny_mono (step i v ys nw I oI C oC D Wc oW' h₃ _ _ hv hJi dW F₃ N₃ off ⟨⟨hIC, hID, hIW⟩, ⟨hCD, hCW⟩, hDW⟩) (fun y s₄ h₄ => ?_) fun _ _ e => e
        obtain ⟨h₄, tk₄, nw₄, rfl, F₄, N₄, off₄, J₄⟩ := h₄
        have q4I := N₄ _ (.head _)
        have q4C := N₄ _ (.tail _ (.head _))
        have q4D := N₄ _ (.tail _ (.tail _ (.head _)))
        have q4W := N₄ _ (.tail _ (.tail _ (.tail _ (.head _))))
        refine append_at (hsz := by show ys.toArray.size ≤ sizeLine; rw [List.size_toArray, hyl, sizeLine_eq]; omega) q4D.1 fun h₅ hs₅ hD₅ => ?_
        have k5 : ∀ q o, @Ne Nat q D → h₄.get? q = some o → h₅.get? q = some o := fun q o hq e => hs₅.extBut q o hq e
        have hsrc := N₄ _ (.tail _ (.tail _ (.tail _ (.tail _ (hJ _ _ _ J₄)))))
        have osrc := off₄ _ (hJ _ _ _ J₄)
        refine ⟨vs.length + 1 - (i + 1), by omega, h₅, tk₄, i + 1, ys ++ [y], nw₄, oW', _, rfl, hlt', rfl, by rw [List.length_append, List.length_singleton, hyl], ⟨⟨oI, k5 _ _ hID q4I.1, rI⟩, ⟨_, k5 _ _ osrc.2.2.1 hsrc.1, rfl, k, rfl⟩⟩,
          F₄.change hs₅ (Ne.symm hLD) zD, rC.ns (k5 _ _ hCD q4C.1), fun p hp => ?_, ⟨_, dW⟩, off₄, J₄⟩
        rcases List.mem_cons.mp hp with rfl | hp
        · exact ⟨hD₅.trans (congrArg some (lst_snoc ys y)), Ne.symm hLD, zD⟩
        rcases List.mem_cons.mp hp with rfl | hp
        · exact ⟨k5 _ _ (Ne.symm hDW) q4W.1, q4W.2⟩
        · have q := N₄ p (.tail _ (.tail _ (.tail _ (.tail _ hp))))
          exact ⟨k5 _ _ (off₄ p hp).2.2.1 q.1, q.2⟩
      · obtain rfl : i = vs.length := Nat.le_antisymm hi (Nat.not_lt.mp hlt')
        refine Wk.done _ _ _ (by rw [List.size_toArray]; exact st) fun h₂ tk₂ hk₂ => ?_
        have k2 : ∀ q o, @Ne Nat q I → h'.get? q = some o → h₂.get? q = some o := fun q o hq e => hk₂ q o (by simpa using hq) e
        refine ⟨mC, hn'.at' fun o e => k2 _ _ (Ne.symm hIC) e, fun h'' hs'' => fin ys nw D h'' tk₂ hJi ((fr_but F' hk₂ hLI zI).change hs'' (Ne.symm hLC) zC) (fun p hp => ?_) (fun p hp => (off p hp).2.2.1)⟩
        rcases List.mem_cons.mp hp with rfl | hp
        · exact ⟨hs''.extBut _ _ (Ne.symm hCD) (k2 _ _ (Ne.symm hID) nD.1), nD.2⟩
        · have q := N' p (.tail _ (.tail _ hp))
          have o4 := off p hp
          exact ⟨hs''.extBut _ _ o4.2.1 (k2 _ _ o4.1 q.1), q.2⟩
    · intro p hp
      rcases List.mem_cons.mp hp with rfl | hp
      · exact ⟨gD, Ne.symm hLD, zD⟩
      rcases List.mem_cons.mp hp with rfl | hp
      · exact ⟨gW, Ne.symm hLW, zW⟩
      · exact N4 p hp
  exact codeAny_compStart_list (loop _ rfl) (Wk.self 0 _ _ _ st0 (loop _ rfl))
end
section
open PyProof.Rows.LCg PyProof.Rows.LCt
variable {prog : Program} {w : World} {A : Around} {s : Shared} {h₀ : Heap} {L : Addr} {m : Str → Option Value} {env : Env}
theorem compEnd_mono {I C D : Addr} {oI oC oD : Obj} {S : List (Addr × Obj) → Prop} {r1 r2 : Value → List (Addr × Obj) → Prop} {y : Value} {s₂ : Shared} (hr : ∀ y nw, r1 y nw → r2 y nw) (h : CompEnd h₀ L m s I oI C oC D oD S r1 y s₂) : CompEnd h₀ L m s I oI C oC D oD S r2 y s₂ := by
  obtain ⟨h', tk, nw, e, F, N, o, hS, r⟩ := h
  exact ⟨h', tk, nw, e, F, N, o, hS, hr _ _ r⟩
theorem comp_inv {elt : PySem.Expr} {x : Str} {scope : Scope} {cl : List (Str × Addr)} {S : List (Addr × Obj) → Prop} {P : Nat → Value → Prop} {Fin : List Value → List (Addr × Obj) → Prop} {n : Nat} (J : Nat → List Value → List (Addr × Obj) → Prop)
    (step : ∀ i v ys news I oI C oC D m₂ h tk (E' : Value → Shared → Prop), P i v → J i ys news → NsObj oC m₂ → m₂ x = some v → Fr h₀ L h m → News h₀ L h ((I, oI) :: (C, oC) :: (D, lst ys) :: news) → Off3 I C D news → ((@Ne Nat I C) ∧ (@Ne Nat I D) ∧ (@Ne Nat C D)) →
      wpAny (model prog w) A (eval elt (compEnvC scope cl C env)) (CompEnd h₀ L m { s with heap := h, toks := tk } I oI C oC D (lst ys) S (fun y news' => J (i + 1) (ys ++ [y]) news')) E' { s with heap := h, toks := tk })
    (fin : ∀ ys news, J n ys news → Fin ys news) : ∀ k i ys news, i + k = n → J i ys news → CompRest prog w A h₀ L m env elt x scope cl s S P Fin k i ys news
  | 0, i, ys, news, e, hJ => fin _ _ (by rw [Nat.add_zero] at e; exact e ▸ hJ)
  | k + 1, i, ys, news, e, hJ => fun v I oI C oC D m₂ h tk E' hP hC hx F N off ne => wpAny_mono (step i v ys news I oI C oC D m₂ h tk E' hP hJ hC hx F N off ne)
      (fun _ _ q => compEnd_mono (fun _ _ r => comp_inv J step fin k (i + 1) _ _ (by omega) r) q) fun _ _ e => e
theorem comp_invT {ct elt : PySem.Expr} {x : Str} {scope : Scope} {cl : List (Str × Addr)} {S : List (Addr × Obj) → Prop} {P : Nat → Value → Prop} {Fin : List Value → List (Addr × Obj) → Prop} {n : Nat} (J : Nat → List Value → List (Addr × Obj) → Prop)
    (step : ∀ i v ys news I oI C oC D m₂ h tk (E' : Value → Shared → Prop), P i v → J i ys news → NsObj oC m₂ → m₂ x = some v → Fr h₀ L h m → News h₀ L h ((I, oI) :: (C, oC) :: (D, lst ys) :: news) → Off3 I C D news → ((@Ne Nat I C) ∧ (@Ne Nat I D) ∧ (@Ne Nat C D)) →
      wpAny (model prog w) A (isTrue ct (compEnvC scope cl C env) (eval ct (compEnvC scope cl C env))) (fun b s' => if b = true then
        wpAny (model prog w) A (eval elt (compEnvC scope cl C env)) (CompEnd h₀ L m { s with heap := h, toks := tk } I oI C oC D (lst ys) S (fun y news' => J (i + 1) (ys ++ [y]) news')) E' s'
        else CompEnd h₀ L m { s with heap := h, toks := tk } I oI C oC D (lst ys) S (fun _ news' => J (i + 1) ys news') Value.none s') E' { s with heap := h, toks := tk })
    (fin : ∀ ys news, J n ys news → Fin ys news) : ∀ k i ys news, i + k = n → J i ys news → CompRestT prog w A h₀ L m env ct elt x scope cl s S P Fin k i ys news
  | 0, i, ys, news, e, hJ => fin _ _ (by rw [Nat.add_zero] at e; exact e ▸ hJ)
  | k + 1, i, ys, news, e, hJ => fun v I oI C oC D m₂ h tk E' hP hC hx F N off ne => wpAny_mono (step i v ys news I oI C oC D m₂ h tk E' hP hJ hC hx F N off ne)
      (fun b s' q => by
        by_cases hb : b = true
        · rw [if_pos hb] at q ⊢
          exact wpAny_mono q (fun _ _ q => compEnd_mono (fun _ _ r => comp_invT J step fin k (i + 1) _ _ (by omega) r) q) fun _ _ e => e
        · rw [if_neg hb] at q ⊢
          exact compEnd_mono (fun _ _ r => comp_invT J step fin k (i + 1) _ _ (by omega) r) q) fun _ _ e => e
end
def tokL (p : Pt) : Dat := .list (p.toks.map tokD)
theorem nm12 {h₀ h : Heap} {L : Nat} {o1 : Obj} {rest : List (Addr × Obj)} (N : News h₀ L h ((L + 1, o1) :: rest)) {P : Prop} (k : ∀ L' o1', L' = L → o1' = o1 → P) : P := k L o1 rfl rfl
theorem off1_mem {D : Addr} : ∀ {l : List (Addr × Obj)}, LCg.Off1 D l → ∀ p ∈ l, @Ne Nat p.1 D
  | [], _, _, h => nomatch h
  | _ :: _, x, p, h => by
    rcases List.mem_cons.mp h with rfl | h
    · exact x.1
    · exact off1_mem x.2 p h
theorem nm13 {h₀ h : Heap} {L a : Addr} {o1 : Obj} {rest : List (Addr × Obj)} (N : News h₀ L h ((a, o1) :: rest)) {P : Prop} (k : ∀ o1', o1' = o1 → P) : P := k o1 rfl
theorem ints_snoc {vs : List Value} {ns : List Int} (h : IntsAre vs ns) (x : Int) (t : Tok) : IntsAre (vs ++ [.int x t]) (ns ++ [x]) := by
  induction h with
  | nil => exact .cons _ _ .nil
  | cons i t _ ih => exact .cons _ _ ih
set_option maxRecDepth 100000 in
set_option maxHeartbeats 8000000 in
theorem counts_ctr {w : World} {pats : List Pt} (hps : ∀ p ∈ pats, p ∈ allP) {ws : List (List Nat)} (hws : ∀ w0 ∈ ws, w0 ∈ W40) {lp lw : Addr} {pvs wvs : List Value} (hP : StrsAre pvs (pats.map Pt.pat)) (hW : StrsAre wvs (ws.map S)) (hpl : pats.length ≤ 60) (hwl : ws.length ≤ 60) {np nw : Nat} (τ : Option Addr) (news : List (Addr × Obj))
   (h84 : ∀ q ∈ (lp, W.listOf pvs.toArray np) :: (lw, W.listOf wvs.toArray nw) :: news, q.1 ≠ 84) :
   Ctr 9 w 139 [.ref lp, .ref lw] ((84, tabObj (tabv τ)) :: (lp, W.listOf pvs.toArray np) :: (lw, W.listOf wvs.toArray nw) :: news) (fun v' n' => ∃ τ' l its n, v' = .ref l ∧ n' = (84, tabObj (tabv τ')) :: (l, W.listOf its.toArray n) :: (lp, W.listOf pvs.toArray np) :: (lw, W.listOf wvs.toArray nw) :: news ∧ IntsAre its (ws.map fun w0 => ((pats.countP fun p => takesF w0 p.toks (some 0) : Nat) : Int)) ∧ (∀ q ∈ (84, tabObj (tabv τ')) :: (lp, W.listOf pvs.toArray np) :: (lw, W.listOf wvs.toArray nw) :: news, @Ne Nat q.1 l)) := by
  unfold Ctr
  k_with_none
  k_fill
  intro p loose mean mg mb dp un gd cn cs a ccd cl outer A₀ base h₀ L m hp9 gs9 dr9 tk9 os9 Q E B F X N T hkf hd hu hret
  have hP9 : Cut (StrsAre pvs (pats.map Pt.pat)) := hP
  have hW9 : Cut (StrsAre wvs (ws.map S)) := hW
  clear hP hW
  refine wpAny_call ?_
  k_dflt cell_enter
  rename (_ ∧ _ ∧ _ ∧ AllLt _ news) => hz8
  have hz9 := allLt_ne_le hz8.2.2.2
  k_with "eval ListComp" => (refine cut_in ?_)
  k_steps
  k_with_none
  unfold Cut
  rename Fr _ _ _ _ => F1
  rename News _ _ _ _ => N1
  rename Below _ _ _ _ => B1
  rename Top _ _ _ _ _ _ => T1
  rename Frag.In _ _ => X1
  refine nm12 N1 fun L9 o1 e1 e2 => ?_
  subst e1 e2
  k_dflt (refine LCg.ListComp_U (F₀ := F1) (by with_unfolding_all rfl) (by decide) (by rfl) (by decide) (by rfl) ?_)
  k_steps
  have N2 : News _ _ _ ((84, tabObj (tabv τ)) :: (L9 + 1, o1) :: (lp, W.listOf pvs.toArray np) :: (lw, W.listOf wvs.toArray nw) :: news) := fun p hp => N1 p (by
    rcases List.mem_cons.mp hp with rfl | hp
    · exact .tail _ (.head _)
    rcases List.mem_cons.mp hp with rfl | hp
    · exact .head _
    · exact .tail _ (.tail _ hp))
  have hpn : pvs.length = pats.length := by rw [StrsAre.len_eq hP9, List.length_map]
  have hwn : wvs.length = ws.length := by rw [StrsAre.len_eq hW9, List.length_map]
  have hB84 : ∀ q ∈ (L9 + 1, o1) :: (lp, W.listOf pvs.toArray np) :: (lw, W.listOf wvs.toArray nw) :: news, @Ne Nat q.1 84 := by
    intro q hq
    rcases List.mem_cons.mp hq with rfl | hq
    · have := hz8.1
      show @Ne Nat (L9 + 1) 84
      omega
    · exact h84 q hq
  k_dflt (refine LCg.CompSrc.ledger (by rfl) F1 N2 (.tail _ (.tail _ (.head _))) (by rw [List.size_toArray, sizeLine_eq]; omega) ?_)
  intro g9
  refine comp_inv (n := pvs.toArray.size) (fun i ys nl => ∃ τ' add, nl = (84, tabObj (tabv τ')) :: (add ++ (L9 + 1, o1) :: (lp, W.listOf pvs.toArray np) :: (lw, W.listOf wvs.toArray nw) :: news) ∧ (∀ q ∈ add, @Ne Nat q.1 84 ∧ ∀ r ∈ (L9 + 1, o1) :: (lp, W.listOf pvs.toArray np) :: (lw, W.listOf wvs.toArray nw) :: news, @Ne Nat r.1 q.1) ∧ DatAll add ys ((pats.take i).map tokL)) ?step ?fin _ 0 [] _ (by simp) ⟨τ, [], rfl, (fun q hq => by cases hq), .nil⟩
  case step =>
    rintro i v ys nl I oI C oC D m₂ h tk' E' hPi ⟨τ', add, rfl, hadd, hys⟩ hC hx F3 N3 off ne
    have hPi : pvs[i]? = some v := by simpa using hPi
    obtain ⟨y9, t9, rfl, hy9⟩ := StrsAre.item hP9 i v hPi
    rw [List.getElem?_map, Option.map_eq_some_iff] at hy9
    obtain ⟨pp, hpi, rfl⟩ := hy9
    have hpp : pp ∈ allP := hps pp (List.mem_of_getElem? hpi)
    have o4 := off.mem
    k_with "call ref" => (refine cut_in ?_)
    k_steps
    unfold Cut
    have N4 : News _ _ _ ((84, tabObj (tabv τ')) :: ((I, oI) :: (C, oC) :: (D, LCg.lst ys) :: (add ++ (L9 + 1, o1) :: (lp, W.listOf pvs.toArray np) :: (lw, W.listOf wvs.toArray nw) :: news))) := fun p hp => N3 p (mm1 hp)
    refine ctr_use (translate_ctr hpp τ' _ ?h84) B1 F3 X1 N4 T1 rfl (by ktr_room) (by ktr_units) ?_
    case h84 =>
      intro q hq
      have o := o4 _ (.head _)
      rcases List.mem_cons.mp hq with rfl | hq
      · exact fun e => o.1 e.symm
      rcases List.mem_cons.mp hq with rfl | hq
      · exact fun e => o.2.1 e.symm
      rcases List.mem_cons.mp hq with rfl | hq
      · exact fun e => o.2.2 e.symm
      rcases List.mem_append.mp hq with hq | hq
      · exact (hadd q hq).1
      · exact hB84 q hq
    rintro v' news' h' tk' ⟨t', τ2, rfl, rfl⟩ F5 N5
    try dsimp only
    k_steps
    unfold Cut
    refine ctr_use (tokens_ctr hpp _) B1 F5 X1 N5 T1 rfl (by ktr_room) (by ktr_units) ?_
    rintro v' news' h' tk' ⟨ad, rfl, hdat, hfr⟩ F7 N7
    try dsimp only
    k_with_none
    k_steps
    have hoff : ∀ p ∈ (84, tabObj (tabv τ2)) :: ((ad ++ add) ++ (L9 + 1, o1) :: (lp, W.listOf pvs.toArray np) :: (lw, W.listOf wvs.toArray nw) :: news), p.1 ≠ I ∧ p.1 ≠ C ∧ p.1 ≠ D := by
      intro p hp
      rcases List.mem_cons.mp hp with rfl | hp
      · exact o4 (84, tabObj (tabv τ')) (.head _)
      rcases List.mem_append.mp hp with hp | hp
      · rcases List.mem_append.mp hp with hp | hp
        · exact ⟨(hfr p hp (I, oI) (.tail _ (.head _))).symm, (hfr p hp (C, oC) (.tail _ (.tail _ (.head _)))).symm, (hfr p hp (D, LCg.lst ys) (.tail _ (.tail _ (.tail _ (.head _))))).symm⟩
        · exact o4 p (.tail _ (List.mem_append.mpr (.inl hp)))
      · exact o4 p (.tail _ (List.mem_append.mpr (.inr hp)))
    refine LCg.CompEnd.intro F7 N7 ((84, tabObj (tabv τ2)) :: ((ad ++ add) ++ (L9 + 1, o1) :: (lp, W.listOf pvs.toArray np) :: (lw, W.listOf wvs.toArray nw) :: news)) ?sub (LCg.Off3.of hoff) (.inr ⟨_, .tail _ (List.mem_append.mpr (.inr (.tail _ (.head _)))), rfl, _, rfl⟩) ⟨τ2, ad ++ add, rfl, ?fr, ?dt⟩
    case sub => exact fun p hp => mm2 hp
    case fr =>
      intro q hq
      rcases List.mem_append.mp hq with hq | hq
      · exact ⟨(hfr q hq _ (.head _)).symm, fun r hr => hfr q hq r (.tail _ (.tail _ (.tail _ (.tail _ (List.mem_append.mpr (.inr hr))))))⟩
      · exact hadd q hq
    case dt =>
      rw [List.take_add_one, hpi, List.map_append]
      exact (hys.mono fun p hp => List.mem_append.mpr (.inr hp)).append (.one (hdat.mono fun p hp => List.mem_append.mpr (.inl hp)))
  case fin =>
    rintro ys nl ⟨τ', add, rfl, hadd, hys⟩
    rw [List.size_toArray, hpn, List.take_length] at hys
    intro D h tk' F3 N3 o3
    have N4 : News _ _ _ ((L9 + 1, o1) :: (D, LCg.lst ys) :: (84, tabObj (tabv τ')) :: (add ++ (lp, W.listOf pvs.toArray np) :: (lw, W.listOf wvs.toArray nw) :: news)) := fun p hp => N3 p (mm3 hp)
    have o3' := off1_mem o3
    have hneW : ∀ p ∈ (D, LCg.lst ys) :: (84, tabObj (tabv τ')) :: (add ++ (lp, W.listOf pvs.toArray np) :: (lw, W.listOf wvs.toArray nw) :: news), p.1 ≠ L9 + 1 := by
      intro p hp
      rcases List.mem_cons.mp hp with rfl | hp
      · exact fun e => o3' (L9 + 1, o1) (.tail _ (List.mem_append.mpr (.inr (.head _)))) e.symm
      rcases List.mem_cons.mp hp with rfl | hp
      · have := hz8.1
        show @Ne Nat 84 (L9 + 1)
        omega
      rcases List.mem_append.mp hp with hp | hp
      · exact ((hadd p hp).2 _ (.head _)).symm
      rcases List.mem_cons.mp hp with rfl | hp
      · have := hz8.2.1
        show @Ne Nat lp (L9 + 1)
        omega
      rcases List.mem_cons.mp hp with rfl | hp
      · have := hz8.2.2.1
        show @Ne Nat lw (L9 + 1)
        omega
      · exact hz9 _ (Nat.le_succ L9) p hp
    clear N3
    k_with "eval ListComp" => (refine cut_in ?_)
    k_steps
    unfold Cut
    rename Fr _ _ _ _ => F5
    rename News _ _ _ _ => N5
    refine nm13 N5 fun o5 e5 => ?_
    subst e5
    k_dflt (refine comp_cell (ax := lw) (vs := wvs) (k := nw) (cl := [(Str.ofString "tokens", L9 + 1)]) (fun i zs nl => nl = (L9 + 1, o5) :: (D, LCg.lst ys) :: (84, tabObj (tabv τ')) :: (add ++ (lp, W.listOf pvs.toArray np) :: (lw, W.listOf wvs.toArray nw) :: news) ∧ IntsAre zs ((ws.take i).map fun w0 => ((pats.countP fun p => takesF w0 p.toks (some 0) : Nat) : Int))) (by with_unfolding_all rfl) (by rfl) (by with_unfolding_all rfl) (by decide) (by rfl) F5 N5 ⟨rfl, .nil⟩ (by omega) ?hJ ?heval ?step2 ?fin2)
    case hJ =>
      rintro i zs nl ⟨rfl, _⟩
      exact .tail _ (.tail _ (.tail _ (List.mem_append.mpr (.inr (.tail _ (.head _))))))
    case heval =>
      k_with_none
      k_steps
    case step2 =>
      rintro i v zs nl I oI C oC D2 Wc oW h tk' E' hv ⟨rfl, hzs⟩ hoW F6 N6 off ne
      obtain ⟨y9, t9, rfl, hy9⟩ := StrsAre.item hW9 i v hv
      rw [List.getElem?_map, Option.map_eq_some_iff] at hy9
      obtain ⟨w0, hwi, rfl⟩ := hy9
      have hw0 : w0 ∈ W40 := hws w0 (List.mem_of_getElem? hwi)
      k_with "eval ListComp" => (refine cut_in ?_)
      k_steps
      k_with_none
      unfold Cut
      k_dflt (refine LCt.ListComp_T (F₀ := F6) (by with_unfolding_all rfl) (by decide) (by rfl) (by decide) (by rfl) ?_)
      k_steps
      have hyl : ys.length = pats.length := by rw [hys.length, List.length_map]
      k_dflt (refine LCt.CompSrcT.ledger (by rfl) F6 N6 (.tail _ (.tail _ (.tail _ (.tail _ (.tail _ (.head _)))))) (by rw [List.size_toArray, sizeLine_eq]; omega) ?_)
      intro g9
      refine comp_invT (n := ys.toArray.size) (fun j us nl2 => nl2 = (I, oI) :: (C, oC) :: (D2, LCg.lst zs) :: (Wc, oW) :: (L9 + 1, o5) :: (D, LCg.lst ys) :: (84, tabObj (tabv τ')) :: (add ++ (lp, W.listOf pvs.toArray np) :: (lw, W.listOf wvs.toArray nw) :: news) ∧ us.length = (pats.take j).countP fun p => takesF w0 p.toks (some 0)) ?stepT ?finT _ 0 [] _ (by simp) ⟨rfl, by simp⟩
      case stepT =>
        rintro j v us nl2 I2 oI2 C2 oC2 D3 m₃ h3 tk3 E3 hPj ⟨rfl, hus⟩ hC3 hx3 F7 N7 off3 ne3
        have hPj : ys[j]? = some v := by simpa using hPj
        have hjl : j < ys.length := (List.getElem?_eq_some_iff.mp hPj).1
        obtain ⟨v2, hv2, hdj⟩ := hys.get (k := j) (by rw [← hys.length]; exact hjl)
        rw [hPj] at hv2
        cases hv2
        rw [List.getElem_map] at hdj
        have hpj : pats[j]? = some (pats[j]'(by omega)) := List.getElem?_eq_getElem _
        generalize (pats[j]'(by omega)) = pp at hdj hpj
        have hpp : pp ∈ allP := hps pp (List.mem_of_getElem? hpj)
        have hcnt : (pats.take (j + 1)).countP (fun p => takesF w0 p.toks (some 0)) = us.length + (if takesF w0 pp.toks (some 0) = true then 1 else 0) := by
          rw [List.take_add_one, hpj, List.countP_append, hus]
          simp [List.countP_cons]
        obtain ⟨l2, vs2, n2, rfl, _, _⟩ := dat_list hdj
        k_with "call ref" => (refine cut_in ?_)
        k_steps
        k_with_none
        unfold Cut
        refine ctr_use (takes_ctr hw0 hpp (hdj.mono fun p hp => ?_)) B1 F7 X1 N7 T1 rfl (by ktr_room) (by ktr_units) ?_
        · repeat (first | exact List.mem_append.mpr (.inl hp) | refine List.Mem.tail _ ?_)
        rintro v' news' h' tk' ⟨rfl, rfl⟩ F8 N8
        try dsimp only
        cases ht : takesF w0 pp.toks (some 0) with
        | true =>
          rw [ht] at hcnt
          k_steps
          rw [hcnt]
          simp
        | false =>
          rw [ht] at hcnt
          k_steps
          rw [hcnt]
          simp
      case finT =>
        rintro us nl2 ⟨rfl, hus⟩
        rw [List.size_toArray, hyl, List.take_length] at hus
        intro D4 h4 tk4 F8 N8 o8
        have hus2 : us.toArray.size = pats.countP (fun p => takesF w0 p.toks (some 0)) := by rw [List.size_toArray]; exact hus
        have hcl : pats.countP (fun p => takesF w0 p.toks (some 0)) ≤ pats.length := List.countP_le_length
        k_steps
        rename Fr _ _ _ _ => F9
        rename News _ _ _ _ => N9
        refine ⟨_, _, _, rfl, F9, fun p hp => N9 p (.tail _ hp), off, rfl, ?_⟩
        rw [List.take_add_one, hwi, List.map_append]
        exact ints_snoc (by assumption) _ _
    case fin2 =>
      rintro zs nl D2 h tk' ⟨rfl, hzs⟩ F6 N6 o6
      rw [hwn, List.take_length] at hzs
      k_steps
      rename News _ _ _ _ => kN9
      refine hret _ _ _ _ ⟨τ', D2, zs, zs.length, rfl, rfl, by assumption, fun q hq => ?_⟩ (by assumption) (fun p hp => kN9 p ?_)
      · refine o6 q (.tail _ (.tail _ ?_))
        rcases List.mem_cons.mp hq with rfl | hq
        · exact .head _
        · exact .tail _ (List.mem_append.mpr (.inr hq))
      · rcases List.mem_cons.mp hp with rfl | hp
        · exact .tail _ (.tail _ (.tail _ (.head _)))
        rcases List.mem_cons.mp hp with rfl | hp
        · exact .head _
        · exact .tail _ (.tail _ (.tail _ (.tail _ (List.mem_append.mpr (.inr hp)))))
end Mine
end
section
open PySem PySem.W PySem.Calls PyProof.Rows PySem.W.X
namespace Mine
local macro_rules | `(tactic| k_all) => `(tactic| first
  | assumption
  | exact allLt_ne (by assumption)
  | exact ltAll_ne (by assumption)
  | exact allLt_ne (And.right (by assumption))
  | exact allLt_ne (And.right (And.right (by assumption)))
  | exact allLt_ne (And.right (And.right (And.right (by assumption))))
  | exact allLt_ne (And.right (And.right (And.right (And.right (by assumption)))))
  | exact allLt_ne (And.right (And.right (And.right (And.right (And.right (by assumption))))))
  | exact And.right (by assumption)
  | exact And.right (And.right (by assumption))
  | exact And.right (And.right (And.right (by assumption)))
  | exact And.right (And.right (And.right (And.right (by assumption)))))
local macro_rules | `(tactic| walk_at "getAttr ref") => `(tactic| (k_here; (with_reducible show wpAny _ _ (getAttr (Value.ref _) (PySem.Str.ofString "append") _) _ _ _); k_dflt (refine' getAttr_append ?k1 ?k2 ?k3 ?k4 ?k5 ?_; (case k1 => ktr_room); (case k2 => ktr_units); (case k3 => k_asm); (case k4 => k_asm); (case k5 => k_mem); k_whole); intro q' h' F' N' o1; (simp only [List.forall_mem_cons] at o1); (repeat (obtain ⟨oh, o1⟩ := o1))))
local macro_rules | `(tactic| walk_at "callWith ref") => `(tactic| (k_here; (with_reducible show wpAny _ _ (callWith _ (Value.ref _) _ (backTo _ (starEach (_ :: _) _)) []) _ _ _); k_dflt (refine' callWith_bApp ?kfbN ?kfbM ?_; (case kfbN => k_asm); (case kfbM => k_mem); k_whole)))
local macro_rules | `(tactic| walk_at "And") => `(tactic| ((with_reducible show BAt _ _ _ ∧ _); k_dflt (refine ⟨bat_of (by k_asm) (by k_mem), ?_⟩); (try dsimp only [List.nil_append, List.cons_append])))
local macro_rules | `(tactic| walk_at "call ref") => `(tactic| (k_here; (with_reducible show wpAny _ _ (call (Value.ref _) [_]) _ _ _); k_dflt (refine' call_bApp ?k1 ?k2 ?k3 ?k4 ?_ ?z; (case k1 => k_asm); (case k2 => k_asm); (case k3 => k_mem); (case k4 => k_upd); (case z => size_fits); k_whole); intro h' F' N'))
local macro_rules | `(tactic| walk_at "call type:object") => `(tactic| (k_here; k_dflt (refine' call_object ?k1 ?k2 ?k3 ?k4 ?_; (case k1 => ktr_room); (case k2 => ktr_units); (case k3 => k_asm); (case k4 => k_asm); k_whole); intro q' h' F' N' o1; (simp only [List.forall_mem_cons] at o1); (repeat (obtain ⟨oh, o1⟩ := o1))))
local macro_rules | `(tactic| walk_at "execs cons") => `(tactic| (k_here; (with_reducible refine toks_gen ?_); intro k'))

local macro_rules | `(tactic| walk_at "getMethod ref") => `(tactic| (k_here; (with_reducible show wpAny _ _ (getMethod (Value.ref 63) (PySem.Str.ofString "sub") _) _ _ _); k_dflt (refine' gm_sub ?k1 ?k2 ?_; (case k1 => k_asm); (case k2 => k_asm); k_whole)))
local macro_rules | `(tactic| walk_at "ite") => `(tactic| (k_here; first | (refine ite_pos (by with_reducible assumption) ?_; walk_say "PRUNED (own)") | (refine ite_isFalse (by with_reducible assumption) ?_; walk_say "PRUNED (own)")))
local macro_rules | `(tactic| walk_at "eval Lambda") => `(tactic| (k_here; k_dflt (refine' lam_rule ?k1 ?k2 ?k3 ?k4 ?k5 ?k6 ?k7 ?k8 ?k9 ?_; (case k1 => k_asm); (case k2 => k_asm); (case k3 => k_asm); (case k4 => k_asm); (case k5 => k_ne); (case k6 => k_ne); (case k7 => assumption); (case k8 => exact rfl); (case k9 => exact rfl); k_whole); intro f' τ' d' h' tk' F' N' n1 n2 n3 n4; (try dsimp only at n1 n2)))

local macro_rules | `(tactic| walk_at "subscriptTail") => `(tactic| (k_here; (with_reducible show wpAny _ _ (subscriptTail _ _ (Value.ref _) (Value.int (-1) _)) _ _ _); k_dflt (refine' last_item ?k1 ?k2 ?_ ?k3; (case k1 => k_asm); (case k2 => k_mem); (case k3 => with_unfolding_all rfl); k_whole)))
local macro_rules | `(tactic| walk_at "compareOp IsNot") => `(tactic| (k_here; (with_reducible show wpAny _ _ (compareOp CmpOp.IsNot (Value.str _ _) (Value.ref _)) _ _ _); refine wpAny_isNot_other (by rfl) (by intro x; cases x) ?_))
local macro_rules | `(tactic| walk_at "compareOp Is") => `(tactic| (k_here; (with_reducible show wpAny _ _ (compareOp CmpOp.Is (Value.str _ _) (Value.ref _)) _ _ _); refine wpAny_is_other (by rfl) (by intro x; cases x) ?_))
local macro_rules | `(tactic| walk_at "compareOp IsNot ref ref") => `(tactic| (k_here; with_reducible refine wpAny_isNot_ref_self ?_))
local macro_rules | `(tactic| walk_at "compareOp Is ref ref") => `(tactic| (k_here; with_reducible refine wpAny_is_ref_self ?_))

local macro_rules | `(tactic| walk_at "subscriptTail") => `(tactic| (k_here; (with_reducible show wpAny _ _ (subscriptTail _ _ (Value.ref _) (Value.int ((_ : Nat) : Int) _)) _ _ _); k_dflt (refine' item_at ?k1 ?k2 ?k3 ?k4 ?_ ?k5; (case k1 => k_asm); (case k2 => k_mem); (case k3 => assumption); (case k4 => omega); (case k5 => with_unfolding_all rfl); k_whole)))
local macro_rules | `(tactic| walk_at "call builtin:str.join") => `(tactic| (k_here; k_dflt (refine' join_at ?k1 ?k2 ?k3 ?k4 ?k5 ?k6 ?_; (case k1 => k_asm); (case k2 => k_mem); (case k3 => first | assumption | exact strsAre_push (by assumption)); (case k4 => assumption); (case k5 => decide +kernel); (case k6 => assumption); k_whole); intro _ _))
local macro_rules | `(tactic| walk_at "WhlIf") => `(tactic| (first | (refine WhlIf.yes (by with_reducible assumption) ?_) | (refine WhlIf.no (by with_reducible assumption) ?_)))
local macro_rules | `(tactic| walk_at "call builtin:len") => `(tactic| (k_here; k_dflt (refine' len_at ?k1 ?k2 ?k3 ?k4 ?_; (case k1 => k_asm); (case k2 => k_mem); (case k3 => assumption); (case k4 => omega); k_whole)))
local macro_rules | `(tactic| cell_enter) => `(tactic| (refine' code_defC ?k1 ?k2 ?k3 ?k4 ?k5 ?kA ?kF ?kK ?k6 ?k7 ?k8 ?k9 ?kB ?kD ?_ ?c2 ?c3 ?c4; (case kA => exact rfl); (case kF => exact rfl); (case kK => assumption); (case k1 => k_asm); (case k2 => k_asm); (case k3 => k_asm); (case k4 => k_asm); (case k5 => k_asm); (case k6 => k_is); (case k7 => k_is); (case k8 => ktr_room); (case k9 => exact BindsTo.of_eq rfl); (case kB => exact rfl); (case kD => decide +kernel); (case c2 => exact rfl); (case c3 => exact rfl); (case c4 => exact rfl); k_whole; intro g' L' h' tk' cells' FG' F' N' Y' B' X' T' l1; (try k_lt l1); k_cells Y'; (try simp only [List.cons_append, List.nil_append] at N'); (try dsimp only); (try k_lift B'); (try k_fold)))

set_option hygiene false in
local macro_rules | `(tactic| walk_at "exec For Tuple Call cons nil") => `(tactic| (k_here; (rename Fr _ _ _ _ => lF'); refine post_gen fun Q9 hQ9 => ?_; (with_unfolding_all refine' For_turns lF' ?_; k_whole)))
local macro_rules | `(tactic| walk_at "call type:enumerate") => `(tactic| (k_here; (with_reducible show wpAny _ _ (call (Value.type _) [Value.ref _]) (fun xv s₁ => wpAny _ _ (pyIter xv) (fun it s₂ => TurnsAt _ _ _ _ _ _ _ _ _ it s₂) _ s₁) _ _); ((rename Fr _ _ _ _ => lF'); (rename News _ _ _ _ => lN'); (with_unfolding_all refine' ktu_enum (vs := [_]) (xs := [Itm.pair (fun t => Value.int (0 : Int) t) _]) (by rfl) lF' lN' ?e1 ?e2 ?e3 ?e4 ?_; (case e1 => k_mem); (case e2 => rfl); (case e3 => rfl); (case e4 => rfl); k_whole); clear lF' lN'; intro i' l1; (try k_lt l1))))
local macro_rules | `(tactic| walk_at "CompEnd") => `(tactic| (k_dflt (refine' LCg.CompEnd.intro ?cF ?cN _ (fun _ hp => hp) ?cO ?cS ?_; (case cF => k_asm); (case cN => k_asm); (case cO => assumption); (case cS => lcg_src); k_whole)))

set_option hygiene false in
local macro_rules | `(tactic| k_all) => `(tactic| exact hz9 _ (by omega))

local macro_rules | `(tactic| walk_at "call ref") => `(tactic| (k_here; (with_reducible show wpAny _ _ (call (Value.ref 115) [_, _, _]) _ _ _); k_dflt (refine' ctr_use (fits_ctr ?w1 ?w2 ?w3 _ ?w4) ?k1 ?k2 ?k3 ?k4 ?k5 ?kK ?kd ?ku ?_; (case w1 => assumption); (case k1 => k_asm); (case k2 => k_asm); (case k3 => k_asm); (case k4 => k_asm); (case w3 => refine DatIn.mono ?wm (by assumption); case wm => intro p hp; (repeat refine List.Mem.tail _ ?_); exact hp); (case w2 => assumption); (case w4 => omega); (case k5 => k_asm); (case kK => first | exact rfl | assumption); (case kd => ktr_room); (case ku => ktr_units); k_whole); (intro v9 n9 h' tk' hR9 F' N'); (obtain ⟨e1, e2⟩ := hR9); (subst e1); (subst e2); (try dsimp only); (try k_fold)))

local macro_rules | `(tactic| walk_at "call builtin:sorted") => `(tactic| (k_here; k_dflt (refine' sorted_at ?k1 ?k2 ?k3 ?k4 ?k5 ?k6 ?_; (case k1 => k_asm); (case k2 => k_asm); (case k3 => k_mem); (case k4 => assumption); (case k5 => assumption); (case k6 => omega); k_whole); intro D' h' vs' ss' e' F' N' l1 hS' hz' hn' hp' hs'; (try k_lt l1)))
local macro_rules | `(tactic| walk_at "subscriptTail") => `(tactic| (k_here; (with_reducible show wpAny _ _ (subscriptTail _ _ (Value.ref _) (Value.int _ _)) _ _ _); k_dflt (refine' item_strs ?k1 ?k2 ?k3 ?k4 ?k5 ?k6 ?_ ?k7; (case k1 => k_asm); (case k2 => k_mem); (case k3 => assumption); (case k4 => assumption); (case k5 => omega); (case k6 => omega); (case k7 => with_unfolding_all rfl); k_whole); intro t'))

structure WS where
  wd : List Nat
  t : Tok
def WsP (c : WS) (rest : List Value) : Prop := (∀ v ∈ rest, ∃ f t, v = Value.int f t ∧ 0 ≤ f ∧ f < 4) ∧ c.wd ∈ W40 ∧ c.wd.length + rest.length ≤ 3
theorem w40_snoc {w0 : List Nat} (h : w0 ∈ W40) (hl : w0.length ≤ 2) {f : Int} (h0 : 0 < f) (h4 : f < 4) : S w0 ++ Txt.item (Str.ofString "abc") (f - 1) = S (w0 ++ [96 + f.toNat]) ∧ w0 ++ [96 + f.toNat] ∈ W40 := by
  have h := all_words (q := fun w0 => decide (w0.length ≤ 2 → ∀ k ∈ [1, 2, 3], S w0 ++ Txt.item (Str.ofString "abc") ((k : Int) - 1) = S (w0 ++ [96 + (k : Int).toNat]) ∧ w0 ++ [96 + (k : Int).toNat] ∈ W40)) (by decide +kernel) h
  refine of_decide_eq_true h hl f ?_
  have : f = 1 ∨ f = 2 ∨ f = 3 := by omega
  rcases this with rfl | rfl | rfl <;> simp
theorem nm14 {h₀ h : Heap} {L l : Addr} {o : Obj} {rest : List (Addr × Obj)} (N : News h₀ L h ((l, o) :: rest)) {P : Prop} (k : ∀ l' o', l' = l → o' = o → P) : P := k l o rfl rfl
theorem w_nil {v : Option Value} {t : Tok} (h : v = some (.str (Str.ofString "") t)) : v = some (.str (S []) t) := by
  have e : S [] = Str.ofString "" := by decide +kernel
  rw [e]; exact h
theorem w_empty : ([] : List Nat) ∈ W40 := by decide +kernel
theorem fmod4 (x : Int) : 0 ≤ x.fmod 4 ∧ x.fmod 4 < 4 := by
  rw [Int.fmod_eq_emod_of_nonneg _ (by omega)]
  omega
set_option maxRecDepth 100000 in
set_option maxHeartbeats 8000000 in
theorem word_ctr {w : World} {n : Int} {tk : Tok} (news : List (Addr × Obj)) :
   Ctr 2 w 127 [.int n tk] news (fun v n' => (∃ w0 t, w0 ∈ W40 ∧ v = .str (S w0) t) ∧ news = n') := by
  unfold Ctr
  k_with_none
  k_fill
  intro p loose mean mg mb dp un gd cn cs a ccd cl outer A₀ base h₀ L m hp9 gs9 dr9 tk9 os9 Q E B F X N T hkf hd hu hret
  refine wpAny_call ?_
  k_dflt cell_enter
  k_with "exec For Name List cons nil" => (refine cut_in ?_)
  k_steps
  k_with_none
  unfold Cut
  rename Fr _ _ _ _ => F1
  refine post_gen fun Q9 hQ9 => ?_
  with_unfolding_all refine' For_turns F1 ?_
  k_with "pyIter ref" => (refine cut_in ?_)
  k_steps
  k_with_none
  unfold Cut
  rename Fr _ _ _ _ => F2
  rename News _ _ _ _ => N2
  refine nm14 N2 fun l o9 e1 e2 => ?_
  subst e1
  rw [← e2] at N2
  with_unfolding_all refine iter_listTurns (lo := o9) (vs := [Value.int (n.fmod 4) _, Value.int ((n.fdiv 4).fmod 4) _, Value.int ((n.fdiv 16).fmod 4) _]) (by rfl) F2 N2 (by k_mem) (by rw [e2]) (by rw [e2]) ?_
  intro I lI
  k_lt lI
  refine items_from (fun c : WS => (l, o9) :: news) (fun c => [(Str.ofString "word", .str (S c.wd) c.t)]) [Str.ofString "figure"] WsP ⟨[], _⟩ (fun p hp => hp) (fun p hp => by rw [List.mem_singleton.mp hp]; exact w_nil rfl) ?p0 ?step ?fin
  case p0 =>
    refine ⟨fun v hv => ?_, w_empty, by simp⟩
    simp only [List.mem_cons, List.not_mem_nil, or_false] at hv
    rcases hv with rfl | rfl | rfl <;> exact ⟨_, _, rfl, fmod4 _⟩
  case step =>
    rintro ⟨wd, t⟩ v rest u h tk' ⟨hvs, hwd, hlen⟩ F3
    refine AllObj.cons (fun oI hoI => AllObj.nil (fun N3 => ?_))
    dsimp only at hvs hwd hlen N3 F3
    dsimp only [kstB] at F3
    simp only [List.cons_append, List.nil_append] at N3
    refine post_gen2 fun P9 hP9 => ?_
    obtain ⟨f, tf, rfl, hf0, hf4⟩ := hvs v (.head _)
    have hwl : wd.length ≤ 2 := by simp only [List.length_cons] at hlen; omega
    have hwl2 := (w_facts hwd).2.1
    by_cases hf : f = 0
    · have g1 : (f == 0) = true := beq_iff_eq.mpr hf
      k_steps
      refine hP9 _ _ ?_
      dsimp only [UnrPostW]
      refine hQ9 _ _ ?_
      k_steps
      rename News _ _ _ _ => kN9
      refine hret _ _ _ _ ⟨⟨wd, t, hwd, rfl⟩, rfl⟩ (by assumption) (fun p hp => kN9 p (.tail _ (.tail _ hp)))
    · have g1 : (f == 0) = false := beq_eq_false_iff_ne.mpr hf
      have hfp : 0 < f := by omega
      have hit : (Str.ofString "abc").length = 3 := by decide +kernel
      obtain ⟨q1, q2⟩ := w40_snoc hwd hwl hfp hf4
      k_steps
      rename Fr _ _ _ _ => F5
      rename News _ _ _ _ => N5
      rw [q1] at F5
      refine hP9 _ _ ?_
      dsimp only [UnrPostW]
      refine kit_end ⟨wd ++ [96 + f.toNat], _⟩ F5 N5 (fun p hp => by rw [List.mem_singleton.mp hp]; exact .head _) (fun p hp => .tail _ hp) ?off ?hk (fun p hp => by rw [List.mem_singleton.mp hp]; rfl) (by ksw_same) ?hp
      case off =>
        intro p hp q hq
        rw [List.mem_singleton.mp hq]
        rcases List.mem_cons.mp hp with rfl | hp
        · k_ne
        · exact allLt_ne lI.2 p hp
      case hk => exact ⟨.head _, trivial⟩
      case hp =>
        refine ⟨fun v hv => hvs v (.tail _ hv), q2, ?_⟩
        simp only [List.length_append, List.length_cons, List.length_nil] at hlen ⊢
        omega
  case fin =>
    rintro ⟨wd, t⟩ u h tk' ⟨hvs, hwd, hlen⟩ F3 N3
    dsimp only at hwd N3 F3
    dsimp only [kstB] at F3
    refine hQ9 _ _ ?_
    k_steps
    rename News _ _ _ _ => kN9
    refine hret _ _ _ _ ⟨⟨wd, t, hwd, rfl⟩, rfl⟩ (by assumption) (fun p hp => kN9 p (.tail _ hp))
/-! ## the plain law: counts and medians -/
theorem count_at : ∀ (ns : List Nat), ns.Pairwise (· ≤ ·) → ∀ (r i : Nat), i < ns.length → (ns.getD i 0 = r ↔ ns.countP (· < r) ≤ i ∧ i < ns.countP (· ≤ r))
  | [], _, _, _, h => absurd h (Nat.not_lt_zero _)
  | x :: t, hp, r, i, hi => by
    have hx := (List.pairwise_cons.mp hp).1
    have ht := (List.pairwise_cons.mp hp).2
    have c1 : ∀ q, (x :: t).countP (· < q) = t.countP (· < q) + (if x < q then 1 else 0) := fun q => by simp [List.countP_cons]
    have c2 : ∀ q, (x :: t).countP (· ≤ q) = t.countP (· ≤ q) + (if x ≤ q then 1 else 0) := fun q => by simp [List.countP_cons]
    have z1 : ¬ x < r → t.countP (· < r) = 0 := fun h => List.countP_eq_zero.mpr fun y hy => by
      have := hx y hy
      simp only [decide_eq_true_eq]; omega
    have z2 : ¬ x ≤ r → t.countP (· ≤ r) = 0 := fun h => List.countP_eq_zero.mpr fun y hy => by
      have := hx y hy
      simp only [decide_eq_true_eq]; omega
    rw [c1, c2]
    cases i with
    | zero =>
      simp only [List.getD_cons_zero]
      by_cases h1 : x < r
      · rw [if_pos h1]; omega
      · have := z1 h1
        rw [if_neg h1]
        by_cases h2 : x ≤ r
        · rw [if_pos h2]; omega
        · have := z2 h2
          rw [if_neg h2]; omega
    | succ i =>
      simp only [List.getD_cons_succ]
      have ih := count_at t ht r i (by simpa using hi)
      have hmem : t.getD i 0 ∈ t := by
        have : i < t.length := by simpa using hi
        rw [List.getD_eq_getElem?_getD, List.getElem?_eq_getElem this]
        exact List.getElem_mem _
      have hle := hx _ hmem
      by_cases h1 : x < r
      · rw [if_pos h1, if_pos (by omega), ih]; omega
      · have := z1 h1
        rw [if_neg h1]
        by_cases h2 : x ≤ r
        · rw [if_pos h2, ih]; omega
        · have := z2 h2
          rw [if_neg h2]; omega
/-- the words in the order of the dictionary -/
def rk (w : List Nat) : Nat := match w with
  | [] => 0
  | [a] => 1 + 13 * (a - 97)
  | [a, b] => 1 + 13 * (a - 97) + 1 + 4 * (b - 97)
  | a :: b :: c :: _ => 1 + 13 * (a - 97) + 1 + 4 * (b - 97) + 1 + (c - 97)
theorem rk_lt {a b : List Nat} (ha : a ∈ W40) (hb : b ∈ W40) : PySem.Spec.ltCps (S a).cps.toList (S b).cps.toList = decide (rk a < rk b) := by
  have h := all_words (q := fun a => W40.all fun b => decide (PySem.Spec.ltCps (S a).cps.toList (S b).cps.toList = decide (rk a < rk b))) (by decide +kernel) ha
  exact of_decide_eq_true (List.all_eq_true.mp h b hb)
theorem rk_eq {a b : List Nat} (ha : a ∈ W40) (hb : b ∈ W40) : (S a == S b) = decide (rk a = rk b) := by
  have h := all_words (q := fun a => W40.all fun b => decide ((S a == S b) = decide (rk a = rk b))) (by decide +kernel) ha
  exact of_decide_eq_true (List.all_eq_true.mp h b hb)
theorem less_count {a b : List Nat} (ha : a ∈ W40) (hb : b ∈ W40) : (lessN a a.length).countP (fun p => takesF b p.toks (some 0)) = if rk b < rk a then 1 else 0 := by
  have h := all_words (q := fun a => W40.all fun b => decide ((lessN a a.length).countP (fun p => takesF b p.toks (some 0)) = if rk b < rk a then 1 else 0)) (by decide +kernel) ha
  exact of_decide_eq_true (List.all_eq_true.mp h b hb)
theorem upto_count {a b : List Nat} (ha : a ∈ W40) (hb : b ∈ W40) : (lessN a a.length ++ [(⟨a, 0⟩ : Pt)]).countP (fun p => takesF b p.toks (some 0)) = if rk b ≤ rk a then 1 else 0 := by
  have h := all_words (q := fun a => W40.all fun b => decide ((lessN a a.length ++ [(⟨a, 0⟩ : Pt)]).countP (fun p => takesF b p.toks (some 0)) = if rk b ≤ rk a then 1 else 0)) (by decide +kernel) ha
  exact of_decide_eq_true (List.all_eq_true.mp h b hb)
theorem less_mem {a : List Nat} (ha : a ∈ W40) : ∀ p ∈ lessN a a.length ++ [(⟨a, 0⟩ : Pt)], p ∈ allP := by
  have h := all_words (q := fun a => (lessN a a.length ++ [(⟨a, 0⟩ : Pt)]).all fun p => decide (p ∈ allP)) (by decide +kernel) ha
  intro p hp
  exact of_decide_eq_true (List.all_eq_true.mp h p hp)
theorem rising_pairwise : ∀ (r : List (List Nat)) (p : List Nat), p ∈ W40 → (∀ x ∈ r, x ∈ W40) → risingS (S p) (r.map S) = true → ((p :: r).map rk).Pairwise (· ≤ ·)
  | [], _, _, _, _ => by simp
  | x :: r, p, hp, hr, h => by
    simp only [List.map_cons, risingS, Bool.and_eq_true, Bool.not_eq_true'] at h
    have hx := hr x (.head _)
    have h1 := h.1
    rw [rk_lt hx hp] at h1
    have h2 : rk p ≤ rk x := by have := of_decide_eq_false h1; omega
    have ih := rising_pairwise r x hx (fun y hy => hr y (.tail _ hy)) h.2
    rw [List.map_cons]
    refine List.pairwise_cons.mpr ⟨fun y hy => ?_, ih⟩
    rw [List.map_cons] at hy ih
    rcases List.mem_cons.mp hy with rfl | hy
    · exact h2
    · exact Nat.le_trans h2 ((List.pairwise_cons.mp ih).1 y hy)
theorem S_toList (x : Str) : S x.cps.toList = x := by
  show (⟨x.cps.toList.toArray⟩ : Str) = x
  rw [Array.toArray_toList]
theorem med_law {ws : List (List Nat)} (hws : ∀ w ∈ ws, w ∈ W40) {ss' : List Str} (hp : ss'.Perm (ws.map S)) (hs : sortedS ss' = true) {w0 : List Nat} (h0 : w0 ∈ W40) {i : Nat} (hi : i < ws.length) :
    (ss'.getD i Str.empty == S w0) = decide (ws.countP (fun w => decide (rk w < rk w0)) ≤ i ∧ i < ws.countP (fun w => decide (rk w ≤ rk w0))) := by
  obtain ⟨us, hus⟩ : ∃ us, us = ss'.map (fun x => x.cps.toList) := ⟨_, rfl⟩
  have e1 : ss' = us.map S := by
    rw [hus, List.map_map]
    have : (S ∘ fun x : Str => x.cps.toList) = id := by funext x; exact S_toList x
    rw [this, List.map_id]
  have e2 : us.Perm ws := by
    have := hp.map (fun x : Str => x.cps.toList)
    rw [← hus, List.map_map] at this
    have e : ((fun x : Str => x.cps.toList) ∘ S) = id := by funext x; rfl
    rw [e, List.map_id] at this
    exact this
  have hu : ∀ u ∈ us, u ∈ W40 := fun u h => hws u (e2.mem_iff.mp h)
  have hl : us.length = ws.length := e2.length_eq
  have hpw : (us.map rk).Pairwise (· ≤ ·) := by
    rw [e1] at hs
    cases hc : us with
    | nil => simp
    | cons p r =>
      rw [hc] at hs hu
      exact rising_pairwise r p (hu p (.head _)) (fun x hx => hu x (.tail _ hx)) hs
  have hiu : i < us.length := by omega
  have key := count_at (us.map rk) hpw (rk w0) i (by rw [List.length_map]; exact hiu)
  rw [List.countP_map, List.countP_map] at key
  have c1 : us.countP ((fun x => decide (x < rk w0)) ∘ rk) = ws.countP (fun w => decide (rk w < rk w0)) := e2.countP_eq _
  have c2 : us.countP ((fun x => decide (x ≤ rk w0)) ∘ rk) = ws.countP (fun w => decide (rk w ≤ rk w0)) := e2.countP_eq _
  rw [c1, c2] at key
  have g1 : ss'.getD i Str.empty = S us[i] := by
    rw [e1, List.getD_eq_getElem?_getD, List.getElem?_map, List.getElem?_eq_getElem hiu]
    rfl
  have g2 : (us.map rk).getD i 0 = rk us[i] := by
    rw [List.getD_eq_getElem?_getD, List.getElem?_map, List.getElem?_eq_getElem hiu]
    rfl
  rw [g1, rk_eq (hu _ (List.getElem_mem hiu)) h0]
  rw [g2] at key
  exact decide_eq_decide.mpr key
end Mine
end
section
open PySem PySem.W PySem.Calls PyProof.Rows PySem.W.X
namespace Mine
local macro_rules | `(tactic| k_all) => `(tactic| first
  | assumption
  | exact allLt_ne (by assumption)
  | exact ltAll_ne (by assumption)
  | exact allLt_ne (And.right (by assumption))
  | exact allLt_ne (And.right (And.right (by assumption)))
  | exact allLt_ne (And.right (And.right (And.right (by assumption))))
  | exact allLt_ne (And.right (And.right (And.right (And.right (by assumption)))))
  | exact allLt_ne (And.right (And.right (And.right (And.right (And.right (by assumption))))))
  | exact And.right (by assumption)
  | exact And.right (And.right (by assumption))
  | exact And.right (And.right (And.right (by assumption)))
  | exact And.right (And.right (And.right (And.right (by assumption)))))
local macro_rules | `(tactic| walk_at "getAttr ref") => `(tactic| (k_here; (with_reducible show wpAny _ _ (getAttr (Value.ref _) (PySem.Str.ofString "append") _) _ _ _); k_dflt (refine' getAttr_append ?k1 ?k2 ?k3 ?k4 ?k5 ?_; (case k1 => ktr_room); (case k2 => ktr_units); (case k3 => k_asm); (case k4 => k_asm); (case k5 => k_mem); k_whole); intro q' h' F' N' o1; (simp only [List.forall_mem_cons] at o1); (repeat (obtain ⟨oh, o1⟩ := o1))))
local macro_rules | `(tactic| walk_at "callWith ref") => `(tactic| (k_here; (with_reducible show wpAny _ _ (callWith _ (Value.ref _) _ (backTo _ (starEach (_ :: _) _)) []) _ _ _); k_dflt (refine' callWith_bApp ?kfbN ?kfbM ?_; (case kfbN => k_asm); (case kfbM => k_mem); k_whole)))
local macro_rules | `(tactic| walk_at "And") => `(tactic| ((with_reducible show BAt _ _ _ ∧ _); k_dflt (refine ⟨bat_of (by k_asm) (by k_mem), ?_⟩); (try dsimp only [List.nil_append, List.cons_append])))
local macro_rules | `(tactic| walk_at "call ref") => `(tactic| (k_here; (with_reducible show wpAny _ _ (call (Value.ref _) [_]) _ _ _); k_dflt (refine' call_bApp ?k1 ?k2 ?k3 ?k4 ?_ ?z; (case k1 => k_asm); (case k2 => k_asm); (case k3 => k_mem); (case k4 => k_upd); (case z => size_fits); k_whole); intro h' F' N'))
local macro_rules | `(tactic| walk_at "call type:object") => `(tactic| (k_here; k_dflt (refine' call_object ?k1 ?k2 ?k3 ?k4 ?_; (case k1 => ktr_room); (case k2 => ktr_units); (case k3 => k_asm); (case k4 => k_asm); k_whole); intro q' h' F' N' o1; (simp only [List.forall_mem_cons] at o1); (repeat (obtain ⟨oh, o1⟩ := o1))))
local macro_rules | `(tactic| walk_at "execs cons") => `(tactic| (k_here; (with_reducible refine toks_gen ?_); intro k'))

local macro_rules | `(tactic| walk_at "getMethod ref") => `(tactic| (k_here; (with_reducible show wpAny _ _ (getMethod (Value.ref 63) (PySem.Str.ofString "sub") _) _ _ _); k_dflt (refine' gm_sub ?k1 ?k2 ?_; (case k1 => k_asm); (case k2 => k_asm); k_whole)))
local macro_rules | `(tactic| walk_at "ite") => `(tactic| (k_here; first | (refine ite_pos (by with_reducible assumption) ?_; walk_say "PRUNED (own)") | (refine ite_isFalse (by with_reducible assumption) ?_; walk_say "PRUNED (own)")))
local macro_rules | `(tactic| walk_at "eval Lambda") => `(tactic| (k_here; k_dflt (refine' lam_rule ?k1 ?k2 ?k3 ?k4 ?k5 ?k6 ?k7 ?k8 ?k9 ?_; (case k1 => k_asm); (case k2 => k_asm); (case k3 => k_asm); (case k4 => k_asm); (case k5 => k_ne); (case k6 => k_ne); (case k7 => assumption); (case k8 => exact rfl); (case k9 => exact rfl); k_whole); intro f' τ' d' h' tk' F' N' n1 n2 n3 n4; (try dsimp only at n1 n2)))

local macro_rules | `(tactic| walk_at "subscriptTail") => `(tactic| (k_here; (with_reducible show wpAny _ _ (subscriptTail _ _ (Value.ref _) (Value.int (-1) _)) _ _ _); k_dflt (refine' last_item ?k1 ?k2 ?_ ?k3; (case k1 => k_asm); (case k2 => k_mem); (case k3 => with_unfolding_all rfl); k_whole)))
local macro_rules | `(tactic| walk_at "compareOp IsNot") => `(tactic| (k_here; (with_reducible show wpAny _ _ (compareOp CmpOp.IsNot (Value.str _ _) (Value.ref _)) _ _ _); refine wpAny_isNot_other (by rfl) (by intro x; cases x) ?_))
local macro_rules | `(tactic| walk_at "compareOp Is") => `(tactic| (k_here; (with_reducible show wpAny _ _ (compareOp CmpOp.Is (Value.str _ _) (Value.ref _)) _ _ _); refine wpAny_is_other (by rfl) (by intro x; cases x) ?_))
local macro_rules | `(tactic| walk_at "compareOp IsNot ref ref") => `(tactic| (k_here; with_reducible refine wpAny_isNot_ref_self ?_))
local macro_rules | `(tactic| walk_at "compareOp Is ref ref") => `(tactic| (k_here; with_reducible refine wpAny_is_ref_self ?_))

local macro_rules | `(tactic| walk_at "subscriptTail") => `(tactic| (k_here; (with_reducible show wpAny _ _ (subscriptTail _ _ (Value.ref _) (Value.int ((_ : Nat) : Int) _)) _ _ _); k_dflt (refine' item_at ?k1 ?k2 ?k3 ?k4 ?_ ?k5; (case k1 => k_asm); (case k2 => k_mem); (case k3 => assumption); (case k4 => omega); (case k5 => with_unfolding_all rfl); k_whole)))
local macro_rules | `(tactic| walk_at "call builtin:str.join") => `(tactic| (k_here; k_dflt (refine' join_at ?k1 ?k2 ?k3 ?k4 ?k5 ?k6 ?_; (case k1 => k_asm); (case k2 => k_mem); (case k3 => first | assumption | exact strsAre_push (by assumption)); (case k4 => assumption); (case k5 => decide +kernel); (case k6 => assumption); k_whole); intro _ _))
local macro_rules | `(tactic| walk_at "WhlIf") => `(tactic| (first | (refine WhlIf.yes (by with_reducible assumption) ?_) | (refine WhlIf.no (by with_reducible assumption) ?_)))
local macro_rules | `(tactic| walk_at "call builtin:len") => `(tactic| (k_here; k_dflt (refine' len_at ?k1 ?k2 ?k3 ?k4 ?_; (case k1 => k_asm); (case k2 => k_mem); (case k3 => assumption); (case k4 => omega); k_whole)))
local macro_rules | `(tactic| cell_enter) => `(tactic| (refine' code_defC ?k1 ?k2 ?k3 ?k4 ?k5 ?kA ?kF ?kK ?k6 ?k7 ?k8 ?k9 ?kB ?kD ?_ ?c2 ?c3 ?c4; (case kA => exact rfl); (case kF => exact rfl); (case kK => assumption); (case k1 => k_asm); (case k2 => k_asm); (case k3 => k_asm); (case k4 => k_asm); (case k5 => k_asm); (case k6 => k_is); (case k7 => k_is); (case k8 => ktr_room); (case k9 => exact BindsTo.of_eq rfl); (case kB => exact rfl); (case kD => decide +kernel); (case c2 => exact rfl); (case c3 => exact rfl); (case c4 => exact rfl); k_whole; intro g' L' h' tk' cells' FG' F' N' Y' B' X' T' l1; (try k_lt l1); k_cells Y'; (try simp only [List.cons_append, List.nil_append] at N'); (try dsimp only); (try k_lift B'); (try k_fold)))

set_option hygiene false in
local macro_rules | `(tactic| walk_at "exec For Tuple Call cons nil") => `(tactic| (k_here; (rename Fr _ _ _ _ => lF'); refine post_gen fun Q9 hQ9 => ?_; (with_unfolding_all refine' For_turns lF' ?_; k_whole)))
local macro_rules | `(tactic| walk_at "call type:enumerate") => `(tactic| (k_here; (with_reducible show wpAny _ _ (call (Value.type _) [Value.ref _]) (fun xv s₁ => wpAny _ _ (pyIter xv) (fun it s₂ => TurnsAt _ _ _ _ _ _ _ _ _ it s₂) _ s₁) _ _); ((rename Fr _ _ _ _ => lF'); (rename News _ _ _ _ => lN'); (with_unfolding_all refine' ktu_enum (vs := [_]) (xs := [Itm.pair (fun t => Value.int (0 : Int) t) _]) (by rfl) lF' lN' ?e1 ?e2 ?e3 ?e4 ?_; (case e1 => k_mem); (case e2 => rfl); (case e3 => rfl); (case e4 => rfl); k_whole); clear lF' lN'; intro i' l1; (try k_lt l1))))
local macro_rules | `(tactic| walk_at "CompEnd") => `(tactic| (k_dflt (refine' LCg.CompEnd.intro ?cF ?cN _ (fun _ hp => hp) ?cO ?cS ?_; (case cF => k_asm); (case cN => k_asm); (case cO => assumption); (case cS => lcg_src); k_whole)))

set_option hygiene false in
local macro_rules | `(tactic| k_all) => `(tactic| exact hz9 _ (by omega))

local macro_rules | `(tactic| walk_at "call ref") => `(tactic| (k_here; (with_reducible show wpAny _ _ (call (Value.ref 115) [_, _, _]) _ _ _); k_dflt (refine' ctr_use (fits_ctr ?w1 ?w2 ?w3 _ ?w4) ?k1 ?k2 ?k3 ?k4 ?k5 ?kK ?kd ?ku ?_; (case w1 => assumption); (case k1 => k_asm); (case k2 => k_asm); (case k3 => k_asm); (case k4 => k_asm); (case w3 => refine DatIn.mono ?wm (by assumption); case wm => intro p hp; (repeat refine List.Mem.tail _ ?_); exact hp); (case w2 => assumption); (case w4 => omega); (case k5 => k_asm); (case kK => first | exact rfl | assumption); (case kd => ktr_room); (case ku => ktr_units); k_whole); (intro v9 n9 h' tk' hR9 F' N'); (obtain ⟨e1, e2⟩ := hR9); (subst e1); (subst e2); (try dsimp only); (try k_fold)))

local macro_rules | `(tactic| walk_at "call builtin:sorted") => `(tactic| (k_here; k_dflt (refine' sorted_at ?k1 ?k2 ?k3 ?k4 ?k5 ?k6 ?_; (case k1 => k_asm); (case k2 => k_asm); (case k3 => k_mem); (case k4 => assumption); (case k5 => assumption); (case k6 => omega); k_whole); intro D' h' vs' ss' e' F' N' l1 hS' hz' hn' hp' hs'; (try k_lt l1)))
local macro_rules | `(tactic| walk_at "subscriptTail") => `(tactic| (k_here; (with_reducible show wpAny _ _ (subscriptTail _ _ (Value.ref _) (Value.int _ _)) _ _ _); k_dflt (refine' item_strs ?k1 ?k2 ?k3 ?k4 ?k5 ?k6 ?_ ?k7; (case k1 => k_asm); (case k2 => k_mem); (case k3 => assumption); (case k4 => assumption); (case k5 => omega); (case k6 => omega); (case k7 => with_unfolding_all rfl); k_whole); intro t'))

local macro_rules | `(tactic| walk_at "call ref") => `(tactic| (k_here; (with_reducible show wpAny _ _ (call (Value.ref 127) [_]) _ _ _); k_dflt (refine' ctr_use (word_ctr _) ?k1 ?k2 ?k3 ?k4 ?k5 ?kK ?kd ?ku ?_; (case k1 => k_asm); (case k2 => k_asm); (case k3 => k_asm); (case k4 => k_asm); (case k5 => k_asm); (case kK => first | exact rfl | assumption); (case kd => first | ktr_room | decide); (case ku => first | ktr_units | decide); k_whole); (intro v9 n9 h' tk' hR9 F' N'); (obtain ⟨⟨w9, t9, hw9, e1⟩, e2⟩ := hR9); (subst e1); (subst e2); (try dsimp only); (try k_fold)))

local macro_rules | `(tactic| walk_at "call ref") => `(tactic| (k_here; (with_reducible show wpAny _ _ (call (Value.ref 51) [_]) _ _ _); refine cut_in ?_))
local macro_rules | `(tactic| walk_at "call ref") => `(tactic| (k_here; (with_reducible show wpAny _ _ (call (Value.ref 58) [_]) _ _ _); refine cut_in ?_))
local macro_rules | `(tactic| walk_at "call ref") => `(tactic| (k_here; (with_reducible show wpAny _ _ (call (Value.ref 134) [_]) _ _ _); refine cut_in ?_))
local macro_rules | `(tactic| walk_at "call ref") => `(tactic| (k_here; (with_reducible show wpAny _ _ (call (Value.ref 139) [_, _]) _ _ _); refine cut_in ?_))
local macro_rules | `(tactic| walk_at "exec For Name Name cons nil") => `(tactic| (k_here; refine cut_in ?_))
set_option hygiene false in
local macro_rules | `(tactic| walk_at "compareOp Lt int int") => `(tactic| (k_here; (have hcut6 : True := hcut7); refine cut_in ?_))

theorem add_at {prog : Program} {w : World} {A : Around} {E : Value → Shared → Prop} {s : Shared} {h₀ : Heap} {L l b : Addr} {m : Str → Option Value} {news : List (Addr × Obj)} {vs ws : List Value} {n n2 : Nat} {Q : Value → Shared → Prop} (F : Fr h₀ L s.heap m) (N : News h₀ L s.heap news) (hl : (l, W.listOf vs.toArray n) ∈ news) (hb : (b, W.listOf ws.toArray n2) ∈ news) (hsz : vs.length + ws.length ≤ sizeLine)
    (h : ∀ D h', Fr h₀ L h' m → News h₀ L h' ((D, W.listOf (vs ++ ws).toArray 0) :: news) → (∀ p ∈ news, p.1 < D) → Q (.ref D) { s with heap := h' }) :
    wpAny (model prog w) A (binaryOp .Add (.ref l) (.ref b)) Q E s :=
  add_lists F N (PySem.IsL.isList (n := n) (N _ hl).1) (PySem.IsL.isList (n := n2) (N _ hb).1) (fun h' F' N' => h _ h' F' N' (fun p hp => Heap.lt_size (N p hp).1)) hsz
local macro_rules | `(tactic| walk_at "binaryOp Add ref ref") => `(tactic| (k_here; k_dflt (refine' add_at ?k1 ?k2 ?k3 ?k4 ?k5 ?_; (case k1 => k_asm); (case k2 => k_asm); (case k3 => k_mem); (case k4 => k_mem); (case k5 => (simp only [List.length_cons, List.length_nil, sizeLine_eq]; omega)); k_whole); intro D' h' F' N' l1; (try k_lt l1)))
theorem sum_at {prog : Program} {w : World} {A : Around} {E : Value → Shared → Prop} {s : Shared} {h₀ : Heap} {L l : Addr} {m : Str → Option Value} {news : List (Addr × Obj)} {vs : List Value} {ns : List Int} {n : Nat} {c : Int} {Q : Value → Shared → Prop} (hh : A.handled = none) (F : Fr h₀ L s.heap m) (N : News h₀ L s.heap news) (hm : (l, W.listOf vs.toArray n) ∈ news) (hi : Cut (IntsAre vs ns)) (hc : Cut (ns.sum = c))
    (h : ∀ h' tk t', Fr h₀ L h' m → News h₀ L h' news → Q (.int c t') { s with heap := h', toks := tk }) :
    wpAny (model prog w) A (call (.builtin "sum") [.ref l]) Q E s := by
  have e : ns.sum = c := hc
  subst e
  exact sumK hh F N (PySem.IsL.isList (n := n) (N _ hm).1) hi h
theorem max_at {prog : Program} {w : World} {A : Around} {E : Value → Shared → Prop} {s : Shared} {h₀ : Heap} {L l : Addr} {m : Str → Option Value} {news : List (Addr × Obj)} {vs : List Value} {ns : List Int} {n : Nat} {Q : Value → Shared → Prop} (hh : A.handled = none) (F : Fr h₀ L s.heap m) (N : News h₀ L s.heap news) (hm : (l, W.listOf vs.toArray n) ∈ news) (hi : Cut (IntsAre vs ns)) (hne : Cut (0 < ns.length)) (hx : Cut (∀ a ∈ ns, a ≤ 1))
    (h : ∀ M h' tk t', M ≤ 1 → Fr h₀ L h' m → News h₀ L h' news → Q (.int M t') { s with heap := h', toks := tk }) :
    wpAny (model prog w) A (call (.builtin "max") [.ref l]) Q E s :=
  max_list_N hh F N (PySem.IsL.isList (n := n) (N _ hm).1) hi hne fun h' M t tk F' N' hM _ => h M h' tk t (hx M hM) F' N'
local macro_rules | `(tactic| walk_at "call builtin:sum") => `(tactic| (k_here; (with_reducible show wpAny _ _ (call (Value.builtin "sum") [Value.ref _]) _ _ _); k_dflt (refine' sum_at ?k0 ?k1 ?k2 ?k3 ?k4 ?k5 ?_; (case k0 => with_unfolding_all rfl); (case k1 => k_asm); (case k2 => k_asm); (case k3 => k_mem); (case k4 => assumption); (case k5 => assumption); k_whole); intro h' tk' t' F' N'))
local macro_rules | `(tactic| walk_at "call builtin:max") => `(tactic| (k_here; (with_reducible show wpAny _ _ (call (Value.builtin "max") [Value.ref _]) _ _ _); k_dflt (refine' max_at ?k0 ?k1 ?k2 ?k3 ?k4 ?k5 ?k6 ?_; (case k0 => with_unfolding_all rfl); (case k1 => k_asm); (case k2 => k_asm); (case k3 => k_mem); (case k4 => assumption); (case k5 => assumption); (case k6 => assumption); k_whole); intro M' h' tk' t' hM' F' N'))
/-- the counts of one word, as the walk meets them -/
theorem less_ints {ws : List (List Nat)} (hws : ∀ w ∈ ws, w ∈ W40) {a : List Nat} (ha : a ∈ W40) : (ws.map fun b => (((lessN a a.length).countP fun p => takesF b p.toks (some 0) : Nat) : Int)).sum = ((ws.countP fun b => decide (rk b < rk a) : Nat) : Int) := by
  induction ws with
  | nil => rfl
  | cons b r ih =>
    have ih := ih fun w hw => hws w (.tail _ hw)
    rw [List.map_cons, List.sum_cons, ih, less_count ha (hws b (.head _)), List.countP_cons]
    by_cases h : rk b < rk a
    · simp only [h, if_true, decide_true]; omega
    · simp only [h, if_false, decide_false]; simp
theorem upto_ints {ws : List (List Nat)} (hws : ∀ w ∈ ws, w ∈ W40) {a : List Nat} (ha : a ∈ W40) : (ws.map fun b => (((lessN a a.length ++ [(⟨a, 0⟩ : Pt)]).countP fun p => takesF b p.toks (some 0) : Nat) : Int)).sum = ((ws.countP fun b => decide (rk b ≤ rk a) : Nat) : Int) := by
  induction ws with
  | nil => rfl
  | cons b r ih =>
    have ih := ih fun w hw => hws w (.tail _ hw)
    rw [List.map_cons, List.sum_cons, ih, upto_count ha (hws b (.head _)), List.countP_cons]
    by_cases h : rk b ≤ rk a
    · simp only [h, if_true, decide_true]; omega
    · simp only [h, if_false, decide_false]; simp
theorem upto_max {ws : List (List Nat)} (hws : ∀ w ∈ ws, w ∈ W40) {a : List Nat} (ha : a ∈ W40) : ∀ x ∈ (ws.map fun b => (((lessN a a.length ++ [(⟨a, 0⟩ : Pt)]).countP fun p => takesF b p.toks (some 0) : Nat) : Int)), x ≤ 1 := by
  intro x hx
  obtain ⟨b, hb, rfl⟩ := List.mem_map.mp hx
  rw [upto_count ha (hws b hb)]
  split <;> decide
/-- what the two medians say of every word -/
theorem low_says {ws : List (List Nat)} (hws : ∀ w ∈ ws, w ∈ W40) {ss' : List Str} (hp : ss'.Perm (ws.map S)) (hs : sortedS ss' = true) {n : Nat} (hn : n = ws.length) (h4 : 4 ≤ n) {a : List Nat} (ha : a ∈ W40) :
    (ss'.getD ((n - 1) / 2) Str.empty == S a) = decide (2 * ws.countP (fun b => decide (rk b < rk a)) < n ∧ n ≤ 2 * ws.countP (fun b => decide (rk b ≤ rk a))) := by
  rw [med_law hws hp hs ha (by omega)]
  refine decide_eq_decide.mpr ?_
  omega
theorem high_says {ws : List (List Nat)} (hws : ∀ w ∈ ws, w ∈ W40) {ss' : List Str} (hp : ss'.Perm (ws.map S)) (hs : sortedS ss' = true) {n : Nat} (hn : n = ws.length) (h4 : 4 ≤ n) {a : List Nat} (ha : a ∈ W40) :
    (ss'.getD (n / 2) Str.empty == S a) = decide (2 * ws.countP (fun b => decide (rk b < rk a)) ≤ n ∧ n < 2 * ws.countP (fun b => decide (rk b ≤ rk a))) := by
  rw [med_law hws hp hs ha (by omega)]
  refine decide_eq_decide.mpr ?_
  omega
theorem nm16 {h₀ h : Heap} {L l : Addr} {a : List Value} {n : Nat} {rest : List (Addr × Obj)} (N : News h₀ L h ((l, W.listOf a.toArray n) :: rest)) {P : Prop} (k : ∀ l' a' n', l' = l → a' = a → n' = n → P) : P := k l a n rfl rfl rfl
theorem four_strs : Str.ofString "b" = S [98] ∧ Str.ofString "a" = S [97] ∧ Str.ofString "" = S [] := by decide +kernel
theorem four_mem : ∀ x ∈ [[98], [97], [98], []], x ∈ W40 := by decide +kernel
theorem nm17 {h₀ h : Heap} {L l l2 : Addr} {o2 : Obj} {a : List Value} {n : Nat} {rest : List (Addr × Obj)} (N : News h₀ L h ((l, W.listOf a.toArray n) :: (l2, o2) :: rest)) {P : Prop} (k : ∀ l' l2', l' = l → l2' = l2 → P) : P := k l l2 rfl rfl
theorem turn_facts {e1 e2 : Bool} {A B n : Nat} (q1 : e1 = decide (2 * A < n ∧ n ≤ 2 * B)) (q2 : e2 = decide (2 * A ≤ n ∧ n < 2 * B)) :
    (2 * (A : Int) < (n : Int) ∧ 2 * (A : Int) ≤ (n : Int) ∧ (e1 != decide ((n : Int) ≤ 2 * (B : Int))) = false ∧ (e2 != decide ((n : Int) < 2 * (B : Int))) = false) ∨
    (¬ 2 * (A : Int) < (n : Int) ∧ 2 * (A : Int) ≤ (n : Int) ∧ (e1 != decide (2 * (A : Int) < (n : Int))) = false ∧ (e2 != decide ((n : Int) < 2 * (B : Int))) = false) ∨
    (¬ 2 * (A : Int) < (n : Int) ∧ ¬ 2 * (A : Int) ≤ (n : Int) ∧ (e1 != decide (2 * (A : Int) < (n : Int))) = false ∧ (e2 != decide (2 * (A : Int) ≤ (n : Int))) = false) := by
  have ne : ∀ {p q : Prop} [Decidable p] [Decidable q], (p ↔ q) → (decide p != decide q) = false := fun {p q} _ _ h => by
    have e : decide p = decide q := decide_eq_decide.mpr h
    rw [e]
    cases decide q <;> rfl
  subst q1 q2
  by_cases h1 : 2 * A < n
  · exact .inl ⟨by omega, by omega, ne (by omega), ne (by omega)⟩
  · by_cases h2 : 2 * A ≤ n
    · exact .inr (.inl ⟨by omega, by omega, ne (by omega), ne (by omega)⟩)
    · exact .inr (.inr ⟨by omega, by omega, ne (by omega), ne (by omega)⟩)
theorem err_gen {M : Model} {A₀ : Around} {α : Type} {t : Sem α} {P : α → Shared → Prop} {E : Value → Shared → Prop} {s : Shared} {env : Env} (hE : PassesOwn M (A₀.deeper env) env E) (h : ∀ E' : Value → Shared → Prop, (∀ v s, E v s → E' v s) → PassesOwn M (A₀.deeper env) env E' → wpAny M (A₀.deeper env) t P E' s) : wpAny M (A₀.deeper env) t P E s := h E (fun _ _ x => x) hE
def WdP (ys : List Value) (i : Nat) : Prop := ∃ xs : List (List Nat), StrsAre ys (xs.map S) ∧ (∀ x ∈ xs, x ∈ W40) ∧ xs.length = i
theorem nm15 {h₀ h : Heap} {L l : Addr} {a : List Value} {rest : List (Addr × Obj)} (N : News h₀ L h ((l, W.listOf a.toArray 0) :: rest)) {P : Prop} (k : ∀ l' a', l' = l → a' = a → P) : P := k l a rfl rfl
theorem ints_at {vs : List Value} {ns : List Int} (h : IntsAre vs ns) : ∀ {i : Nat} {v : Value}, vs[i]? = some v → ∃ n t, v = .int n t := by
  induction h with
  | nil => intro i v hv; simp at hv
  | cons n t _ ih =>
    intro i v hv
    cases i with
    | zero => exact ⟨n, t, by simpa using hv.symm⟩
    | succ i => exact ih (by simpa using hv)
def WwP (ws : List (List Nat)) (_ : Option Addr) (rest : List Value) : Prop := ∃ ws' : List (List Nat), StrsAre rest (ws'.map S) ∧ ∀ x ∈ ws', x ∈ ws
-- names kept back from the head's own side proofs (the twins of its constants): without them the compiled file is over 32 MiB, and the kernel does not need them
def law_top.tw363188069846206536 : Unit := ()
def law_top.tw16034593955152035039 : Unit := ()
def law_top.tw2931800135006948302 : Unit := ()
def law_top.tw15775079376732303269 : Unit := ()
def law_top.tw13629386109417009619 : Unit := ()
def law_top.tw4463889121179344938 : Unit := ()
def law_top.tw6980922811597085436 : Unit := ()
def law_top.tw9280402338285684670 : Unit := ()
def law_top.tw14969139303469256950 : Unit := ()
def law_top.tw12661805379483840412 : Unit := ()
def law_top.tw11720616314218489810 : Unit := ()
def law_top.tw17502340256454306594 : Unit := ()
def law_top.tw7901011372787885319 : Unit := ()
def law_top.tw2955606287360080163 : Unit := ()
def law_top.tw1288960877571448154 : Unit := ()
def law_top.tw14780399261912653854 : Unit := ()
def law_top.tw17373516556330895005 : Unit := ()
def law_top.tw17797101385414909114 : Unit := ()
def law_top.tw1949957074159577291 : Unit := ()
def law_top.tw6231661171454773142 : Unit := ()
def law_top.tw15005321464861163767 : Unit := ()
def law_top.tw13224409641867221464 : Unit := ()
def law_top.tw3839028595492612301 : Unit := ()
def law_top.tw9466599591447242186 : Unit := ()
def law_top.tw14149293753504563448 : Unit := ()
def law_top.tw1747922356988738679 : Unit := ()
def law_top.tw6332348898915433874 : Unit := ()
def law_top.tw7709056981799277829 : Unit := ()
def law_top.tw16015210577307217410 : Unit := ()
def law_top.tw763981247105307321 : Unit := ()
def law_top.tw1152095663418324545 : Unit := ()
def law_top.tw611417037901936444 : Unit := ()
def law_top.tw5427493960770380056 : Unit := ()
def law_top.tw6571784266805931033 : Unit := ()
def law_top.tw12315322523353936860 : Unit := ()
def law_top.tw16920072114840945712 : Unit := ()
def law_top.tw7961211647153113775 : Unit := ()
def law_top.tw2275028483964098049 : Unit := ()
def law_top.tw12999860489936701064 : Unit := ()
def law_top.tw12642894733483524384 : Unit := ()
def law_top.tw15526993221516285335 : Unit := ()
def law_top.tw6577109545049214156 : Unit := ()
def law_top.tw7997751710175968671 : Unit := ()
def law_top.tw7482860994988773108 : Unit := ()
def law_top.tw10286201357013005377 : Unit := ()
def law_top.tw12102968378589485275 : Unit := ()
def law_top.tw18051060348627859974 : Unit := ()
def law_top.tw14171916116217733337 : Unit := ()
def law_top.tw12603643600705156480 : Unit := ()
def law_top.tw8516294288858636724 : Unit := ()
def law_top.tw11373745439413166461 : Unit := ()
def law_top.tw12198372457563177005 : Unit := ()
def law_top.tw18272230019521340845 : Unit := ()
def law_top.tw7867358898346820270 : Unit := ()
def law_top.tw9810018367102170708 : Unit := ()
def law_top.tw18004336819217909470 : Unit := ()
def law_top.tw78286356675630153 : Unit := ()
def law_top.tw6355524309234431215 : Unit := ()
def law_top.tw13903284469890399892 : Unit := ()
def law_top.tw13495758300109605228 : Unit := ()
def law_top.tw18249325978800452257 : Unit := ()
def law_top.tw11153753719859638668 : Unit := ()
def law_top.tw18171904199140675943 : Unit := ()
def law_top.tw5773618164531597519 : Unit := ()
def law_top.tw14944627252004380249 : Unit := ()
def law_top.tw10536468574566418409 : Unit := ()
def law_top.tw2953313639727853970 : Unit := ()
def law_top.tw5573422927650112384 : Unit := ()
def law_top.tw1914564268808401517 : Unit := ()
def law_top.tw2377461937612088731 : Unit := ()
def law_top.tw16551211697155646508 : Unit := ()
def law_top.tw10826588322695934928 : Unit := ()
def law_top.tw10130442277283305240 : Unit := ()
def law_top.tw12483686980596091950 : Unit := ()
def law_top.tw9594317797690140654 : Unit := ()
def law_top.tw13016134613693769432 : Unit := ()
def law_top.tw14219193877554760012 : Unit := ()
def law_top.tw15348294645224088440 : Unit := ()
def law_top.tw14080719764467723048 : Unit := ()
def law_top.tw7108336986501517790 : Unit := ()
def law_top.tw16260934594167950604 : Unit := ()
def law_top.tw9303506434284490135 : Unit := ()
def law_top.tw14139451231886455591 : Unit := ()
def law_top.tw6570004926812099685 : Unit := ()
def law_top.tw16234455562044715664 : Unit := ()
def law_top.tw1428256767653650414 : Unit := ()
def law_top.tw8020521010272921470 : Unit := ()
def law_top.tw15065541324447448767 : Unit := ()
def law_top.tw12221533569620720199 : Unit := ()
def law_top.tw15507012862792769564 : Unit := ()
def law_top.tw7424991271761715064 : Unit := ()
def law_top.tw1879774383088454309 : Unit := ()
def law_top.tw18444406557246085948 : Unit := ()
def law_top.tw15437651174255455370 : Unit := ()
def law_top.tw5993675090774452096 : Unit := ()
def law_top.tw9967964381162025786 : Unit := ()
def law_top.tw186610494773709257 : Unit := ()
def law_top.tw15017142305049579308 : Unit := ()
def law_top.tw12420681152867330184 : Unit := ()
def law_top.tw6504812517432830988 : Unit := ()
def law_top.tw3009278289460092084 : Unit := ()
def law_top.tw6702296689421629000 : Unit := ()
def law_top.tw5643620551880373795 : Unit := ()
def law_top.tw2006347528899873046 : Unit := ()
def law_top.tw9503508857058909386 : Unit := ()
def law_top.tw7835778587273230915 : Unit := ()
def law_top.tw13656351535292796931 : Unit := ()
def law_top.tw2888280459386852383 : Unit := ()
def law_top.tw7874791000614325088 : Unit := ()
def law_top.tw8516433308118453871 : Unit := ()
def law_top.tw10294451978957383945 : Unit := ()
def law_top.tw7715263056650714340 : Unit := ()
def law_top.tw11109962648497783193 : Unit := ()
def law_top.tw14657218770554414550 : Unit := ()
def law_top.tw11056068111123665402 : Unit := ()
def law_top.tw568671577668820102 : Unit := ()
def law_top.tw15986506927398541174 : Unit := ()
def law_top.tw2221346581984900321 : Unit := ()
def law_top.tw2185754109554870518 : Unit := ()
def law_top.tw9450407298689094659 : Unit := ()
def law_top.tw9498171460264321590 : Unit := ()
def law_top.tw10582184807138219717 : Unit := ()
def law_top.tw15712796350406014708 : Unit := ()
def law_top.tw17122903829229300871 : Unit := ()
def law_top.tw9706269618697672353 : Unit := ()
def law_top.tw13065201752535711703 : Unit := ()
def law_top.tw12411206546304024813 : Unit := ()
def law_top.tw524847444842218799 : Unit := ()
def law_top.tw4035441743224856527 : Unit := ()
def law_top.tw6200633000750292626 : Unit := ()
def law_top.tw8725115696603336624 : Unit := ()
def law_top.tw7694390121916187796 : Unit := ()
def law_top.tw1866561049575849890 : Unit := ()
def law_top.tw5275388887275059251 : Unit := ()
def law_top.tw4752553660275263152 : Unit := ()
def law_top.tw11480147539602603376 : Unit := ()
def law_top.tw10022954398334786472 : Unit := ()
def law_top.tw8583280074064652360 : Unit := ()
def law_top.tw14775965575129205393 : Unit := ()
def law_top.tw1862517191232019400 : Unit := ()
def law_top.tw17418414475645254054 : Unit := ()
def law_top.tw4216818783724148357 : Unit := ()
def law_top.tw2597957697617258521 : Unit := ()
def law_top.tw11800595542214684199 : Unit := ()
def law_top.tw1721154339482203434 : Unit := ()
def law_top.tw3797287378652951967 : Unit := ()
def law_top.tw2302899222408781742 : Unit := ()
def law_top.tw2858699214839333410 : Unit := ()
def law_top.tw16227487660197021416 : Unit := ()
def law_top.tw6277973545076587592 : Unit := ()
def law_top.tw6906202865061970149 : Unit := ()
def law_top.tw10078044064815147252 : Unit := ()
def law_top.tw12015765404883611054 : Unit := ()
def law_top.tw5078501238348620643 : Unit := ()
def law_top.tw9943684967944149986 : Unit := ()
def law_top.tw6691817473938501154 : Unit := ()
def law_top.tw10292659306967334308 : Unit := ()
def law_top.tw10625962002615027852 : Unit := ()
def law_top.tw13092957848377691611 : Unit := ()
def law_top.tw11150521529030130331 : Unit := ()
def law_top.tw12835476548120446910 : Unit := ()
def law_top.tw15178488841047729664 : Unit := ()
def law_top.tw8541371063899175888 : Unit := ()
def law_top.tw6264520644713374246 : Unit := ()
def law_top.tw9172863912365401550 : Unit := ()
def law_top.tw14966000421873519779 : Unit := ()
def law_top.tw14829795233225338502 : Unit := ()
def law_top.tw1501091294741550726 : Unit := ()
def law_top.tw12411813103585969329 : Unit := ()
def law_top.tw10753425778081737074 : Unit := ()
def law_top.tw8290622515634760966 : Unit := ()
def law_top.tw16852692392685713594 : Unit := ()
def law_top.tw18203238465984659628 : Unit := ()
def law_top.tw3850716956298742147 : Unit := ()
def law_top.tw5603597620517582467 : Unit := ()
def law_top.tw2728962265462074758 : Unit := ()
def law_top.tw78097208892379299 : Unit := ()
def law_top.tw2779505321668998331 : Unit := ()
def law_top.tw14795834682912672649 : Unit := ()
def law_top.tw9064951770252628880 : Unit := ()
def law_top.tw17988802224992368673 : Unit := ()
def law_top.tw13614607559452128130 : Unit := ()
def law_top.tw12776723702932448968 : Unit := ()
def law_top.tw10765115190881971295 : Unit := ()
def law_top.tw8537840781554845856 : Unit := ()
def law_top.tw4309922828431584389 : Unit := ()
def law_top.tw13536622145382484277 : Unit := ()
def law_top.tw13505924567701638405 : Unit := ()
def law_top.tw7442410216495771646 : Unit := ()
def law_top.tw17241472212612190410 : Unit := ()
def law_top.tw12026654070091552410 : Unit := ()
def law_top.tw12410780593926092251 : Unit := ()
def law_top.tw16138361441783063900 : Unit := ()
def law_top.tw13504202801064632052 : Unit := ()
def law_top.tw2773272114844130751 : Unit := ()
def law_top.tw5645422842665200123 : Unit := ()
def law_top.tw394342335994243347 : Unit := ()
def law_top.tw5628761587620526709 : Unit := ()
def law_top.tw12527463809708056947 : Unit := ()
def law_top.tw3103645623598724647 : Unit := ()
def law_top.tw1323582397888939860 : Unit := ()
def law_top.tw2434788702601687341 : Unit := ()
def law_top.tw4798412317897671871 : Unit := ()
def law_top.tw1592732566562449324 : Unit := ()
def law_top.tw9622585942757630181 : Unit := ()
def law_top.tw2387479435186344434 : Unit := ()
def law_top.tw2525205774349556007 : Unit := ()
def law_top.tw4127752670702355322 : Unit := ()
def law_top.tw3651440707554267873 : Unit := ()
def law_top.tw16709850901856870852 : Unit := ()
def law_top.tw11980320763153397962 : Unit := ()
def law_top.tw3546099850675824363 : Unit := ()
def law_top.tw16453215271722744410 : Unit := ()
def law_top.tw15535248682450126177 : Unit := ()
def law_top.tw13513747925662018309 : Unit := ()
def law_top.tw15054528889983576359 : Unit := ()
def law_top.tw11598849959208051911 : Unit := ()
def law_top.tw10312902306739710145 : Unit := ()
def law_top.tw17826498178445789105 : Unit := ()
def law_top.tw3149648356839831761 : Unit := ()
def law_top.tw14001335554848197737 : Unit := ()
def law_top.tw12399806926795291952 : Unit := ()
def law_top.tw8048449904710613849 : Unit := ()
def law_top.tw11952766272208900384 : Unit := ()
def law_top.tw12602365290385799353 : Unit := ()
def law_top.tw13715314317064010234 : Unit := ()
def law_top.tw4988363707026695406 : Unit := ()
def law_top.tw15702380943630261627 : Unit := ()
def law_top.tw2362908034175422153 : Unit := ()
def law_top.tw11768769927125411566 : Unit := ()
def law_top.tw9123506925785963709 : Unit := ()
def law_top.tw16571542119754277519 : Unit := ()
def law_top.tw8112942207976914859 : Unit := ()
def law_top.tw7192916113724826976 : Unit := ()
def law_top.tw6309970318383979159 : Unit := ()
def law_top.tw3785426722889308312 : Unit := ()
def law_top.tw14745367035689650665 : Unit := ()
def law_top.tw4592653597003971249 : Unit := ()
def law_top.tw13775165246740197078 : Unit := ()
def law_top.tw157372793722717571 : Unit := ()
def law_top.tw10656630119939421962 : Unit := ()
set_option Elab.async true in
set_option maxRecDepth 100000 in
set_option maxHeartbeats 8000000 in
theorem law_top : PySem.Challenge.rw_ij0100_01.Holds := by
  w_on
  o_law
  k_head
  (case hw => w_witness2)
  k_go0
  all_goals try k_fold
  refine post_gen fun Z9 hZ9 => ?_
  refine err_gen ?hE0 fun E9 hE9 hPE9 => ?_
  case hE0 => passes_own
  k_with "exec Assign cons BinOp" => (refine cut_in ?_)
  k_steps
  k_with_none
  unfold Cut
  walk1
  walk1
  rename Fr _ _ _ _ => F1
  rename News _ _ _ _ => N1
  rename Below _ _ _ _ => B1
  rename Top _ _ _ _ _ _ => T1
  rename Frag.In _ _ => X0
  have X1 : (Mine.box.heap_1 _).In _ := X0
  have X2 := X0
  clear X0
  k_dflt (refine LCg.ListComp_U (F₀ := F1) (by with_unfolding_all rfl) (by decide) (by rfl) (by decide) (by rfl) ?_)
  iterate 8 (first | walk1 | (dsimp only; walk1))
  rename Fr _ _ _ _ => F2
  rename News _ _ _ _ => N2
  rename IntsAre _ (List.take 4 _) => hI4
  have hI4' := IntsAre.length hI4
  k_dflt (refine LCg.CompSrc.ledger (by rfl) F2 N2 (.head _) (by rw [List.size_toArray, sizeLine_eq]; omega) ?_)
  intro g9
  refine nm15 N2 fun D9 a9 e1 e2 => ?_
  subst e1 e2
  refine comp_inv (n := a9.toArray.size) (fun i ys nl => nl = [(D9, W.listOf a9.toArray 0), (84, tabObj #[])] ∧ WdP ys i) ?step ?fin _ 0 [] _ (by simp) ⟨rfl, [], .nil, (fun x hx => by cases hx), rfl⟩
  case step =>
    rintro i v ys nl I oI C oC D m₂ h tk' E' hPi ⟨rfl, xs, hxs, hx40, hxl⟩ hC hx F3 N3 off ne
    have hPi : a9[i]? = some v := by simpa using hPi
    obtain ⟨n9, t9, rfl⟩ := ints_at hI4 hPi
    k_steps
    refine ⟨xs ++ [_], by rw [List.map_append]; exact hxs.append' (.cons _ _ .nil), fun x hx => ?_, by rw [List.length_append, hxl]; rfl⟩
    rcases List.mem_append.mp hx with hx | hx
    · exact hx40 x hx
    · rw [List.mem_singleton.mp hx]; assumption
  rintro ys nl ⟨rfl, xs, hxs, hx40, hxl⟩ D h tk' F3 N3 o3
  rw [List.size_toArray, hI4', List.length_take] at hxl
  have hyl := StrsAre.len_eq hxs
  rw [List.length_map] at hyl
  have hxs9 : Cut (StrsAre ys (xs.map S)) := hxs
  clear hxs
  k_steps
  unfold Cut
  rename Fr _ _ _ _ => F5
  rename News _ _ _ _ => N5
  refine nm16 N5 fun lw wv nw5 e1 e2 e3 => ?_
  have hw4 : List.map S [[98], [97], [98], []] = [Str.ofString "b", Str.ofString "a", Str.ofString "b", Str.ofString ""] := by
    rw [four_strs.1, four_strs.2.1, four_strs.2.2]
    rfl
  have hW : Cut (StrsAre wv ((xs ++ [[98], [97], [98], []]).map S)) := by
    rw [e2, List.map_append, hw4]
    exact StrsAre.append' hxs9 (.cons _ _ (.cons _ _ (.cons _ _ (.cons _ _ .nil))))
  clear hw4 hxs9
  subst e1 e3
  rw [← e2] at N5
  clear e2
  generalize hws : xs ++ [[98], [97], [98], []] = ws at hW
  have hws40 : ∀ x ∈ ws, x ∈ W40 := by
    intro x hx
    rw [← hws] at hx
    rcases List.mem_append.mp hx with hx | hx
    · exact hx40 x hx
    · exact four_mem x hx
  obtain ⟨n, hn⟩ : ∃ n, n = ws.length := ⟨_, rfl⟩
  have hn4 : 4 ≤ n ∧ n ≤ 8 := by
    rw [hn, ← hws, List.length_append]
    simp only [List.length_cons, List.length_nil]
    omega
  clear hws hx40 hxl hyl
  have hwl : wv.length = n := by rw [StrsAre.len_eq hW, List.length_map, hn]
  refine ctr_use (med_low hW (by rw [List.length_map, hn]) hn4.1 hn4.2 _) B1 F5 X1 N5 T1 rfl (by ktr_room) (by ktr_units) ?_
  rintro v5 news5 h5 tk5 ⟨⟨ss1, t1, hp1, hs1, rfl⟩, rfl⟩ F6 N6
  have hlow : Cut (∀ a ∈ W40, (ss1.getD ((n - 1) / 2) Str.empty == S a) = decide (2 * ws.countP (fun b => decide (rk b < rk a)) < n ∧ n ≤ 2 * ws.countP (fun b => decide (rk b ≤ rk a)))) := fun a ha => low_says hws40 hp1 hs1 hn hn4.1 ha
  clear F5 N5 hp1 hs1
  generalize ss1.getD ((n - 1) / 2) Str.empty = x1 at hlow F6 ⊢
  try dsimp only
  k_steps
  unfold Cut
  rename Fr _ _ _ _ => F7
  rename News _ _ _ _ => N7
  refine ctr_use (med_high hW (by rw [List.length_map, hn]) hn4.1 hn4.2 _) B1 F7 X1 N7 T1 rfl (by ktr_room) (by ktr_units) ?_
  rintro v5 news5 h5 tk5 ⟨⟨ss2, t2, hp2, hs2, rfl⟩, rfl⟩ F8 N8
  have hhigh : Cut (∀ a ∈ W40, (ss2.getD (n / 2) Str.empty == S a) = decide (2 * ws.countP (fun b => decide (rk b < rk a)) ≤ n ∧ n < 2 * ws.countP (fun b => decide (rk b ≤ rk a)))) := fun a ha => high_says hws40 hp2 hs2 hn hn4.1 ha
  clear F7 N7 hp2 hs2
  generalize ss2.getD (n / 2) Str.empty = x2 at hhigh F8 ⊢
  try dsimp only
  k_steps
  unfold Cut
  rename Fr _ _ _ _ => F9
  refine post_gen fun Q9 hQ9 => ?_
  with_unfolding_all refine' For_turns (hE := hPE9) F9 ?_
  k_with "pyIter ref" => (refine cut_in ?_)
  k_steps
  k_with_none
  unfold Cut
  rename Fr _ _ _ _ => F10
  rename News _ _ _ _ => N10
  rename (_ < lw ∧ _ < lw ∧ _ < lw ∧ 84 < lw) => hlw
  have hlw84 : 84 < lw := hlw.2.2.2
  with_unfolding_all refine iter_listTurns (lo := W.listOf wv.toArray 0) (vs := wv) (by rfl) F10 N10 (by k_mem) (by rfl) (by rfl) ?_
  intro I lI
  k_lt lI
  refine items_from (fun τ : Option Addr => (84, tabObj (tabv τ)) :: [(lw, W.listOf wv.toArray 0)]) (fun _ => []) [Str.ofString "word", Str.ofString "less", Str.ofString "upto"] (WwP ws) none ?whn (fun p hp => by cases hp) ?wp0 ?wstep ?wfin
  case whn =>
    intro p hp
    rcases List.mem_cons.mp hp with rfl | hp
    · exact .tail _ (.tail _ (.tail _ (.tail _ (.head _))))
    · rw [List.mem_singleton.mp hp]
      exact .head _
  case wp0 => exact ⟨ws, hW, fun _ h => h⟩
  case wstep =>
    rintro τ v rest u h tk' ⟨ws', hr, hsub⟩ F3
    refine AllObj.cons (fun oI hoI => AllObj.nil (fun N3 => ?_))
    dsimp only at N3 F3
    dsimp only [kstB] at F3
    simp only [List.cons_append, List.nil_append] at N3
    refine post_gen2 fun P9 hP9 => ?_
    cases ws' with
    | nil => cases hr
    | cons a ws' =>
    have ha : a ∈ W40 := hws40 a (hsub a (.head _))
    have hsub' : ∀ x ∈ ws', x ∈ ws := fun x h => hsub x (.tail _ h)
    have hr' : Cut (StrsAre (v :: rest) (S a :: ws'.map S)) := hr
    clear hr
    obtain ⟨t9, rest', e1, hr9⟩ : ∃ t9 rest', v :: rest = Value.str (S a) t9 :: rest' ∧ Cut (StrsAre rest' (ws'.map S)) := by
      cases hr' with
      | cons s t h => exact ⟨_, _, rfl, h⟩
    obtain ⟨rfl, rfl⟩ := List.cons.inj e1
    clear hr' e1 hsub
    k_steps
    unfold Cut
    rename Fr _ _ _ _ => F4
    rename News _ _ _ _ => N4
    obtain ⟨A, hA⟩ : ∃ A, A = ws.countP (fun b => decide (rk b < rk a)) := ⟨_, rfl⟩
    obtain ⟨B, hB⟩ : ∃ B, B = ws.countP (fun b => decide (rk b ≤ rk a)) := ⟨_, rfl⟩
    have q1 : Cut ((x1 == S a) = decide (2 * A < n ∧ n ≤ 2 * B)) := by rw [hA, hB]; exact hlow a ha
    have q2 : Cut ((x2 == S a) = decide (2 * A ≤ n ∧ n < 2 * B)) := by rw [hA, hB]; exact hhigh a ha
    have q3 : Cut (_ = _) := less_ints hws40 ha
    have q4 : Cut (_ = _) := upto_ints hws40 ha
    have q5 : Cut (∀ x : Int, x ∈ _ → x ≤ 1) := upto_max hws40 ha
    rw [← hA] at q3
    rw [← hB] at q4
    have q6 : Cut (∀ p ∈ lessN a a.length ++ [(⟨a, 0⟩ : Pt)], p ∈ allP) := less_mem ha
    have q7 : (lessN a a.length).length ≤ 6 := Nat.le_trans (lessN_len a a.length) (by have := (w_facts ha).1; omega)
    have hI84 : 84 < I := lI.2.2.2.2
    have hlwI : lw < I := lI.1
    have hnwl : ws.length ≤ 60 := by omega
    clear hlow hhigh
    refine ctr_use (less_ctr ha _) B1 F4 X1 N4 T1 rfl (by ktr_room) (by ktr_units) ?_
    rintro v6 n6 h6 tk6 ⟨l6, its6, k6, rfl, rfl, hS6, hne6⟩ F5 N5
    have hS6' : Cut (StrsAre its6 ((lessN a a.length).map Pt.pat)) := hS6
    have hne6' : Cut (∀ q ∈ [(I, oI), (84, tabObj (tabv τ)), (lw, W.listOf wv.toArray 0)], @Ne Nat q.1 l6) := hne6
    clear hS6 hne6
    try dsimp only
    k_steps
    unfold Cut
    rename Fr _ _ _ _ => F6
    rename News _ _ _ _ => N6
    have N7 : News _ _ _ ((84, tabObj (tabv τ)) :: (l6, W.listOf its6.toArray k6) :: (lw, W.listOf wv.toArray 0) :: [(I, oI)]) := fun p hp => N6 p (mm4 hp)
    have h84a : ∀ q ∈ (l6, W.listOf its6.toArray k6) :: (lw, W.listOf wv.toArray 0) :: [(I, oI)], q.1 ≠ 84 := by
      intro q hq
      rcases List.mem_cons.mp hq with rfl | hq
      · exact fun e => hne6' (84, tabObj (tabv τ)) (.tail _ (.head _)) e.symm
      rcases List.mem_cons.mp hq with rfl | hq
      · exact Nat.ne_of_gt hlw84
      rw [List.mem_singleton.mp hq]
      exact Nat.ne_of_gt hI84
    refine ctr_use (counts_ctr (fun p hp => q6 p (List.mem_append.mpr (.inl hp))) hws40 hS6' hW (by omega) hnwl τ _ h84a) B1 F6 X1 N7 T1 rfl (by ktr_room) (by ktr_units) ?_
    rintro v8 n8 h8 tk8 ⟨τ8, l8, its8, k8, rfl, rfl, hI8, hne8⟩ F8 N8
    have hI8' : Cut (IntsAre its8 _) := hI8
    have hs8 : Cut (List.sum _ = (A : Int)) := q3
    clear hI8 N6 N7
    try dsimp only
    k_steps
    unfold Cut
    rename Fr _ _ _ _ => F9
    rename News _ _ _ _ => N9
    refine ctr_use (less_ctr ha _) B1 F9 X1 N9 T1 rfl (by ktr_room) (by ktr_units) ?_
    rintro v10 n10 h10 tk10 ⟨l10, its10, k10, rfl, rfl, hS10, hne10⟩ F10 N10
    have hS10' : Cut (StrsAre its10 ((lessN a a.length).map Pt.pat)) := hS10
    have hl10 : its10.length ≤ 6 := by rw [StrsAre.len_eq hS10, List.length_map]; exact q7
    clear hS10 hne10
    try dsimp only
    k_steps
    unfold Cut
    rename Fr _ _ _ _ => F11
    rename News _ _ _ _ => N11
    refine nm17 N11 fun D12 l11 e1 e2 => ?_
    subst e1 e2
    rename (_ < D12 ∧ _ < D12 ∧ 84 < D12 ∧ _ < D12 ∧ _ < D12 ∧ _ < D12 ∧ _ < D12) => hD12
    have N12 : News _ _ _ ((84, tabObj (tabv τ8)) :: (D12, W.listOf (its10 ++ [Value.str (S a) t9]).toArray 0) :: (lw, W.listOf wv.toArray 0) :: [(l8, W.listOf its8.toArray k8), (I, oI)]) := fun p hp => N11 p (mm5 hp)
    have h84b : ∀ q ∈ (D12, W.listOf (its10 ++ [Value.str (S a) t9]).toArray 0) :: (lw, W.listOf wv.toArray 0) :: [(l8, W.listOf its8.toArray k8), (I, oI)], q.1 ≠ 84 := by
      intro q hq
      rcases List.mem_cons.mp hq with rfl | hq
      · exact Nat.ne_of_gt hD12.2.2.1
      rcases List.mem_cons.mp hq with rfl | hq
      · exact Nat.ne_of_gt hlw84
      rcases List.mem_cons.mp hq with rfl | hq
      · exact fun e => hne8 (84, tabObj (tabv τ8)) (.head _) e.symm
      rw [List.mem_singleton.mp hq]
      exact Nat.ne_of_gt hI84
    have hS12 : Cut (StrsAre (its10 ++ [Value.str (S a) t9]) ((lessN a a.length ++ [(⟨a, 0⟩ : Pt)]).map Pt.pat)) := by
      rw [List.map_append]
      refine StrsAre.append' hS10' ?_
      rw [List.map_cons, List.map_nil, ← pat0]
      exact .cons _ _ .nil
    refine ctr_use (counts_ctr q6 hws40 hS12 hW (by rw [List.length_append, List.length_singleton]; omega) hnwl τ8 _ h84b) B1 F11 X1 N12 T1 rfl (by ktr_room) (by ktr_units) ?_
    rintro v13 n13 h13 tk13 ⟨τ13, l13, its13, k13, rfl, rfl, hI13, hne13⟩ F13 N13
    have hI13' : Cut (IntsAre its13 _) := hI13
    have hs13 : Cut (List.sum _ = (B : Int)) := q4
    have hz13 : Cut (0 < List.length _) := (by rw [List.length_map]; omega : 0 < (ws.map fun b => (((lessN a a.length ++ [(⟨a, 0⟩ : Pt)]).countP fun p => takesF b p.toks (some 0) : Nat) : Int)).length)
    clear hI13 hne13 N11 N12 hne8 q3 q4 hS10' hS12 hl10 hS6'
    try dsimp only
    have hcut7 : True := trivial
    k_steps
    unfold Cut
    clear hcut7
    rcases turn_facts q1 q2 with ⟨g0, g1, g2, g3⟩ | ⟨g0, g1, g2, g3⟩ | ⟨g0, g1, g2, g3⟩
    all_goals (k_steps; rename Fr _ _ _ _ => F20; rename News _ _ _ _ => N20)
    all_goals
      refine hP9 _ _ ?_
      dsimp only [UnrPostW]
      refine kit_end τ13 F20 N20 (fun p hp => by rw [List.mem_singleton.mp hp]; exact .tail _ (.tail _ (.tail _ (.tail _ (.tail _ (.head _)))))) (fun p hp => ?_) (fun p hp q hq => ?_) ⟨.tail _ (.head _), trivial⟩ (fun p hp => by cases hp) (by ksw_same) ⟨ws', hr9, hsub'⟩
      · rcases List.mem_cons.mp hp with rfl | hp
        · exact .head _
        · rw [List.mem_singleton.mp hp]
          exact .tail _ (.tail _ (.tail _ (.head _)))
      · rw [List.mem_singleton.mp hq]
        rcases List.mem_cons.mp hp with rfl | hp
        · exact Nat.ne_of_lt hI84
        · rw [List.mem_singleton.mp hp]
          exact Nat.ne_of_lt hlwI
  case wfin =>
    rintro τ u h tk' _ F3 N3
    dsimp only at N3 F3
    dsimp only [kstB] at F3
    refine hQ9 _ _ ?_
    k_steps
    refine hZ9 _ _ ?_
    k_steps
end Mine
end
theorem PySem.Challenge.cw_ij0100_01_holds : PySem.Challenge.rw_ij0100_01.Holds :=
  Mine.law_top
