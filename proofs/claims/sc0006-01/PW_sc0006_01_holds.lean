import PyProof.Rows.All
import Wide.All
import OpenK.AllK
import Wide.FinOn
import PySem.Challenge.RW_sc0006_01
set_option Elab.async false
set_option linter.unusedVariables false
section
open PySem PySem.W PyProof.Rows
namespace Mine
set_option maxRecDepth 100000 in
set_option maxHeartbeats 8000000 in
open_top hd for PySem.Challenge.rw_sc0006_01
end Mine

end
theorem Mine.calmHd : True := by
  w_top off
  trivial
section
open PySem PySem.W PySem.Calls PyProof.Rows
set_option linter.unusedVariables false
namespace Mine
set_option maxRecDepth 100000

/-- a place in the stack of which only bounds are known -/
abbrev Lv (d u : Nat) : Around := { handled := none, depth := d, frames := none, guards := none, units := u }
theorem at_lv {α : Type} {M : Model} {A : Around} {t : Sem α} {Q : α → Shared → Prop} {E : Value → Shared → Prop} {s : Shared} {d u : Nat} (h : wpAny M (Lv d u) t Q E s)
    (hh : A.handled = none) (hd : A.depth ≤ d) (hu : A.units ≤ u) : wpAny M A t Q E s :=
  fun Γ p hΓ => h Γ p ⟨hΓ.1.trans hh, Nat.le_trans hΓ.2.1 hd, fun _ e => (nomatch e), fun _ e => (nomatch e), Nat.le_trans hΓ.2.2.2.2 hu⟩
theorem code_lv {M : Model} {A : Around} {c : Code} {R : Result → Shared → Prop} {s : Shared} {d u : Nat} (h : codeAny M (Lv d u) c R s)
    (hh : A.handled = none) (hd : A.depth ≤ d) (hu : A.units ≤ u) : codeAny M A c R s :=
  fun Γ p hc hΓ => h Γ p hc ⟨hΓ.1.trans hh, Nat.le_trans hΓ.2.1 hd, fun _ e => (nomatch e), fun _ e => (nomatch e), Nat.le_trans hΓ.2.2.2.2 hu⟩

section
variable {prog : Program} {w : World} {A : Around} {K : Frag} {p : Program} {loose : List Str} {mean : ExcName → Option Value} {mg mb : Str → Option Value}

/-- entering a def of the text: the ground is the whole heap of the call -/
theorem enter0 {s : Shared} {R : Result → Shared → Prop} {name qual : Str} {params : Arguments} {body : List Stmt} {scope : Scope} {dV kV doc pm cdv ct oc : Value} {an od : Option Addr} {osl : Array (Option Value)} {f : Addr} {args : Args} {binds : List (Str × Value)}
    (X : K.In s.heap) (T : Top p loose mean mg mb s.heap) (hroom : A.depth < recursionLimit)
    (ho : K.lookup f = some ⟨oc, od, .func (fnOf name qual params body scope dV kV doc pm an cdv ct), osl⟩) (hcd : codeIn K cdv qual = true)
    (hbind : BindsTo s (fnOf name qual params body scope dV kV doc pm an cdv ct) args binds) (hloc : ∀ y ∈ binds, scope.names.lookup y.1 = some .local)
    (h : ∀ L' h₁, Fr s.heap L' h₁ (fun y => binds.reverse.lookup y) → News s.heap L' h₁ [] →
      wpAny (model prog w) (A.deeper (envOf qual scope L' f cdv)) (execs body (envOf qual scope L' f cdv))
        (fun fl s' => R (.ok (.ret (match fl with | .ret v => v | _ => .none))) s') (fun _ _ => False)
        { s with heap := h₁, toks := s.toks + binds.length })
    (hco : scope.isCoroutine = false) (hgen : scope.isGenerator = false) (hk : scope.kind = .function)
    (hcell : ∀ x ∈ scope.names, x.2 ≠ .cell) : codeAny (model prog w) A (.call (.ref f) args) R s := by
  refine codeAny_call_def (fd := fnOf name qual params body scope dV kV doc pm an cdv ct) (body := body) (binds := binds) hroom (X _ _ ho) rfl T.nolimit (codeRec_of X hcd) rfl hbind hcell hloc (fun h₁ hns hk₁ => ?_) hco hgen hk
  exact wpAny_mono (h s.heap.objs.size h₁ ⟨hns, hk₁, Nat.le_refl _⟩ News.nil) (fun _ _ x => x) fun _ _ x => x.elim

/-- what was made between two heaps -/
def Made (h h' : Heap) (tl : List (Addr × Obj)) : Prop := ∀ p ∈ tl, h.get? p.1 = none ∧ h'.get? p.1 = some p.2
/-- entering a def with what was made since an elder ground on the ledger -/
theorem enterB {s : Shared} {h₀ : Heap} {tl : List (Addr × Obj)} {R : Result → Shared → Prop} {name qual : Str} {params : Arguments} {body : List Stmt} {scope : Scope} {dV kV doc pm cdv ct oc : Value} {an od : Option Addr} {osl : Array (Option Value)} {f : Addr} {args : Args} {binds : List (Str × Value)}
    (kp : ∀ b o, h₀.get? b = some o → s.heap.get? b = some o) (hsz : h₀.objs.size ≤ s.heap.objs.size) (M : Made h₀ s.heap tl)
    (X : K.In h₀) (T : Top p loose mean mg mb h₀) (hroom : A.depth < recursionLimit)
    (ho : K.lookup f = some ⟨oc, od, .func (fnOf name qual params body scope dV kV doc pm an cdv ct), osl⟩) (hcd : codeIn K cdv qual = true)
    (hbind : BindsTo s (fnOf name qual params body scope dV kV doc pm an cdv ct) args binds) (hloc : ∀ y ∈ binds, scope.names.lookup y.1 = some .local)
    (h : ∀ L' h₁, Fr h₀ L' h₁ (fun y => binds.reverse.lookup y) → News h₀ L' h₁ tl →
      wpAny (model prog w) (A.deeper (envOf qual scope L' f cdv)) (execs body (envOf qual scope L' f cdv))
        (fun fl s' => R (.ok (.ret (match fl with | .ret v => v | _ => .none))) s') (fun _ _ => False)
        { s with heap := h₁, toks := s.toks + binds.length })
    (hco : scope.isCoroutine = false) (hgen : scope.isGenerator = false) (hk : scope.kind = .function)
    (hcell : ∀ x ∈ scope.names, x.2 ≠ .cell) : codeAny (model prog w) A (.call (.ref f) args) R s := by
  refine codeAny_call_def (fd := fnOf name qual params body scope dV kV doc pm an cdv ct) (body := body) (binds := binds) hroom (kp _ _ (X _ _ ho)) rfl (T.nolimit.keeps kp) (codeRec_of (X.keeps kp) hcd) rfl hbind hcell hloc (fun h₁ hns hk₁ => ?_) hco hgen hk
  exact wpAny_mono (h s.heap.objs.size h₁ ⟨hns, fun b o e => hk₁ _ _ (kp b o e), hsz⟩ fun q hq => ⟨hk₁ _ _ (M q hq).2, Nat.ne_of_lt (Heap.lt_size (M q hq).2), (M q hq).1⟩) (fun _ _ x => x) fun _ _ x => x.elim
end
end Mine

namespace Mine
set_option maxRecDepth 100000
theorem made_of {h₀ h' : Heap} {L : Addr} {news : List (Addr × Obj)} (N : News h₀ L h' news) : Made h₀ h' news := fun p hp => ⟨(N p hp).2.2, (N p hp).1⟩
theorem news_add {h₀ h h' : Heap} {L : Addr} {m : Str → Option Value} {news tl : List (Addr × Obj)} (F : Fr h₀ L h m) (N : News h₀ L h news) (k : ∀ b o, h.get? b = some o → h'.get? b = some o) (M : Made h h' tl) : News h₀ L h' (tl ++ news) := by
  intro p hp
  rcases List.mem_append.mp hp with hp | hp
  · obtain ⟨a, b⟩ := M p hp
    obtain ⟨oL, _, _, hL, _⟩ := F.ns
    refine ⟨b, fun e => ?_, ?_⟩
    · rw [e, hL] at a; cases a
    · cases q : h₀.get? p.1 with
      | none => rfl
      | some o => rw [F.keep _ _ q] at a; cases a
  · exact ⟨k _ _ (N p hp).1, (N p hp).2⟩

/-- the Spec of a call: the heap only grows, and what it made is told -/
abbrev X39 (w : World) (h : Heap) : Prop := (Mine.hd.heap_39 w.params).In h
abbrev T39 (mean : ExcName → Option Value) (mg mb : Str → Option Value) (h : Heap) : Prop := Top Mine.hd.view_39 (looseW Mine.hd.view_39 []) mean mg mb h
abbrev M39 (w : World) : Model := model PySem.Challenge.rw_sc0006_01.row.prog w
def Post (s : Shared) (Rel : List (Addr × Obj) → Value → Prop) (Q : Value → Shared → Prop) : Prop :=
  ∀ r h' tk tl, (∀ b o, s.heap.get? b = some o → h'.get? b = some o) → Made s.heap h' tl → Rel tl r → Q r { s with heap := h', toks := tk }

theorem news_sub {h₀ h : Heap} {L : Addr} {news news' : List (Addr × Obj)} (N : News h₀ L h news') (hs : ∀ p ∈ news, p ∈ news') : News h₀ L h news := fun p hp => N p (hs p hp)
theorem upd_same {m : Str → Option Value} {x : Str} {v : Value} (h : m x = some v) : (fun y => if y = x then some v else m y) = m := by
  funext y; by_cases e : y = x
  · rw [if_pos e, e, h]
  · rw [if_neg e]

section
variable {M : Model} {A : Around} {E : Value → Shared → Prop} {s : Shared} {env : Env} {h₀ : Heap} {L : Addr}
/-- the end of a statement of which all that is asked is told -/
structure Cut (Mid : Shared → Prop) (fl : Flow) (s' : Shared) : Prop where
  fl : fl = .next
  mid : Mid s'
theorem execs_cut {st : Stmt} {rest : List Stmt} {Q : Flow → Shared → Prop} {Mid : Shared → Prop} (h1 : wpAny M A (exec st env) (Cut Mid) E s) (h2 : ∀ s', Mid s' → wpAny M A (execs rest env) Q E s') :
    wpAny M A (execs (st :: rest) env) Q E s :=
  wpAny_execs_cons (wpAny_mono h1 (fun f s' c => by obtain ⟨rfl, m⟩ := c; exact h2 s' m) fun _ _ x => x)
/-- one name is bound anew -/
def One (h₀ : Heap) (L : Addr) (m : Str → Option Value) (news : List (Addr × Obj)) (s : Shared) (x : Str) (P : Value → Prop) (s' : Shared) : Prop :=
  ∃ h' tk v, s' = { s with heap := h', toks := tk } ∧ P v ∧ Fr h₀ L h' (fun y => if y = x then some v else m y) ∧ News h₀ L h' news
theorem cut_one {st : Stmt} {rest : List Stmt} {Q : Flow → Shared → Prop} {m : Str → Option Value} {news : List (Addr × Obj)} (x : Str) (P : Value → Prop) (F : Fr h₀ L s.heap m) (N : News h₀ L s.heap news)
    (h1 : wpAny M A (exec st env) (Cut (One h₀ L m news s x P)) E s)
    (h2 : ∀ v h' tk, P v → Fr h₀ L h' (fun y => if y = x then some v else m y) → News h₀ L h' news → wpAny M A (execs rest env) Q E { s with heap := h', toks := tk }) :
    wpAny M A (execs (st :: rest) env) Q E s :=
  execs_cut h1 fun s' ⟨h', tk, v, e, hP, F', N'⟩ => e ▸ h2 v h' tk hP F' N'
theorem one_new {m : Str → Option Value} {news news' : List (Addr × Obj)} {x : Str} {P : Value → Prop} {h' : Heap} {tk : Nat} {v : Value} (F' : Fr h₀ L h' (fun y => if y = x then some v else m y)) (N' : News h₀ L h' news') (hn : ∀ p ∈ news, p ∈ news') (hP : P v) :
    Cut (One h₀ L m news s x P) .next { s with heap := h', toks := tk } := ⟨rfl, h', tk, v, rfl, hP, F', fun p hp => N' p (hn p hp)⟩
theorem one_old {m : Str → Option Value} {news news' : List (Addr × Obj)} {x : Str} {P : Value → Prop} {h' : Heap} {tk : Nat} {v : Value} (F' : Fr h₀ L h' m) (N' : News h₀ L h' news') (hx : m x = some v) (hn : ∀ p ∈ news, p ∈ news') (hP : P v) :
    Cut (One h₀ L m news s x P) .next { s with heap := h', toks := tk } := ⟨rfl, h', tk, v, rfl, hP, by rw [upd_same hx]; exact F', fun p hp => N' p (hn p hp)⟩
/-- one name, the ledger told anew -/
def OneN (h₀ : Heap) (L : Addr) (m : Str → Option Value) (s : Shared) (x : Str) (P : Value → List (Addr × Obj) → Prop) (s' : Shared) : Prop :=
  ∃ h' tk v nx, s' = { s with heap := h', toks := tk } ∧ P v nx ∧ Fr h₀ L h' (fun y => if y = x then some v else m y) ∧ News h₀ L h' nx
theorem cut_oneN {st : Stmt} {rest : List Stmt} {Q : Flow → Shared → Prop} {m : Str → Option Value} (x : Str) (P : Value → List (Addr × Obj) → Prop) (F : Fr h₀ L s.heap m)
    (h1 : wpAny M A (exec st env) (Cut (OneN h₀ L m s x P)) E s)
    (h2 : ∀ v nx h' tk, P v nx → Fr h₀ L h' (fun y => if y = x then some v else m y) → News h₀ L h' nx → wpAny M A (execs rest env) Q E { s with heap := h', toks := tk }) :
    wpAny M A (execs (st :: rest) env) Q E s :=
  execs_cut h1 fun s' ⟨h', tk, v, nx, e, hP, F', N'⟩ => e ▸ h2 v nx h' tk hP F' N'
theorem oneN_new {m : Str → Option Value} {nx : List (Addr × Obj)} {x : Str} {P : Value → List (Addr × Obj) → Prop} {h' : Heap} {tk : Nat} {v : Value} (F' : Fr h₀ L h' (fun y => if y = x then some v else m y)) (N' : News h₀ L h' nx) (hP : P v nx) :
    Cut (OneN h₀ L m s x P) .next { s with heap := h', toks := tk } := ⟨rfl, h', tk, v, nx, rfl, hP, F', N'⟩
theorem oneN_old {m : Str → Option Value} {nx : List (Addr × Obj)} {x : Str} {P : Value → List (Addr × Obj) → Prop} {h' : Heap} {tk : Nat} {v : Value} (F' : Fr h₀ L h' m) (N' : News h₀ L h' nx) (hx : m x = some v) (hP : P v nx) :
    Cut (OneN h₀ L m s x P) .next { s with heap := h', toks := tk } := ⟨rfl, h', tk, v, nx, rfl, hP, by rw [upd_same hx]; exact F', N'⟩
/-- no name, the ledger told anew -/
def NoneN (h₀ : Heap) (L : Addr) (m : Str → Option Value) (s : Shared) (P : List (Addr × Obj) → Prop) (s' : Shared) : Prop :=
  ∃ h' tk nx, s' = { s with heap := h', toks := tk } ∧ P nx ∧ Fr h₀ L h' m ∧ News h₀ L h' nx
theorem cut_noneN {st : Stmt} {rest : List Stmt} {Q : Flow → Shared → Prop} {m : Str → Option Value} (P : List (Addr × Obj) → Prop) (F : Fr h₀ L s.heap m)
    (h1 : wpAny M A (exec st env) (Cut (NoneN h₀ L m s P)) E s)
    (h2 : ∀ nx h' tk, P nx → Fr h₀ L h' m → News h₀ L h' nx → wpAny M A (execs rest env) Q E { s with heap := h', toks := tk }) :
    wpAny M A (execs (st :: rest) env) Q E s :=
  execs_cut h1 fun s' ⟨h', tk, nx, e, hP, F', N'⟩ => e ▸ h2 nx h' tk hP F' N'
theorem noneN_new {m : Str → Option Value} {nx : List (Addr × Obj)} {P : List (Addr × Obj) → Prop} {h' : Heap} {tk : Nat} (F' : Fr h₀ L h' m) (N' : News h₀ L h' nx) (hP : P nx) :
    Cut (NoneN h₀ L m s P) .next { s with heap := h', toks := tk } := ⟨rfl, h', tk, nx, rfl, hP, F', N'⟩
/-- two names -/
def Two (h₀ : Heap) (L : Addr) (m : Str → Option Value) (news : List (Addr × Obj)) (s : Shared) (x y : Str) (P : Value → Value → Prop) (s' : Shared) : Prop :=
  ∃ h' tk v u, s' = { s with heap := h', toks := tk } ∧ P v u ∧ Fr h₀ L h' (fun z => if z = y then some u else if z = x then some v else m z) ∧ News h₀ L h' news
theorem cut_two {st : Stmt} {rest : List Stmt} {Q : Flow → Shared → Prop} {m : Str → Option Value} {news : List (Addr × Obj)} (x y : Str) (P : Value → Value → Prop) (F : Fr h₀ L s.heap m) (N : News h₀ L s.heap news)
    (h1 : wpAny M A (exec st env) (Cut (Two h₀ L m news s x y P)) E s)
    (h2 : ∀ v u h' tk, P v u → Fr h₀ L h' (fun z => if z = y then some u else if z = x then some v else m z) → News h₀ L h' news → wpAny M A (execs rest env) Q E { s with heap := h', toks := tk }) :
    wpAny M A (execs (st :: rest) env) Q E s :=
  execs_cut h1 fun s' ⟨h', tk, v, u, e, hP, F', N'⟩ => e ▸ h2 v u h' tk hP F' N'
theorem two_new {m : Str → Option Value} {news news' : List (Addr × Obj)} {x y : Str} {P : Value → Value → Prop} {h' : Heap} {tk : Nat} {v u : Value} (F' : Fr h₀ L h' (fun z => if z = y then some u else if z = x then some v else m z)) (N' : News h₀ L h' news') (hn : ∀ p ∈ news, p ∈ news') (hP : P v u) :
    Cut (Two h₀ L m news s x y P) .next { s with heap := h', toks := tk } := ⟨rfl, h', tk, v, u, rfl, hP, F', fun p hp => N' p (hn p hp)⟩
theorem two_old {m : Str → Option Value} {news news' : List (Addr × Obj)} {x y : Str} {P : Value → Value → Prop} {h' : Heap} {tk : Nat} {v u : Value} (F' : Fr h₀ L h' m) (N' : News h₀ L h' news') (hx : m x = some v) (hy : m y = some u) (hn : ∀ p ∈ news, p ∈ news') (hP : P v u) :
    Cut (Two h₀ L m news s x y P) .next { s with heap := h', toks := tk } := ⟨rfl, h', tk, v, u, rfl, hP, by
  have e1 : (fun z => if z = x then some v else m z) = m := upd_same hx
  have e2 : (fun z => if z = y then some u else (fun z => if z = x then some v else m z) z) = m := by rw [e1]; exact upd_same hy
  have e3 : (fun z => if z = y then some u else if z = x then some v else m z) = m := e2
  rw [e3]; exact F', fun p hp => N' p (hn p hp)⟩
end

def IsS (v : Value) (x : Str) : Prop := ∃ t, v = .str x t
theorem isS {x y : Str} {t : Tok} (e : x = y) : IsS (.str x t) y := ⟨t, by rw [e]⟩
def IsI (v : Value) (i : Int) : Prop := ∃ t, v = .int i t
theorem isI {x y : Int} {t : Tok} (e : x = y) : IsI (.int x t) y := ⟨t, by rw [e]⟩
section
variable (prog : Program) (w : World)
def srcOf (k : Int) : Str := if k = 1 then Str.ofString "x\n1\n" else Str.ofString "x\n"
def wantOf (k : Int) : Str := if k = 3 then Str.ofString "\n" else if k = 2 then Str.ofString "" else if k = 1 then Str.ofString "" else Str.ofString "1\n"
def MsgV (k : Int) (v : Value) : Prop := if k = 5 then IsS v (Str.ofString "e\n") else if k = 4 then IsS v (Str.ofString "\n") else v = .none
def linOf (k : Int) : Int := if k = 6 ∨ k = 7 then k - 5 else 0
def indOf (k : Int) : Int := if k = 8 ∨ k = 9 then k - 7 else 0
def OptKvs (k : Int) (kvs : List (Int × Value)) : Prop := if k > 9 then kvs = [(4, .bool (k == 11)), (8, .bool true)] ∨ kvs = [(8, .bool true), (4, .bool (k == 11))] else kvs = []
def OptR (R : Addr → Obj → Prop) (od : Addr) (k : Int) : Prop := (od == sysModules) = false ∧ ∃ o kvs, R od o ∧ o.IsDictOf (PySem.intKind prog w) kvs ∧ OptKvs k kvs
def FieldsR (R : Addr → Obj → Prop) (v : Value) (k : Int) : Prop := ∃ D t1 t2 vm t4 t5 od, v = .ref D ∧ R D { cls := .type "tuple", data := .seq #[.str (srcOf k) t1, .str (wantOf k) t2, vm, .int (linOf k) t4, .int (indOf k) t5, .ref od] } ∧ MsgV k vm ∧ OptR prog w R od k
/-- an Example of kind k -/
def ExR (R : Addr → Obj → Prop) (a : Addr) (k : Int) : Prop := ∃ dx od es n t1 t2 vm t4 t5, R a (instObj 46 dx) ∧ R dx (W.dictOf es n) ∧
  getL (Str.ofString "source") es = some (some (.str (srcOf k) t1)) ∧ getL (Str.ofString "want") es = some (some (.str (wantOf k) t2)) ∧ getL (Str.ofString "exc_msg") es = some (some vm) ∧
  getL (Str.ofString "lineno") es = some (some (.int (linOf k) t4)) ∧ getL (Str.ofString "indent") es = some (some (.int (indOf k) t5)) ∧ getL (Str.ofString "options") es = some (some (.ref od)) ∧ MsgV k vm ∧ OptR prog w R od k
theorem OptR.mono {R R' : Addr → Obj → Prop} (hR : ∀ a o, R a o → R' a o) {od : Addr} {k : Int} (h : OptR prog w R od k) : OptR prog w R' od k := by
  obtain ⟨a, o, kvs, b, c⟩ := h
  exact ⟨a, o, kvs, hR _ _ b, c⟩
theorem FieldsR.mono {R R' : Addr → Obj → Prop} (hR : ∀ a o, R a o → R' a o) {v : Value} {k : Int} (h : FieldsR prog w R v k) : FieldsR prog w R' v k := by
  obtain ⟨D, t1, t2, vm, t4, t5, od, e, a, b, c⟩ := h
  exact ⟨D, t1, t2, vm, t4, t5, od, e, hR _ _ a, b, c.mono _ _ hR⟩
theorem ExR.mono {R R' : Addr → Obj → Prop} (hR : ∀ a o, R a o → R' a o) {a : Addr} {k : Int} (h : ExR prog w R a k) : ExR prog w R' a k := by
  obtain ⟨dx, od, es, n, t1, t2, vm, t4, t5, a, b, c1, c2, c3, c4, c5, c6, d, e⟩ := h
  exact ⟨dx, od, es, n, t1, t2, vm, t4, t5, hR _ _ a, hR _ _ b, c1, c2, c3, c4, c5, c6, d, e.mono _ _ hR⟩
def nl (x : Str) : Str := if Txt.endswith x (Str.ofString "\n") = true then x else x ++ Str.ofString "\n"
def nlw (x : Str) : Str := if x.length = 0 then x else nl x
theorem nl_t {x : Str} (h : Txt.endswith x (Str.ofString "\n") = true) : x = nl x := by rw [nl, if_pos h]
theorem nl_f {x : Str} (h : Txt.endswith x (Str.ofString "\n") = false) : x ++ Str.ofString "\n" = nl x := by rw [nl, if_neg (by rw [h]; decide)]
theorem nlw_0 {x : Str} (h : (x.length : Int) = 0) : x = nlw x := by rw [nlw, if_pos (by omega)]
theorem nlw_t {x : Str} (h0 : (x.length : Int) ≠ 0) (h : Txt.endswith x (Str.ofString "\n") = true) : x = nlw x := by rw [nlw, if_neg (by omega)]; exact nl_t h
theorem nlw_f {x : Str} (h0 : (x.length : Int) ≠ 0) (h : Txt.endswith x (Str.ofString "\n") = false) : x ++ Str.ofString "\n" = nlw x := by rw [nlw, if_neg (by omega)]; exact nl_f h
def StrP (f : Str → Str) (y : Str) (v : Value) : Prop := ∃ x, IsS v x ∧ f x = y ∧ x.length ≤ 10
def WordP (k : Int) (v : Value) : Prop := if k = 5 then StrP nl (Str.ofString "e\n") v else if k = 4 then StrP nl (Str.ofString "\n") v else v = .none
theorem word_ways {k : Int} {v : Value} (h : WordP k v) : (v = .none ∧ MsgV k .none) ∨ ∃ x t, v = .str x t ∧ x.length ≤ 10 ∧ ∀ y t, y = nl x → MsgV k (.str y t) := by
  unfold WordP at h
  split at h
  · obtain ⟨x, ⟨t, rfl⟩, e, hl⟩ := h
    exact .inr ⟨x, t, rfl, hl, fun y t ey => by rw [MsgV, if_pos (by assumption), ey, e]; exact isS rfl⟩
  · split at h
    · obtain ⟨x, ⟨t, rfl⟩, e, hl⟩ := h
      exact .inr ⟨x, t, rfl, hl, fun y t ey => by rw [MsgV, if_neg (by assumption), if_pos (by assumption), ey, e]; exact isS rfl⟩
    · exact .inl ⟨h, by rw [MsgV, if_neg (by assumption), if_neg (by assumption)]⟩
theorem src_ways (k : Int) : srcOf k = Str.ofString "x\n1\n" ∨ srcOf k = Str.ofString "x\n" := by unfold srcOf; split <;> simp
theorem want_ways (k : Int) : wantOf k = Str.ofString "1\n" ∨ wantOf k = Str.ofString "" ∨ wantOf k = Str.ofString "\n" := by unfold wantOf; (repeat' split) <;> simp
theorem nl_ofs : nl (Str.ofString "x\n1") = Str.ofString "x\n1\n" ∧ nl (Str.ofString "x") = Str.ofString "x\n" ∧ nl (Str.ofString "x\n1\n") = Str.ofString "x\n1\n" ∧ nl (Str.ofString "x\n") = Str.ofString "x\n" ∧
    nl (Str.ofString "") = Str.ofString "\n" ∧ nl (Str.ofString "\n") = Str.ofString "\n" ∧ nl (Str.ofString "e") = Str.ofString "e\n" ∧ nl (Str.ofString "e\n") = Str.ofString "e\n" ∧
    nlw (Str.ofString "") = Str.ofString "" ∧ nlw (Str.ofString "\n") = Str.ofString "\n" ∧ nlw (Str.ofString "1") = Str.ofString "1\n" ∧ nlw (Str.ofString "1\n") = Str.ofString "1\n" := by decide +kernel
theorem len_ofs : (Str.ofString "x\n1").length ≤ 10 ∧ (Str.ofString "x").length ≤ 10 ∧ (Str.ofString "x\n1\n").length ≤ 10 ∧ (Str.ofString "x\n").length ≤ 10 ∧ (Str.ofString "").length ≤ 10 ∧ (Str.ofString "\n").length ≤ 10 ∧ (Str.ofString "e").length ≤ 10 ∧ (Str.ofString "e\n").length ≤ 10 ∧ (Str.ofString "1").length ≤ 10 ∧ (Str.ofString "1\n").length ≤ 10 := by decide +kernel
theorem strP {f : Str → Str} {x y : Str} {t : Tok} (e : f x = y) (h : x.length ≤ 10) : StrP f y (.str x t) := ⟨x, ⟨t, rfl⟩, e, h⟩
theorem msg_ways {k : Int} {v : Value} (h : MsgV k v) : (v = .none ∧ ∀ u, u = .none → WordP k u) ∨ (IsS v (Str.ofString "\n") ∧ ∀ u, StrP nl (Str.ofString "\n") u → WordP k u) ∨ (IsS v (Str.ofString "e\n") ∧ ∀ u, StrP nl (Str.ofString "e\n") u → WordP k u) := by
  unfold MsgV at h
  unfold WordP
  split at h
  · rename_i h5; exact .inr (.inr ⟨h, fun u hu => by rw [if_pos h5]; exact hu⟩)
  · rename_i h5
    split at h
    · rename_i h4; exact .inr (.inl ⟨h, fun u hu => by rw [if_neg h5, if_pos h4]; exact hu⟩)
    · rename_i h4; exact .inl ⟨h, fun u hu => by rw [if_neg h5, if_neg h4]; exact hu⟩
def OptP (R : Addr → Obj → Prop) (v : Value) (k : Int) : Prop := (v = .none ∧ k ≤ 9) ∨ ∃ od, v = .ref od ∧ OptR prog w R od k
end
end Mine

end
section
open PySem PySem.W PySem.Calls PyProof.Rows
namespace Mine
set_option maxRecDepth 100000
local macro_rules | `(tactic| ktr_unf) => `(tactic| (k_dflt (refine' enter0 ?k1 ?k2 ?k3 ?k4 ?k5 ?k6 ?k7 ?_ ?c1 ?c2 ?c3 ?c4; (case k1 => k_asm); (case k2 => k_asm); (case k3 => k_room); (case k4 => k_is); (case k5 => k_is); (case k6 => first | exact BindsTo.of_eq rfl | exact binds_K (by k_in) rfl (by k_is) rfl rfl rfl | fail "m_enter: args"); (case k7 => exact locs rfl); (case c4 => decide); (case c1 => exact rfl); (case c2 => exact rfl); (case c3 => exact rfl); k_whole; intro L' h' F' N'; (try dsimp only); (try k_fold))))
local macro_rules | `(tactic| ktr_rel) => `(tactic| (rename Fr _ _ _ _ => lF'; rename News _ _ _ _ => lN'))
set_option maxHeartbeats 8000000 in
theorem fields_spec (w : World) (mg mb : Str → Option Value) (mean : ExcName → Option Value) : ∀ (s : Shared) (Q E : Value → Shared → Prop), 
   X39 w s.heap → T39 mean mg mb s.heap → ∀ (k : Int) (t : Tok), 0 ≤ k → k < 12 → Post s (fun tl r => FieldsR PySem.Challenge.rw_sc0006_01.row.prog w (fun a o => (a, o) ∈ tl) r k) Q →
   wpAny (M39 w) (Lv 500 2000) (call (.ref 64) [.int k t]) Q E s := by
  unfold X39 T39 M39
  k_fill
  intro s Q E KX T k t hk0 hk1 hQ
  refine wpAny_call ?_
  ktr_unf
  rename_i L₁ h₁ F₁ N₁
  refine execs_cut (Mid := fun s' => ∃ h' tk t1 t2 t4 t5 od o, s' = { heap := h', gens := s.gens, drawn := s.drawn, toks := tk, os := s.os } ∧
    Fr s.heap L₁ h' (fun y => if y = Str.ofString "options" then some (.ref od) else if y = Str.ofString "indent" then some (.int 0 t5) else if y = Str.ofString "lineno" then some (.int 0 t4) else if y = Str.ofString "words" then some .none else
      if y = Str.ofString "want" then some (.str (Str.ofString "1\n") t2) else if y = Str.ofString "source" then some (.str (Str.ofString "x\n") t1) else [(Str.ofString "kind", Value.int k t)].reverse.lookup y) ∧
    (od == sysModules) = false ∧ o.IsDictOf (PySem.intKind PySem.Challenge.rw_sc0006_01.row.prog w) [] ∧ News s.heap L₁ h' [(od, o)]) ?_ ?_
  · k_steps
    exact ⟨rfl, _, _, _, _, _, _, _, _, rfl, by assumption, by assumption, by assumption, news_sub (by assumption) (by k_sub)⟩
  · clear F₁ N₁
    rintro s' ⟨h', tk, t1, t2, t4, t5, od, o, rfl, F, ho, hd, N⟩
    refine cut_two (Str.ofString "source") (Str.ofString "want") (fun v u => IsS v (srcOf k) ∧ IsS u (if k = 1 then Str.ofString "" else Str.ofString "1\n")) F N ?_ (fun v u h' tk hP F1 N1 => ?_)
    · k_steps
      · exact two_new (by assumption) (by assumption) (by k_sub) ⟨isS (by simp [srcOf, *]), isS (by simp [*])⟩
      · exact two_old (by assumption) (by assumption) rfl rfl (by k_sub) ⟨isS (by simp [srcOf, *]), isS (by simp [*])⟩
    clear F N
    obtain ⟨⟨ts, rfl⟩, tw, rfl⟩ := hP
    refine cut_one (Str.ofString "want") (fun v => IsS v (if k = 2 then Str.ofString "" else if k = 1 then Str.ofString "" else Str.ofString "1\n")) F1 N1 ?_ (fun v h' tk hP F2 N2 => ?_)
    · k_steps
      all_goals first | exact one_new (by assumption) (by assumption) (by k_sub) (isS (by simp [*])) | exact one_old (by assumption) (by assumption) rfl (by k_sub) (isS (by simp [*]))
    clear F1 N1
    obtain ⟨tw, rfl⟩ := hP
    refine cut_one (Str.ofString "want") (fun v => IsS v (wantOf k)) F2 N2 ?_ (fun v h' tk hP F3 N3 => ?_)
    · k_steps
      all_goals first | exact one_new (by assumption) (by assumption) (by k_sub) (isS (by simp [wantOf, *])) | exact one_old (by assumption) (by assumption) rfl (by k_sub) (isS (by simp [wantOf, *]))
    clear F2 N2
    obtain ⟨tw, rfl⟩ := hP
    refine cut_one (Str.ofString "words") (fun v => (if k = 4 then IsS v (Str.ofString "\n") else v = .none)) F3 N3 ?_ (fun vm h' tk hP F4 N4 => ?_)
    · k_steps
      all_goals first | exact one_new (by assumption) (by assumption) (by k_sub) (by first | (rw [if_pos (by assumption)]; exact isS rfl) | (rw [if_neg (by assumption)])) | exact one_old (by assumption) (by assumption) rfl (by k_sub) (by first | (rw [if_pos (by assumption)]; exact isS rfl) | (rw [if_neg (by assumption)]))
    clear F3 N3
    refine cut_one (Str.ofString "words") (fun v => MsgV k v) F4 N4 ?_ (fun vn h' tk hP4 F5 N5 => ?_)
    · k_steps
      all_goals first | exact one_new (by assumption) (by assumption) (by k_sub) (by unfold MsgV; first | (rw [if_pos (by assumption)]; exact isS rfl) | (rw [if_neg (by assumption)]; assumption)) | exact one_old (by assumption) (by assumption) rfl (by k_sub) (by unfold MsgV; first | (rw [if_pos (by assumption)]; exact isS rfl) | (rw [if_neg (by assumption)]; assumption))
    clear F4 N4
    clear hP
    refine cut_one (Str.ofString "lineno") (fun v => IsI v (linOf k)) F5 N5 ?_ (fun v h' tk hP5 F6 N6 => ?_)
    · k_steps
      all_goals first | exact one_new (by assumption) (by assumption) (by k_sub) (isI (by unfold linOf; split <;> omega)) | exact one_old (by assumption) (by assumption) rfl (by k_sub) (isI (by unfold linOf; split <;> omega))
    clear F5 N5
    obtain ⟨tl, rfl⟩ := hP5
    refine cut_one (Str.ofString "indent") (fun v => IsI v (indOf k)) F6 N6 ?_ (fun v h' tk hP6 F7 N7 => ?_)
    · k_steps
      all_goals first | exact one_new (by assumption) (by assumption) (by k_sub) (isI (by unfold indOf; split <;> omega)) | exact one_old (by assumption) (by assumption) rfl (by k_sub) (isI (by unfold indOf; split <;> omega))
    clear F6 N6
    obtain ⟨ti, rfl⟩ := hP6
    k_steps
    · rename News _ _ _ _ => N'
      rename Fr _ _ _ _ => F'
      exact hQ _ _ _ _ F'.keep (made_of N') ⟨_, _, _, _, _, _, _, rfl, .head _, hP4, by assumption, _, _, .tail _ (.head _), by assumption, by unfold OptKvs; rw [if_pos (by omega)]; exact .inl rfl⟩
    · rename News _ _ _ _ => N'
      rename Fr _ _ _ _ => F'
      exact hQ _ _ _ _ F'.keep (made_of N') ⟨_, _, _, _, _, _, _, rfl, .head _, hP4, by assumption, _, _, .tail _ (.head _), by assumption, by unfold OptKvs; rw [if_neg (by omega)]⟩
end Mine

end
theorem Mine.calmFields : True := by
  w_top off
  trivial
section
open PySem PySem.W PySem.Calls PyProof.Rows
namespace Mine
set_option maxRecDepth 100000
local macro_rules | `(tactic| ktr_unf) => `(tactic| (k_dflt (refine' enterB (tl := [(_, _), (_, _)]) ?k8 ?k9 ?k10 ?k1 ?k2 ?k3 ?k4 ?k5 ?k6 ?k7 ?_ ?c1 ?c2 ?c3 ?c4; (case k8 => assumption); (case k9 => assumption); (case k10 => assumption); (case k1 => k_asm); (case k2 => k_asm); (case k3 => k_room); (case k4 => k_is); (case k5 => k_is); (case k6 => first | exact BindsTo.of_eq rfl | exact binds_K (by k_in) rfl (by k_is) rfl rfl rfl | fail "m_enter: args"); (case k7 => exact locs rfl); (case c4 => decide); (case c1 => exact rfl); (case c2 => exact rfl); (case c3 => exact rfl); k_whole; intro L' h' F' N'; (try dsimp only); (try k_fold))))
set_option maxHeartbeats 8000000 in
theorem init_spec (w : World) (mg mb : Str → Option Value) (mean : ExcName → Option Value) : ∀ (s : Shared) (R : Result → Shared → Prop) (h₀ : Heap) (x dx : Addr), @LT.lt Nat _ dx x → (∀ b o, h₀.get? b = some o → s.heap.get? b = some o) → h₀.objs.size ≤ s.heap.objs.size → Made h₀ s.heap [(x, instObj 46 dx), (dx, W.dictOf [] 0)] →
   X39 w h₀ → T39 mean mg mb h₀ → ∀ (R₀ : Addr → Obj → Prop) (k : Int) (vs vw vm vo : Value) (t4 t5 : Tok), StrP nl (srcOf k) vs → StrP nlw (wantOf k) vw → WordP k vm → OptP PySem.Challenge.rw_sc0006_01.row.prog w R₀ vo k →
   (∀ h' tk tl, (∀ b o, h₀.get? b = some o → h'.get? b = some o) → Made h₀ h' tl → ExR PySem.Challenge.rw_sc0006_01.row.prog w (fun a o => (a, o) ∈ tl ∨ R₀ a o) x k → R (.ok (.ret .none)) { s with heap := h', toks := tk }) →
   codeAny (M39 w) (Lv 490 1800) (.call (.ref 29) ⟨[.ref x, vs, vw, vm, .int (linOf k) t4, .int (indOf k) t5, vo], []⟩) R s := by
  unfold X39 T39 M39
  k_fill
  intro s R h₀ x dx hlt kp hsz hM KX T R₀ k vs vw vm vo t4 t5 hvs hvw hvm hvo hQ
  have KXs : (Mine.hd.heap_39 w.params).In s.heap := KX.keeps kp
  k_dflt (refine' enterB (tl := [(_, _), (_, _)]) ?k8 ?k9 ?k10 ?k1 ?k2 ?k3 ?k4 ?k5 ?k6 ?k7 ?_ ?c1 ?c2 ?c3 ?c4; (case k8 => assumption); (case k9 => assumption); (case k10 => assumption); (case k1 => k_asm); (case k2 => k_asm); (case k3 => k_room); (case k4 => k_is); (case k5 => k_is); (case k6 => first | exact BindsTo.of_eq rfl | exact binds_K (by k_in) rfl (by k_is) rfl rfl rfl | fail "m_enter: args"); (case k7 => exact locs rfl); (case c4 => decide); (case c1 => exact rfl); (case c2 => exact rfl); (case c3 => exact rfl); k_whole; intro L' h' F' N'; (try dsimp only); (try k_fold))
  clear KXs kp hsz hM
  obtain ⟨xs, ⟨ts, rfl⟩, hxs, hls⟩ := hvs
  obtain ⟨xw, ⟨tw, rfl⟩, hxw, hlw⟩ := hvw
  refine cut_one (Str.ofString "source") (fun v => IsS v (srcOf k)) F' N' ?_ (fun v h' tk hP F1 N1 => ?_)
  · k_steps
    · exact one_old (by assumption) (by assumption) rfl (by k_sub) (isS ((nl_t (by assumption)).trans hxs))
    · exact one_new (by assumption) (by assumption) (by k_sub) (isS ((nl_f (by assumption)).trans hxs))
  clear F' N'
  obtain ⟨ts', rfl⟩ := hP
  refine cut_one (Str.ofString "want") (fun v => IsS v (wantOf k)) F1 N1 ?_ (fun v h' tk hP F2 N2 => ?_)
  · k_steps
    · exact one_old (by assumption) (by assumption) rfl (by k_sub) (isS ((nlw_t (by assumption) (by assumption)).trans hxw))
    · exact one_new (by assumption) (by assumption) (by k_sub) (isS ((nlw_f (by assumption) (by assumption)).trans hxw))
    · exact one_old (by assumption) (by assumption) rfl (by k_sub) (isS ((nlw_0 (by assumption)).trans hxw))
  clear F1 N1
  obtain ⟨tw', rfl⟩ := hP
  refine cut_one (Str.ofString "exc_msg") (fun v => MsgV k v) F2 N2 ?_ (fun vm' h' tk hP F3 N3 => ?_)
  · rcases word_ways hvm with ⟨rfl, hm⟩ | ⟨xm, tm, rfl, hlm, hm⟩
    · k_steps
      exact one_old (by assumption) (by assumption) rfl (by k_sub) hm
    · k_steps
      · exact one_old (by assumption) (by assumption) rfl (by k_sub) (hm _ _ (nl_t (by assumption)))
      · exact one_new (by assumption) (by assumption) (by k_sub) (hm _ _ (nl_f (by assumption)))
  clear F2 N2 hvm
  rcases hvo with ⟨rfl, hk9⟩ | ⟨od, rfl, hod⟩
  · k_steps
    rename News _ _ _ _ => N'
    rename Fr _ _ _ _ => F'
    exact hQ _ _ _ F'.keep (made_of N') ⟨dx, _, _, _, _, _, _, _, _, .inl (by k_mem), .inl (by k_mem), by k_get, by k_get, by k_get, by k_get, by k_get, by k_get, hP, by assumption, _, [], .inl (by k_mem), by assumption, by unfold OptKvs; rw [if_neg (by omega)]⟩
  · k_steps
    rename News _ _ _ _ => N'
    rename Fr _ _ _ _ => F'
    exact hQ _ _ _ F'.keep (made_of N') ⟨dx, _, _, _, _, _, _, _, _, .inl (by k_mem), .inl (by k_mem), by k_get, by k_get, by k_get, by k_get, by k_get, by k_get, hP, hod.mono _ _ fun _ _ h => .inr h⟩
set_option maxHeartbeats 8000000 in
theorem ex_spec (w : World) (mg mb : Str → Option Value) (mean : ExcName → Option Value) : ∀ (s : Shared) (Q E : Value → Shared → Prop), 
   X39 w s.heap → T39 mean mg mb s.heap → ∀ (R₀ : Addr → Obj → Prop) (k : Int) (vs vw vm vo : Value) (t4 t5 : Tok), StrP nl (srcOf k) vs → StrP nlw (wantOf k) vw → WordP k vm → OptP PySem.Challenge.rw_sc0006_01.row.prog w R₀ vo k →
   Post s (fun tl r => ∃ a, r = .ref a ∧ ExR PySem.Challenge.rw_sc0006_01.row.prog w (fun a o => (a, o) ∈ tl ∨ R₀ a o) a k) Q →
   wpAny (M39 w) (Lv 480 1500) (call (.ref 46) [vs, vw, vm, .int (linOf k) t4, .int (indOf k) t5, vo]) Q E s := by
  unfold X39 T39 M39
  k_fill
  intro s Q E KX T R₀ k vs vw vm vo t4 t5 hvs hvw hvm hvo hQ
  refine wpAny_call ?_
  obtain ⟨h, g, d, t, os⟩ := s
  dsimp only at KX T hQ
  have hi : findIn (Mine.hd.heap_39 w.params) (.ref 46) "__init__" = some (some (.ref 29)) := by k_is
  have hf : typeIn (Mine.hd.heap_39 w.params) (.ref 29) = some (.type "function") := by k_is
  have hm : makesIn (Mine.hd.heap_39 w.params) 46 = true := by k_is
  refine make_core (makes_of KX hm) (looks_findIn KX hi) (fun self => bind_fn KX self hf) (.inl rfl) ?_
  have kp : ∀ b o, h.get? b = some o → ((h.push emptyDict).push (instObj 46 h.objs.size)).get? b = some o := fun b o e => Heap.get?_push_of_some _ (Heap.get?_push_of_some _ e)
  have hx : ((h.push emptyDict).push (instObj 46 h.objs.size)).get? (h.objs.size + 1) = some (instObj 46 h.objs.size) := by heap_get
  have hd : ((h.push emptyDict).push (instObj 46 h.objs.size)).get? h.objs.size = some (W.dictOf [] 0) := by heap_get
  have hM : Made h ((h.push emptyDict).push (instObj 46 h.objs.size)) [(h.objs.size + 1, instObj 46 h.objs.size), (h.objs.size, W.dictOf [] 0)] := by
    intro p hp
    rcases List.mem_cons.mp hp with rfl | hp
    · exact ⟨Heap.get?_none_of_le (Nat.le_succ _), hx⟩
    · rw [List.mem_singleton.mp hp]; exact ⟨Heap.get?_none_of_le (Nat.le_refl _), hd⟩
  have hsz : h.objs.size ≤ ((h.push emptyDict).push (instObj 46 h.objs.size)).objs.size := by simp only [Heap.size_push]; omega
  refine code_lv (d := 490) (u := 1800) ?_ rfl (by rw [depth_under_make]; decide) (by first | (rw [units_under_make]; decide) | (show 1500 + 1 ≤ 1800; decide) | (show 1500 + 4 ≤ 1800; decide))
  refine init_spec w mg mb mean _ _ h _ _ (Nat.lt_succ_self _) kp hsz hM KX T R₀ k vs vw vm vo t4 t5 hvs hvw hvm hvo fun h' tk tl kp' hM' hx' => ?_
  exact ⟨rfl, hQ _ _ _ _ kp' hM' ⟨_, rfl, hx'⟩⟩
end Mine

end
theorem Mine.calmEx : True := by
  w_top off
  trivial
section
open PySem PySem.W PySem.Calls PyProof.Rows
namespace Mine
set_option maxRecDepth 100000
section
variable {w : World} {mg mb : Str → Option Value} {mean : ExcName → Option Value} {A : Around} {s : Shared} {Q E : Value → Shared → Prop} {h₀ : Heap} {L : Addr} {m : Str → Option Value} {news : List (Addr × Obj)}
theorem fields_use {k : Int} {t : Tok} (F : Fr h₀ L s.heap m) (N : News h₀ L s.heap news) (KX : (Mine.hd.heap_39 w.params).In h₀) (T : Top Mine.hd.view_39 (looseW Mine.hd.view_39 []) mean mg mb h₀)
    (hk0 : 0 ≤ k) (hk1 : k < 12) (hh : A.handled = none) (hd : A.depth ≤ 500) (hu : A.units ≤ 2000)
    (h : ∀ D t1 t2 vm t4 t5 od o kvs h' tk, Fr h₀ L h' m → News h₀ L h' ((D, ({ cls := .type "tuple", data := .seq #[.str (srcOf k) t1, .str (wantOf k) t2, vm, .int (linOf k) t4, .int (indOf k) t5, .ref od] } : Obj)) :: (od, o) :: news) → MsgV k vm → (od == sysModules) = false → o.IsDictOf (PySem.intKind PySem.Challenge.rw_sc0006_01.row.prog w) kvs → OptKvs k kvs → Q (.ref D) { s with heap := h', toks := tk }) :
    wpAny (model PySem.Challenge.rw_sc0006_01.row.prog w) A (call (.ref 64) [.int k t]) Q E s := by
  refine at_lv (d := 500) (u := 2000) (fields_spec w mg mb mean s Q E (KX.keeps F.keep) (T.keeps F.keep) k t hk0 hk1 ?_) hh hd hu
  rintro r h' tk tl kp hM ⟨D, t1, t2, vm, t4, t5, od, rfl, hD, hm, ho, o, kvs, hod, hdo, hkv⟩
  have N' := news_add F N kp hM
  refine h D t1 t2 vm t4 t5 od o kvs h' tk (F.keeps kp) (fun p hp => ?_) hm ho hdo hkv
  rcases List.mem_cons.mp hp with rfl | hp
  · exact N' _ (List.mem_append_left _ hD)
  · rcases List.mem_cons.mp hp with rfl | hp
    · exact N' _ (List.mem_append_left _ hod)
    · exact N' _ (List.mem_append_right _ hp)
theorem ex_use {k : Int} {vs vw vm vo : Value} {t4 t5 : Tok} (F : Fr h₀ L s.heap m) (N : News h₀ L s.heap news) (KX : (Mine.hd.heap_39 w.params).In h₀) (T : Top Mine.hd.view_39 (looseW Mine.hd.view_39 []) mean mg mb h₀)
    (hvs : StrP nl (srcOf k) vs) (hvw : StrP nlw (wantOf k) vw) (hvm : WordP k vm) (hvo : OptP PySem.Challenge.rw_sc0006_01.row.prog w (fun a o => (a, o) ∈ news) vo k) (hh : A.handled = none) (hd : A.depth ≤ 480) (hu : A.units ≤ 1500)
    (h : ∀ a h' tk tl, Fr h₀ L h' m → News h₀ L h' (tl ++ news) → ExR PySem.Challenge.rw_sc0006_01.row.prog w (fun a o => (a, o) ∈ tl ++ news) a k → Q (.ref a) { s with heap := h', toks := tk }) :
    wpAny (model PySem.Challenge.rw_sc0006_01.row.prog w) A (call (.ref 46) [vs, vw, vm, .int (linOf k) t4, .int (indOf k) t5, vo]) Q E s := by
  refine at_lv (d := 480) (u := 1500) (ex_spec w mg mb mean s Q E (KX.keeps F.keep) (T.keeps F.keep) _ k vs vw vm vo t4 t5 hvs hvw hvm hvo ?_) hh hd hu
  rintro r h' tk tl kp hM ⟨a, rfl, hx⟩
  exact h a h' tk tl (F.keeps kp) (news_add F N kp hM) (hx.mono _ _ fun a o e => List.mem_append.mpr e)
theorem fmod12 (n : Int) : 0 ≤ n.fmod 12 ∧ n.fmod 12 < 12 := ⟨Int.fmod_nonneg_of_pos _ (by decide), Int.fmod_lt_of_pos _ (by decide)⟩
end
local macro_rules | `(tactic| ktr_unf) => `(tactic| (k_dflt (refine' enter0 ?k1 ?k2 ?k3 ?k4 ?k5 ?k6 ?k7 ?_ ?c1 ?c2 ?c3 ?c4; (case k1 => k_asm); (case k2 => k_asm); (case k3 => k_room); (case k4 => k_is); (case k5 => k_is); (case k6 => first | exact BindsTo.of_eq rfl | exact binds_K (by k_in) rfl (by k_is) rfl rfl rfl | fail "m_enter: args"); (case k7 => exact locs rfl); (case c4 => decide); (case c1 => exact rfl); (case c2 => exact rfl); (case c3 => exact rfl); k_whole; intro L' h' F' N'; (try dsimp only); (try k_fold))))
local macro_rules | `(tactic| walk_at "call ref") => `(tactic| (k_here; (with_reducible show wpAny _ _ (call (Value.ref 64) _) _ _ _); (with_reducible refine' fields_use ?k1 ?k2 ?k3 ?k4 ?k5 ?k6 ?k7 ?k8 ?k9 ?_); (case k1 => k_asm); (case k2 => k_asm); (case k3 => k_asm); (case k4 => k_asm); (case k5 => exact (fmod12 _).1); (case k6 => exact (fmod12 _).2); (case k7 => exact rfl); (case k8 => exact Nat.le_of_ble_eq_true rfl); (case k9 => exact Nat.le_of_ble_eq_true rfl); intro D' t1' t2' vm' t4' t5' od' o' kvs' h' tk' F' N' hm' ho' hd' hk'))
local macro_rules | `(tactic| walk_at "call ref") => `(tactic| (k_here; (with_reducible show wpAny _ _ (call (Value.ref 46) _) _ _ _); (with_reducible refine' ex_use ?k1 ?k2 ?k3 ?k4 ?k5 ?k6 ?k7 ?k8 ?k9 ?k10 ?k11 ?_); (case k1 => k_asm); (case k2 => k_asm); (case k3 => k_asm); (case k4 => k_asm); (case k5 => assumption); (case k6 => assumption); (case k7 => assumption); (case k8 => assumption); (case k9 => exact rfl); (case k10 => exact Nat.le_of_ble_eq_true rfl); (case k11 => exact Nat.le_of_ble_eq_true rfl); intro a' h' tk' tl' F' N' hx'))
set_option maxHeartbeats 8000000 in
theorem exam_spec (w : World) (mg mb : Str → Option Value) (mean : ExcName → Option Value) : ∀ (s : Shared) (Q E : Value → Shared → Prop), 
   X39 w s.heap → T39 mean mg mb s.heap → ∀ (n : Int) (t : Tok),
   Post s (fun tl r => ∃ a, r = .ref a ∧ ExR PySem.Challenge.rw_sc0006_01.row.prog w (fun a o => (a, o) ∈ tl) a (n.fmod 12)) Q →
   wpAny (M39 w) (Lv 450 1200) (call (.ref 71) [.int n t]) Q E s := by
  unfold X39 T39 M39
  k_fill
  intro s Q E KX T n t hQ
  refine wpAny_call ?_
  ktr_unf
  rename_i L₁ h₁ F₁ N₁
  refine execs_cut (Mid := fun s' => ∃ h' tk t1 t2, s' = { heap := h', gens := s.gens, drawn := s.drawn, toks := tk, os := s.os } ∧
    Fr s.heap L₁ h' (fun y => if y = Str.ofString "kind" then some (.int (n.fmod 12) t1) else if y = Str.ofString "way" then some (.int (n.fdiv 12) t2) else [(Str.ofString "number", Value.int n t)].reverse.lookup y) ∧ News s.heap L₁ h' []) ?_ ?_
  · k_steps
    exact ⟨rfl, _, _, _, _, rfl, by assumption, News.nil⟩
  clear F₁ N₁
  rintro s' ⟨h', tk, t1, t2, rfl, F, N⟩
  refine execs_cut (Mid := fun s' => ∃ h' tk t1 t2 t4 t5 u1 u2 vm od o kvs, s' = { heap := h', gens := s.gens, drawn := s.drawn, toks := tk, os := s.os } ∧
    Fr s.heap L₁ h' (fun y => if y = Str.ofString "options" then some (.ref od) else if y = Str.ofString "indent" then some (.int (indOf (n.fmod 12)) t5) else if y = Str.ofString "lineno" then some (.int (linOf (n.fmod 12)) t4) else if y = Str.ofString "words" then some vm else
      if y = Str.ofString "want" then some (.str (wantOf (n.fmod 12)) t2) else if y = Str.ofString "source" then some (.str (srcOf (n.fmod 12)) t1) else if y = Str.ofString "kind" then some (.int (n.fmod 12) u1) else if y = Str.ofString "way" then some (.int (n.fdiv 12) u2) else [(Str.ofString "number", Value.int n t)].reverse.lookup y) ∧
    MsgV (n.fmod 12) vm ∧ (od == sysModules) = false ∧ o.IsDictOf (PySem.intKind PySem.Challenge.rw_sc0006_01.row.prog w) kvs ∧ OptKvs (n.fmod 12) kvs ∧ News s.heap L₁ h' [(od, o)]) ?_ ?_
  · k_steps
    exact ⟨rfl, _, _, _, _, _, _, _, _, _, _, _, _, rfl, by assumption, by assumption, by assumption, by assumption, by assumption, news_sub (by assumption) (by k_allIn)⟩
  clear F N
  rintro s' ⟨h', tk, t1, t2, t4, t5, u1, u2, vm, od, o, kvs, rfl, F, hm, ho, hdo, hkv, N⟩
  generalize n.fmod 12 = k at *
  generalize n.fdiv 12 = way at *
  refine cut_one (Str.ofString "source") (fun v => StrP nl (srcOf k) v) F N ?_ (fun vs h' tk hvs F1 N1 => ?_)
  · rcases src_ways k with e | e <;> rw [e] at F ⊢ <;> k_steps
    all_goals first | exact one_new (by assumption) (by assumption) (by k_sub) (strP (by decide +kernel) (by decide +kernel)) | exact one_old (by assumption) (by assumption) rfl (by k_sub) (strP (by decide +kernel) (by decide +kernel))
  clear F N
  refine cut_one (Str.ofString "want") (fun v => StrP nlw (wantOf k) v) F1 N1 ?_ (fun vw h' tk hvw F2 N2 => ?_)
  · rcases want_ways k with e | e | e <;> rw [e] at F1 ⊢ <;> k_steps
    all_goals first | exact one_new (by assumption) (by assumption) (by k_sub) (strP (by decide +kernel) (by decide +kernel)) | exact one_old (by assumption) (by assumption) rfl (by k_sub) (strP (by decide +kernel) (by decide +kernel))
  clear F1 N1
  refine cut_one (Str.ofString "words") (fun v => WordP k v) F2 N2 ?_ (fun vn h' tk hvm F3 N3 => ?_)
  · rcases msg_ways hm with ⟨rfl, hv⟩ | ⟨⟨tm, rfl⟩, hv⟩ | ⟨⟨tm, rfl⟩, hv⟩ <;> clear hm <;> k_steps
    all_goals first
      | exact one_old (by assumption) (by assumption) rfl (by k_sub) (hv _ rfl)
      | exact one_new (by assumption) (by assumption) (by k_sub) (hv _ (strP (by decide +kernel) (by decide +kernel)))
      | exact one_old (by assumption) (by assumption) rfl (by k_sub) (hv _ (strP (by decide +kernel) (by decide +kernel)))
  clear F2 N2
  refine cut_oneN (Str.ofString "options") (fun v nx => OptP PySem.Challenge.rw_sc0006_01.row.prog w (fun a o => (a, o) ∈ nx) v k) F3 ?_ (fun v nx h' tk hvo F N => ?_)
  · k_steps
    · rename News _ _ _ _ => N'
      exact oneN_new (by assumption) N' (.inr ⟨_, rfl, by assumption, _, _, .head _, by assumption, by unfold OptKvs; rw [if_pos (by omega)]; exact .inr rfl⟩)
    · exact oneN_new (nx := [(od, o)]) (by assumption) (by assumption) (.inl ⟨rfl, by omega⟩)
    · exact oneN_old (nx := [(od, o)]) (by assumption) (by assumption) rfl (.inr ⟨_, rfl, ho, _, _, .head _, hdo, hkv⟩)
  clear F3 N3
  k_steps
  rename Fr _ _ _ _ => F'
  rename News _ _ _ _ => N'
  rename ExR _ _ _ _ _ => hx
  exact hQ _ _ _ _ F'.keep (made_of N') ⟨_, rfl, hx⟩
end Mine

end
theorem Mine.calmExam : True := by
  w_top off
  trivial
section
open PySem PySem.W PySem.Calls PyProof.Rows
namespace Mine
set_option maxRecDepth 100000
theorem inst_keep {h h' : Heap} {x C : Addr} {ox : Obj} {od : Option Obj} (I : InstAt h x ox C od) (k : ∀ b o, h.get? b = some o → h'.get? b = some o) : InstAt h' x ox C od := by
  obtain ⟨a, b, c, d⟩ := I
  refine ⟨k _ _ a, b, c, ?_⟩
  split at d
  · exact k _ _ d
  · trivial
  · exact d.elim
theorem attr_ex {prog : Program} {w : World} {A : Around} {E : Value → Shared → Prop} {s : Shared} {K : Frag} {x C L : Addr} {h₀ : Heap} {m : Str → Option Value} {ox : Obj} {es : List DictEntry} {n : Nat} {name : Str} {v : Value} {expr : Bool} {Q : Value → Shared → Prop} {attr : Option Value}
    (F : Fr h₀ L s.heap m) (X₀ : K.In h₀) (I : InstAt h₀ x ox C (some (W.dictOf es n))) (hl : getL name es = some (some v)) (hv : handedIn v = true) (hg : plainGet K C name = true) (hh : hasDictIn K C = true)
    (ha : findIn K (.ref C) name = some attr) (hn : noGet K attr = true) (h : Q v { s with toks := s.toks + 1 }) :
    wpAny (model prog w) A (getAttr (.ref x) name expr) Q E s := get_own F X₀ (inst_keep I F.keep) hg hh ha hn hl hv h
theorem msg_handed {k : Int} {v : Value} (h : MsgV k v) : handedIn v = true := by
  rcases msg_ways h with ⟨rfl, _⟩ | ⟨⟨_, rfl⟩, _⟩ | ⟨⟨_, rfl⟩, _⟩ <;> rfl
local macro_rules | `(tactic| ktr_unf) => `(tactic| (k_dflt (refine' enter0 ?k1 ?k2 ?k3 ?k4 ?k5 ?k6 ?k7 ?_ ?c1 ?c2 ?c3 ?c4; (case k1 => k_asm); (case k2 => k_asm); (case k3 => k_room); (case k4 => k_is); (case k5 => k_is); (case k6 => first | exact BindsTo.of_eq rfl | exact binds_K (by k_in) rfl (by k_is) rfl rfl rfl | fail "m_enter: args"); (case k7 => exact locs rfl); (case c4 => decide); (case c1 => exact rfl); (case c2 => exact rfl); (case c3 => exact rfl); k_whole; intro L' h' F' N'; (try dsimp only); (try k_fold))))
local macro_rules | `(tactic| walk_at "getAttr ref") => `(tactic| (k_here; k_dflt (refine' attr_ex ?k1 ?k2 ?k3 ?k4 ?k5 ?k6 ?k7 ?k8 ?k9 ?_; (case k1 => k_asm); (case k2 => k_asm); (case k3 => with_reducible assumption); (case k4 => with_reducible assumption); (case k5 => first | with_reducible assumption | rfl); (case k6 => k_is); (case k7 => k_is); (case k8 => k_is); (case k9 => k_is); k_whole)))
set_option maxHeartbeats 8000000 in
theorem parts_spec (w : World) (mg mb : Str → Option Value) (mean : ExcName → Option Value) : ∀ (s : Shared) (Q E : Value → Shared → Prop), 
   X39 w s.heap → T39 mean mg mb s.heap → ∀ (R0 : Addr → Obj → Prop), (∀ a o, R0 a o → s.heap.get? a = some o) → ∀ (a : Addr) (k : Int), ExR PySem.Challenge.rw_sc0006_01.row.prog w R0 a k →
   Post s (fun tl r => FieldsR PySem.Challenge.rw_sc0006_01.row.prog w (fun a o => (a, o) ∈ tl ∨ R0 a o) r k) Q →
   wpAny (M39 w) (Lv 500 2000) (call (.ref 78) [.ref a]) Q E s := by
  unfold X39 T39 M39
  k_fill
  intro s Q E KX T R0 hR0 a k hx hQ
  refine wpAny_call ?_
  obtain ⟨dx, od, es, n, t1, t2, vm, t4, t5, ha, hdx, c1, c2, c3, c4, c5, c6, hm, ho⟩ := hx
  replace ha := hR0 _ _ ha
  replace hdx := hR0 _ _ hdx
  have hI : InstAt s.heap a (instObj 46 dx) 46 (some (W.dictOf es n)) := ⟨ha, rfl, rfl, hdx⟩
  have hvm := msg_handed hm
  ktr_unf
  k_steps
  rename News _ _ _ _ => N'
  rename Fr _ _ _ _ => F'
  exact hQ _ _ _ _ F'.keep (made_of N') ⟨_, _, _, _, _, _, _, rfl, .inl (.head _), hm, ho.mono _ _ fun _ _ h => .inr h⟩
end Mine

end
theorem Mine.calmAttr : True := by
  w_top off
  trivial
section
open PySem PySem.W PySem.Calls PyProof.Rows PySem.Spec
namespace Mine
set_option maxRecDepth 100000
def optB (k1 k2 : Int) : Bool := if k1 > 9 then (if k2 > 9 then (k1 == 11) == (k2 == 11) else false) else decide (¬ k2 > 9)
theorem opt_eq {w : World} {A : Around} {E : Value → Shared → Prop} {s : Shared} {R : Addr → Obj → Prop} {o1 o2 : Addr} {k1 k2 : Int} {Q : Value → Shared → Prop} (hR : ∀ a o, R a o → s.heap.get? a = some o)
    (h1 : OptR PySem.Challenge.rw_sc0006_01.row.prog w R o1 k1) (h2 : OptR PySem.Challenge.rw_sc0006_01.row.prog w R o2 k2) (hu : A.units < cLine) (h : Q (.bool (optB k1 k2)) s) :
    wpAny (model PySem.Challenge.rw_sc0006_01.row.prog w) A (compareOp .Eq (.ref o1) (.ref o2)) Q E s := by
  obtain ⟨l1, b1, ka, r1, d1, e1⟩ := h1
  obtain ⟨l2, b2, kb, r2, d2, e2⟩ := h2
  have D1 := Heap.dictOf_iff.mpr ⟨b1, hR _ _ r1, d1⟩
  have D2 := Heap.dictOf_iff.mpr ⟨b2, hR _ _ r2, d2⟩
  unfold OptKvs at e1 e2
  unfold optB at h
  have bb : ∀ x y : Bool, SeqAt.EqAt A.in1 s (.bool x) (.bool y) (x == y) := fun x y => SeqAt.EqAt.bool_bool x y
  by_cases c1 : k1 > 9
  · by_cases c2 : k2 > 9
    · rw [if_pos c1] at e1 h; rw [if_pos c2] at e2 h
      have e0 : ∀ z : Bool, (z && ((true == true) && true)) = z := by decide
      have e0' : ∀ z : Bool, ((true == true) && (z && true)) = z := by decide
      rcases e1 with rfl | rfl <;> rcases e2 with rfl | rfl
      · exact keq_eq l1 l2 D1 D2 hu (fun _ => .hit (y := .bool (k2 == 11)) rfl (bb _ _) (.hit (y := .bool true) rfl (bb _ _) .nil)) (by simpa using h)
      · exact keq_eq l1 l2 D1 D2 hu (fun _ => .hit (y := .bool (k2 == 11)) rfl (bb _ _) (.hit (y := .bool true) rfl (bb _ _) .nil)) (by simpa using h)
      · exact keq_eq l1 l2 D1 D2 hu (fun _ => .hit (y := .bool true) rfl (bb _ _) (.hit (y := .bool (k2 == 11)) rfl (bb _ _) .nil)) (by simpa using h)
      · exact keq_eq l1 l2 D1 D2 hu (fun _ => .hit (y := .bool true) rfl (bb _ _) (.hit (y := .bool (k2 == 11)) rfl (bb _ _) .nil)) (by simpa using h)
    · rw [if_pos c1] at e1 h; rw [if_neg c2] at e2 h
      subst e2
      rcases e1 with rfl | rfl
      · exact keq_eq (r := true) l1 l2 D1 D2 hu (fun e => nomatch e) (by simpa using h)
      · exact keq_eq (r := true) l1 l2 D1 D2 hu (fun e => nomatch e) (by simpa using h)
  · rw [if_neg c1] at e1 h
    subst e1
    by_cases c2 : k2 > 9
    · rw [if_pos c2] at e2
      rw [decide_eq_false (by simpa using c2)] at h
      rcases e2 with rfl | rfl
      · exact keq_eq (r := true) l1 l2 D1 D2 hu (fun e => nomatch e) (by simpa using h)
      · exact keq_eq (r := true) l1 l2 D1 D2 hu (fun e => nomatch e) (by simpa using h)
    · rw [if_neg c2] at e2
      subst e2
      rw [decide_eq_true c2] at h
      exact keq_eq (r := true) l1 l2 D1 D2 hu (fun _ => .nil) (by simpa using h)
def msgD (k : Int) : PyData := if k = 5 then .str (Str.ofString "e\n") else if k = 4 then .str (Str.ofString "\n") else .none
theorem msg_reads {k : Int} {v : Value} {h : Heap} (hm : MsgV k v) : Reads h v (msgD k) [] := by
  unfold MsgV at hm; unfold msgD
  split at hm
  · obtain ⟨t, rfl⟩ := hm; rw [if_pos (by assumption)]; exact .str _ _
  · rw [if_neg (by assumption)]
    split at hm
    · obtain ⟨t, rfl⟩ := hm; rw [if_pos (by assumption)]; exact .str _ _
    · subst hm; rw [if_neg (by assumption)]; exact .none
theorem msg_flat (k : Int) : (msgD k).canLay0 = true ∧ (msgD k).depth = 0 := by unfold msgD; (repeat' split) <;> exact ⟨by decide +kernel, by decide +kernel⟩
theorem msg_eq {w : World} {A : Around} {E : Value → Shared → Prop} {s : Shared} {k1 k2 : Int} {v1 v2 : Value} {Q : Value → Shared → Prop} (h1 : MsgV k1 v1) (h2 : MsgV k2 v2) (hu : A.units < cLine) (h : Q (.bool (PyData.eqv (msgD k1) (msgD k2))) s) :
    wpAny (model PySem.Challenge.rw_sc0006_01.row.prog w) A (compareOp .Eq v1 v2) Q E s :=
  SeqAt.compareEq_reads (msg_reads h1) (msg_reads h2) (msg_flat k1).1 (msg_flat k2).1 (by rw [(msg_flat k1).2, (msg_flat k2).2]; simpa using hu) h
theorem kinds_same0 : ∀ a : Nat, a < 12 → ∀ b : Nat, b < 12 → ((srcOf a == srcOf b) && (wantOf a == wantOf b) && decide (linOf a = linOf b) && decide (indOf a = indOf b) && optB a b && PyData.eqv (msgD a) (msgD b)) = decide (a = b) := by decide +kernel
theorem kinds_same {a b : Int} (a0 : 0 ≤ a) (a1 : a < 12) (b0 : 0 ≤ b) (b1 : b < 12) : ((srcOf a == srcOf b) && (wantOf a == wantOf b) && decide (linOf a = linOf b) && decide (indOf a = indOf b) && optB a b && PyData.eqv (msgD a) (msgD b)) = decide (a = b) := by
  obtain ⟨x, rfl⟩ := Int.eq_ofNat_of_zero_le a0
  obtain ⟨y, rfl⟩ := Int.eq_ofNat_of_zero_le b0
  have h := kinds_same0 x (by omega) y (by omega)
  rw [h]
  by_cases e : x = y
  · simp [e]
  · simp [e]; omega
theorem end_bool {s : Shared} {Q : Value → Shared → Prop} {x y : Bool} {h' : Heap} {tk : Nat} (hQ : Post s (fun _ r => r = .bool y) Q) (k : ∀ b o, s.heap.get? b = some o → h'.get? b = some o) (e : x = y) : Q (.bool x) { s with heap := h', toks := tk } := hQ _ _ _ [] k (fun _ hp => nomatch hp) (by rw [e])
local macro_rules | `(tactic| ktr_unf) => `(tactic| (k_dflt (refine' enter0 ?k1 ?k2 ?k3 ?k4 ?k5 ?k6 ?k7 ?_ ?c1 ?c2 ?c3 ?c4; (case k1 => k_asm); (case k2 => k_asm); (case k3 => k_room); (case k4 => k_is); (case k5 => k_is); (case k6 => first | exact BindsTo.of_eq rfl | exact binds_K (by k_in) rfl (by k_is) rfl rfl rfl | fail "m_enter: args"); (case k7 => exact locs rfl); (case c4 => decide); (case c1 => exact rfl); (case c2 => exact rfl); (case c3 => exact rfl); k_whole; intro L' h' F' N'; (try dsimp only); (try k_fold))))
local macro_rules | `(tactic| walk_at "getAttr ref") => `(tactic| (k_here; k_dflt (refine' attr_ex ?k1 ?k2 ?k3 ?k4 ?k5 ?k6 ?k7 ?k8 ?k9 ?_; (case k1 => k_asm); (case k2 => k_asm); (case k3 => with_reducible assumption); (case k4 => with_reducible assumption); (case k5 => first | with_reducible assumption | rfl); (case k6 => k_is); (case k7 => k_is); (case k8 => k_is); (case k9 => k_is); k_whole)))
local macro_rules | `(tactic| walk_at "compareOp Eq ref") => `(tactic| (k_here; with_reducible refine' opt_eq ?k1 ?k2 ?k3 ?k4 ?_; (case k2 => assumption); (case k3 => assumption); (case k1 => k_dflt (exact Fr.keep (by k_asm))); (case k4 => k_dflt (exact Nat.le_of_ble_eq_true rfl))))
local macro_rules | `(tactic| walk_at "compareOp Eq") => `(tactic| (k_here; with_reducible refine' msg_eq ?k1 ?k2 ?k3 ?_; (case k1 => assumption); (case k2 => assumption); (case k3 => k_dflt (exact Nat.le_of_ble_eq_true rfl))))
theorem type_ex {prog : Program} {w : World} {A : Around} {E : Value → Shared → Prop} {s : Shared} {x C L : Addr} {h₀ : Heap} {m : Str → Option Value} {ox : Obj} {od : Option Obj} {Q : Value → Shared → Prop}
    (F : Fr h₀ L s.heap m) (I : InstAt h₀ x ox C od) (h : Q (.ref C) s) : wpAny (model prog w) A (call (.type "type") [.ref x]) Q E s := kto_own (inst_keep I F.keep) h
local macro_rules | `(tactic| walk_at "call type:type") => `(tactic| (k_here; with_reducible refine' type_ex ?k1 ?k2 ?_; (case k1 => k_asm); (case k2 => with_reducible assumption)))
set_option maxHeartbeats 8000000 in
theorem eqm_spec (w : World) (mg mb : Str → Option Value) (mean : ExcName → Option Value) : ∀ (s : Shared) (Q E : Value → Shared → Prop), 
   X39 w s.heap → T39 mean mg mb s.heap → ∀ (a b : Addr) (k1 k2 : Int), ExR PySem.Challenge.rw_sc0006_01.row.prog w (fun a o => s.heap.get? a = some o) a k1 → ExR PySem.Challenge.rw_sc0006_01.row.prog w (fun a o => s.heap.get? a = some o) b k2 →
   0 ≤ k1 → k1 < 12 → 0 ≤ k2 → k2 < 12 → Post s (fun _ r => r = .bool (decide (k1 = k2))) Q →
   wpAny (M39 w) (Lv 500 2000) (call (.ref 36) [.ref a, .ref b]) Q E s := by
  unfold X39 T39 M39
  k_fill
  intro s Q E KX T a b k1 k2 hx hy a0 a1 b0 b1 hQ
  rw [← kinds_same a0 a1 b0 b1] at hQ
  refine wpAny_call ?_
  obtain ⟨dx, od, es, n, t1, t2, vm, t4, t5, ha, hdx, c1, c2, c3, c4, c5, c6, hm, ho⟩ := hx
  have hI : InstAt s.heap a (instObj 46 dx) 46 (some (W.dictOf es n)) := ⟨ha, rfl, rfl, hdx⟩
  have hvm := msg_handed hm
  obtain ⟨dx', od', es', n', t1', t2', vm', t4', t5', ha', hdx', c1', c2', c3', c4', c5', c6', hm', ho'⟩ := hy
  have hI' : InstAt s.heap b (instObj 46 dx') 46 (some (W.dictOf es' n')) := ⟨ha', rfl, rfl, hdx'⟩
  have hvm' := msg_handed hm'
  ktr_unf
  k_steps
  all_goals (rename Fr _ _ _ _ => F')
  all_goals dsimp only
  all_goals (refine end_bool hQ F'.keep ?_)
  all_goals simp [*]
end Mine

end
theorem Mine.calmEqX : True := by
  w_top off
  trivial
section
open PySem PySem.W PySem.Calls PyProof.Rows PySem.Spec
namespace Mine
set_option maxRecDepth 100000
section
variable {w : World} {mg mb : Str → Option Value} {mean : ExcName → Option Value} {A : Around} {s : Shared} {E : Value → Shared → Prop} {h₀ : Heap} {L : Addr} {m : Str → Option Value}
/-- == of two Examples -/
theorem rc_spec (w : World) (mg mb : Str → Option Value) (mean : ExcName → Option Value) : ∀ (A : Around) (s : Shared) (E Q : Value → Shared → Prop) (h₀ : Heap) (L : Addr) (m : Str → Option Value) (a b : Addr) (k1 k2 : Int),
    Fr h₀ L s.heap m → X39 w h₀ → T39 mean mg mb h₀ →
    ExR PySem.Challenge.rw_sc0006_01.row.prog w (fun a o => s.heap.get? a = some o) a k1 → ExR PySem.Challenge.rw_sc0006_01.row.prog w (fun a o => s.heap.get? a = some o) b k2 →
    0 ≤ k1 → k1 < 12 → 0 ≤ k2 → k2 < 12 → A.handled = none → A.depth ≤ 500 → A.units ≤ 2000 →
    (∀ h' tk, (∀ b o, s.heap.get? b = some o → h'.get? b = some o) → Q (.bool (decide (k1 = k2))) { s with heap := h', toks := tk }) →
    wpAny (M39 w) A (richCompare .Eq (.ref a) (.ref b)) Q E s := by
  unfold X39 T39 M39
  k_fill
  intro A s E Q h₀ L m a b k1 k2 F KX T hx hy a0 a1 b0 b1 hh hd hu h
  obtain ⟨dx, od, es, n, t1, t2, vm, t4, t5, ha, hdx, _⟩ := id hx
  obtain ⟨dx', od', es', n', t1', t2', vm', t4', t5', ha', hdx', _⟩ := id hy
  have hI : InstAt s.heap a (instObj 46 dx) 46 (some (W.dictOf es n)) := ⟨ha, rfl, rfl, hdx⟩
  have hI' : InstAt s.heap b (instObj 46 dx') 46 (some (W.dictOf es' n')) := ⟨ha', rfl, rfl, hdx'⟩
  have hs : findIn (Mine.hd.heap_39 w.params) (.ref 46) "__eq__" = some (some (.ref 36)) := by k_is
  have hf : isFn (Mine.hd.heap_39 w.params) (.ref 36) = true := by k_is
  have hn : notFirst (Mine.hd.heap_39 w.params) 46 (.ref 46) = true := by k_is
  refine cmp_K (op := .Eq) (Nat.lt_of_le_of_lt hu (by decide)) F KX hI (InstAt.type hI') hn hs hf ?_
  refine at_lv (d := 500) (u := 2000) (eqm_spec w mg mb mean s _ _ (KX.keeps F.keep) (T.keeps F.keep) a b k1 k2 hx hy a0 a1 b0 b1 ?_) hh hd hu
  rintro r h' tk tl kp hM rfl
  exact h h' tk kp
theorem eqx_use {a b : Addr} {k1 k2 : Int} {Q : Value → Shared → Prop} {news : List (Addr × Obj)} (F : Fr h₀ L s.heap m) (N : News h₀ L s.heap news) (KX : (Mine.hd.heap_39 w.params).In h₀) (T : Top Mine.hd.view_39 (looseW Mine.hd.view_39 []) mean mg mb h₀)
    (hx : ExR PySem.Challenge.rw_sc0006_01.row.prog w (fun a o => s.heap.get? a = some o) a k1) (hy : ExR PySem.Challenge.rw_sc0006_01.row.prog w (fun a o => s.heap.get? a = some o) b k2)
    (a0 : 0 ≤ k1 ∧ k1 < 12) (b0 : 0 ≤ k2 ∧ k2 < 12) (hh : A.handled = none) (hd : A.depth ≤ 500) (hu : A.units ≤ 2000)
    (h : ∀ h' tk, Fr h₀ L h' m → News h₀ L h' news → (∀ b o, s.heap.get? b = some o → h'.get? b = some o) → Q (.bool (decide (k1 = k2))) { s with heap := h', toks := tk }) :
    wpAny (model PySem.Challenge.rw_sc0006_01.row.prog w) A (compareOp .Eq (.ref a) (.ref b)) Q E s :=
  cmp_ofEq (rc_spec w mg mb mean A s E Q h₀ L m a b k1 k2 F KX T hx hy a0.1 a0.2 b0.1 b0.2 hh hd hu fun h' tk kp => h h' tk (F.keeps kp) (N.grown kp) kp)
end

section
variable {prog : Program} {w : World}
def EqT (prog : Program) (w : World) (A : Around) (h₀ : Heap) (y x : Value) : Prop := ∀ (E : Value → Shared → Prop) (Q : Bool → Shared → Prop) (s : Shared), (∀ b o, h₀.get? b = some o → s.heap.get? b = some o) →
  (∀ h' tk, (∀ b o, s.heap.get? b = some o → h'.get? b = some o) → Q true { s with heap := h', toks := tk }) → wpAny (model prog w) A (eqBool y x) Q E s
end
section
open PySem.MeetsSeq PySem.MeetsSeq2 PySem.MeetsSeq3 PySem.SeqRoads2 PySem.SeqAt
theorem mine_eq_loop {prog : Program} {w : World} {A : Around} {R : Result → Shared → Prop} (l b : Addr) (items items2 : Array Value) (n n2 : Nat) (dd dd2 : Option Addr) (sl sl2 : Array (Option Value)) (hsz : items.size = items2.size) (h₀ : Heap)
    (he : ∀ j (h1 : j < items.size) (h2 : j < items2.size), EqT prog w A.in1 h₀ items[j] items2[j]) (k : Nat) :
    ∀ (i : Nat) (s : Shared), items.size - i = k → s.heap.get? l = some { cls := .type "list", dict := dd, data := .seq items n, slots := sl } → s.heap.get? b = some { cls := .type "list", dict := dd2, data := .seq items2 n2, slots := sl2 } →
      (∀ b o, h₀.get? b = some o → s.heap.get? b = some o) → (∀ h' tk, (∀ b o, s.heap.get? b = some o → h'.get? b = some o) → R (.ok (.ret (.bool true))) { s with heap := h', toks := tk }) →
      wpAny (model prog w) A.in1 (Builtin.«list.__eq__.loop» ⟨[.ref l, .ref b, rawInt i, rawInt 2], []⟩) (fun fin s' => match fin with | .done f => R (.ok f) s' | .again c' => c'.quiet = true ∧ codeAny (model prog w) A c' R s') (fun e s' => R (.error e) s') s := by
  induction k with
  | zero =>
    intro i s hk hl hb hkp h
    obtain ⟨hp, g, d, tk, os⟩ := s
    wp_walk using PySem.AutoSeq1.wpAny_loadPart' hl, PySem.AutoSeq1.wpAny_loadPart' hb
    have hi1 : items[((i : Nat) : Int).toNat]? = none := by simp; omega
    have hi2 : items2[((i : Nat) : Int).toNat]? = none := by simp; omega
    rw [hi1, hi2]
    wp_walk using PySem.AutoSeq1.wpAny_loadPart' hl, PySem.AutoSeq1.wpAny_loadPart' hb
    show R (.ok (.ret (.bool (items.size == items2.size)))) _
    rw [hsz]
    simpa using h hp tk fun _ _ e => e
  | succ k ih =>
    intro i s hk hl hb hkp h
    obtain ⟨hp, g, d, tk, os⟩ := s
    wp_walk using PySem.AutoSeq1.wpAny_loadPart' hl, PySem.AutoSeq1.wpAny_loadPart' hb
    have hlt : i < items.size := by omega
    have hlt2 : i < items2.size := by omega
    have hi1 : items[((i : Nat) : Int).toNat]? = some items[i] := by simp [hlt]
    have hi2 : items2[((i : Nat) : Int).toNat]? = some items2[i] := by simp [hlt2]
    have hc : ((i : Int) + 1) = ((i + 1 : Nat) : Int) := by push_cast; rfl
    rw [hi1, hi2]
    refine wpAny_bind (he i hlt hlt2 _ _ _ hkp fun h' tk' kp' => ?_)
    wp_walk
    rw [hc]
    exact ⟨plainId_quiet plain_eq_loop _, codeAny_builtin entry_eq_loop (by
      rw [Around.under_plainId plain_eq_loop _]
      exact ih (i + 1) ⟨h', g, d, tk', os⟩ (by omega) (kp' _ _ hl) (kp' _ _ hb) (fun b o e => kp' _ _ (hkp b o e)) fun h'' tk'' kp'' => h h'' tk'' fun b o e => kp'' _ _ (kp' _ _ e))⟩
theorem mine_list_eq {prog : Program} {w : World} {A : Around} {Q E : Value → Shared → Prop} {s : Shared} {l b : Addr} {items items2 : Array Value} (hl : s.heap.IsList l items) (hb : s.heap.IsList b items2) (hsz : items.size = items2.size) (hu : A.units < cLine)
    (he : ∀ j (h1 : j < items.size) (h2 : j < items2.size), EqT prog w A.in1 s.heap items[j] items2[j])
    (h : ∀ h' tk, (∀ b o, s.heap.get? b = some o → h'.get? b = some o) → Q (.bool true) { s with heap := h', toks := tk }) :
    wpAny (model prog w) A (compareOp .Eq (.ref l) (.ref b)) Q E s := by
  obtain ⟨⟨cls, dd, data, sl⟩, ho, hc, n, hd⟩ := id hl
  obtain ⟨⟨cls2, dd2, data2, sl2⟩, ho2, hc2, n2, hd2⟩ := id hb
  simp only at hc hd hc2 hd2
  subst hc hd hc2 hd2
  refine cmp_ofEq (wpAny_richCompare_same_room (op := .Eq) hl.typeIs hb.typeIs F.slot_list_eq ?_ hu)
  refine wpAny_call (codeAny_call_builtin F.slot_list_eq.plain F.entry_list_eq (F.slot_list_eq.check _ _ _ _ _ _ _ _ hl.typeIs (F.args_list_eq_2 _ _) ?_))
  obtain ⟨hp, g, d, tk, os⟩ := s
  have f3 := PySem.AutoSeq1.sub_list_list
  have hne : ¬ (items.size != items2.size) = true := by simp [hsz]
  wp_walk using PySem.AutoSeq1.wpAny_loadPart' ho, PySem.AutoSeq1.wpAny_loadPart' ho2
  exact ⟨plainId_quiet plain_eq_loop _, codeAny_builtin entry_eq_loop (by
    rw [Around.under_plainId plain_eq_loop _]
    exact mine_eq_loop (R := wants (fun v s' => v ≠ .notImplemented ∧ Q v s') E) l b items items2 n n2 dd dd2 sl sl2 hsz hp he _ 0 _ rfl ho ho2 (fun _ _ e => e) fun h' tk' kp => ⟨(fun x => nomatch x), h h' tk' kp⟩)⟩
end
section
variable (prog : Program) (w : World)
/-- a row of Examples of these kinds -/
inductive AllEx (R : Addr → Obj → Prop) : List Value → List Int → Prop
  | nil : AllEx R [] []
  | cons {a : Addr} {k : Int} {vs : List Value} {ks : List Int} : ExR prog w R a k → 0 ≤ k ∧ k < 12 → AllEx R vs ks → AllEx R (.ref a :: vs) (k :: ks)
variable {prog w}
theorem AllEx.mono {R R' : Addr → Obj → Prop} (hR : ∀ a o, R a o → R' a o) {vs : List Value} {ks : List Int} (h : AllEx prog w R vs ks) : AllEx prog w R' vs ks := by
  induction h with
  | nil => exact .nil
  | cons hx hk _ ih => exact .cons (hx.mono _ _ hR) hk ih
theorem AllEx.length {R : Addr → Obj → Prop} {vs : List Value} {ks : List Int} (h : AllEx prog w R vs ks) : vs.length = ks.length := by
  induction h with
  | nil => rfl
  | cons _ _ _ ih => simp [ih]
theorem AllEx.at {R : Addr → Obj → Prop} {vs : List Value} {ks : List Int} (h : AllEx prog w R vs ks) : ∀ (i : Nat) (v : Value), vs[i]? = some v → ∃ a k, v = .ref a ∧ ks[i]? = some k ∧ ExR prog w R a k ∧ 0 ≤ k ∧ k < 12 := by
  induction h with
  | nil => intro i v hv; simp at hv
  | cons hx hk _ ih =>
    intro i v hv
    cases i with
    | zero => simp at hv; exact ⟨_, _, hv.symm, by simp, hx, hk⟩
    | succ i => simpa using ih i v (by simpa using hv)
theorem AllEx.append {R : Addr → Obj → Prop} {vs us : List Value} {ks js : List Int} (h : AllEx prog w R vs ks) (g : AllEx prog w R us js) : AllEx prog w R (vs ++ us) (ks ++ js) := by
  induction h with
  | nil => exact g
  | cons hx hk _ ih => exact .cons hx hk ih
theorem AllEx.take {R : Addr → Obj → Prop} {vs : List Value} {ks : List Int} (h : AllEx prog w R vs ks) : ∀ n, AllEx prog w R (vs.take n) (ks.take n) := by
  induction h with
  | nil => intro n; simpa using .nil
  | cons hx hk _ ih =>
    intro n
    cases n with
    | zero => exact .nil
    | succ n => exact .cons hx hk (ih n)
theorem AllEx.drop {R : Addr → Obj → Prop} {vs : List Value} {ks : List Int} (h : AllEx prog w R vs ks) : ∀ n, AllEx prog w R (vs.drop n) (ks.drop n) := by
  induction h with
  | nil => intro n; simpa using .nil
  | cons hx hk h ih =>
    intro n
    cases n with
    | zero => exact .cons hx hk h
    | succ n => exact ih n
theorem AllEx.refs {R : Addr → Obj → Prop} {vs : List Value} {ks : List Int} (h : AllEx prog w R vs ks) : ∀ v ∈ vs, ∃ a, v = .ref a := by
  intro v hv
  obtain ⟨i, hi⟩ := List.getElem?_of_mem hv
  obtain ⟨a, k, e, _⟩ := h.at i v hi
  exact ⟨a, e⟩
end
section
variable {w : World} {mg mb : Str → Option Value} {mean : ExcName → Option Value} {A : Around} {s : Shared} {E : Value → Shared → Prop} {h₀ : Heap} {L : Addr} {m : Str → Option Value}
theorem rows_eq {l b : Addr} {vs us : List Value} {ks : List Int} {Q : Value → Shared → Prop} {news : List (Addr × Obj)} (F : Fr h₀ L s.heap m) (N : News h₀ L s.heap news) (KX : (Mine.hd.heap_39 w.params).In h₀) (T : Top Mine.hd.view_39 (looseW Mine.hd.view_39 []) mean mg mb h₀)
    (hl : s.heap.IsList l vs.toArray) (hb : s.heap.IsList b us.toArray) (hx : AllEx PySem.Challenge.rw_sc0006_01.row.prog w (fun a o => s.heap.get? a = some o) vs ks) (hy : AllEx PySem.Challenge.rw_sc0006_01.row.prog w (fun a o => s.heap.get? a = some o) us ks)
    (hh : A.handled = none) (hd : A.depth ≤ 500) (hu : A.units ≤ 1900)
    (h : ∀ h' tk, Fr h₀ L h' m → News h₀ L h' news → (∀ b o, s.heap.get? b = some o → h'.get? b = some o) → Q (.bool true) { s with heap := h', toks := tk }) :
    wpAny (model PySem.Challenge.rw_sc0006_01.row.prog w) A (compareOp .Eq (.ref l) (.ref b)) Q E s := by
  refine mine_list_eq hl hb (by simp [hx.length, hy.length]) (Nat.lt_of_le_of_lt hu (by decide)) (fun j h1 h2 => ?_) fun h' tk kp => h h' tk (F.keeps kp) (N.grown kp) kp
  obtain ⟨a, k, e1, hk1, x1, b1⟩ := hx.at j vs.toArray[j] (by simp at h1 ⊢)
  obtain ⟨a', k', e2, hk2, x2, b2⟩ := hy.at j us.toArray[j] (by simp at h2 ⊢)
  rw [hk1] at hk2
  cases hk2
  rw [e1, e2]
  intro E' Q' s' kp' hq
  unfold eqBool
  refine wpAny_holding ?_
  refine wpAny_ite_split (fun _ => wpAny_bind (wpAny_rule (wpAny_pure (hq s'.heap s'.toks fun _ _ e => e)))) fun _ => ?_
  refine wpAny_bind (rc_spec w mg mb mean _ s' _ _ h₀ L m a a' k k (F.keeps kp') KX T (x1.mono _ _ fun a o e => kp' _ _ e) (x2.mono _ _ fun a o e => kp' _ _ e) b1.1 b1.2 b2.1 b2.2 hh hd (Nat.succ_le_succ (Nat.le_trans hu (by decide))) fun h' tk kp => ?_)
  rw [decide_eq_true rfl]
  exact wpAny_truthy_bool (hq h' tk kp)
end
end Mine

end
section
open PySem PySem.W PySem.Calls PySem.Spec PyProof.Rows PyProof.V
namespace Mine
set_option maxRecDepth 100000
section
variable {prog : Program} {w : World} {A : Around} {E : Value → Shared → Prop} {s : Shared} {env : Env} {h₀ : Heap} {x : Str} {body : List Stmt} {Q : Flow → Shared → Prop}
def IterAt (prog : Program) (w : World) (A : Around) (h₀ : Heap) (env : Env) (x : Str) (body : List Stmt) (Q : Flow → Shared → Prop) (E : Value → Shared → Prop) (xv : Value) (s₁ : Shared) : Prop :=
  wpAny (model prog w) A (pyIter xv) (fun it s₂ => LoopAtV prog w A h₀ env x body Q E it s₂) E s₁
theorem For_stop {m : Str → Option Value} {px pos : Pos} {iter : Expr} (_F : Fr h₀ env.locals s.heap m) (hx : env.kindOf x = some .local)
    (hp : (env.scope.kind == .class || (env.scope.kind == .module && env.locals != env.globals)) = false)
    (h : wpAny (model prog w) A (eval iter env) (fun xv s₁ => IterAt prog w A h₀ env x body Q E xv s₁) E s)
    (hs : ∀ x, foldedSetIterable iter env x = pure x := by intro _; rfl)
    (hE : PassesOwn (model prog w) A env E := by passes_own) :
    wpAny (model prog w) A (exec (.For (.Name x px) iter body [] pos) env) Q E s := For_invV h₀ hx hp h hs
theorem upd_as {m : Str → Option Value} {x : Str} {v : Value} (h : m x = some v) : m = fun y => if y = x then some v else m y := (upd_same h).symm
/-- what stands at the end of a turn -/
def Turn (h₀ : Heap) (L I : Addr) (own : List (Addr × Obj)) (J : (Str → Option Value) → List (Addr × Obj) → Prop) (s₁ s' : Shared) : Prop :=
  ∃ h' tk m₂ nx, s' = { s₁ with heap := h', toks := tk } ∧ Fr h₀ L h' m₂ ∧ News h₀ L h' (nx ++ own) ∧ (∀ q ∈ nx, q.1 ≠ I) ∧ J m₂ nx

theorem loop_W {I : Addr} {fp : List Addr} {n : Nat} {P : Nat → Value → Prop} {St : Nat → Heap → Prop} {m₀ : Str → Option Value} {news : List (Addr × Obj)} (J : Nat → (Str → Option Value) → List (Addr × Obj) → Prop) (ow : Obj → List (Addr × Obj))
    (W : Walks prog w A I fp [I] n P St) (hLf : env.locals ∉ fp) (hI₀ : h₀.get? I = none) (hnw : ∀ p ∈ news, p.1 ≠ I) (hst : St 0 s.heap) (hSt : ∀ i h, St i h → ∃ oI, h.get? I = some oI)
    (F : Fr h₀ env.locals s.heap m₀) (N : News h₀ env.locals s.heap news) (hj : J 0 m₀ news)
    (how : ∀ (i : Nat) (h : Heap) (oI : Obj) (own nx : List (Addr × Obj)) (m : Str → Option Value), J i m nx → News h₀ env.locals h (own ++ nx) → St (i + 1) h → h.get? I = some oI → (∀ p ∈ own, p.1 ∈ fp) → (∀ p ∈ own, h.get? p.1 = some p.2 ∧ h₀.get? p.1 = none) → (∀ b ∈ fp, h₀.get? b = none → ∀ o, h.get? b = some o → (b, o) ∈ own) → (∀ p ∈ ow oI, p ∈ own) ∧ ∀ p ∈ own, p ∈ ow oI)
    (turn : ∀ i v m₁ nx h tk oI, i < n → P i v → (∀ q ∈ nx, q.1 ≠ I) → J i m₁ nx → Fr h₀ env.locals h (fun y => if y = x then some v else m₁ y) → News h₀ env.locals h (nx ++ ow oI) →
      wpAny (model prog w) A (execs body env) (Cut (Turn h₀ env.locals I (ow oI) (J (i + 1)) { s with heap := h, toks := tk })) E { s with heap := h, toks := tk })
    (done : ∀ m₁ nx h tk, J n m₁ nx → Fr h₀ env.locals h m₁ → News h₀ env.locals h nx → Q .next { s with heap := h, toks := tk }) :
    LoopAtV prog w A h₀ env x body Q E (.ref I) s := by
  refine ⟨I, fp, [I], n, P, St, m₀, news, J, rfl, W, hLf, fun b hb => by rw [List.mem_singleton.mp hb]; exact hI₀, fun p hp hI => hnw p hp (List.mem_singleton.mp hI), hst, F, N, hj, ?_, ?_⟩
  · rintro i v m₁ nx s₁ own ⟨hh', tk', rfl⟩ hin hP hJ hoff hown hget hmem hst' F₁ N₁
    obtain ⟨oI, hoI⟩ := hSt _ _ hst'
    obtain ⟨w1, w2⟩ := how i hh' oI own nx m₁ hJ N₁ hst' hoI hown (fun p hp => ⟨hget p hp, (N₁ p (List.mem_append_left _ hp)).2.2⟩) hmem
    refine wpAny_mono (turn i v m₁ nx hh' tk' oI hin hP (fun q hq e => hoff q hq (by rw [e]; exact .head _)) hJ F₁ (fun p hp => N₁ p ((List.mem_append.mp hp).elim (fun h => List.mem_append.mpr (.inr h)) fun h => List.mem_append.mpr (.inl (w1 p h))))) (fun f s₂ c => ?_) fun _ _ e => e
    obtain ⟨rfl, h', tk, m₂, nx₂, e, F', N', hne, hJ'⟩ := c
    exact .next ⟨rfl, h', tk, m₂, nx₂, e, F', fun p hp => N' p ((List.mem_append.mp hp).elim (fun h => List.mem_append.mpr (.inr (w2 p h))) fun h => List.mem_append.mpr (.inl h)), fun p hp hq => hne p hp (List.mem_singleton.mp hq), hJ'⟩
  · rintro h' tk m' nx F' N' _ hJ
    exact done m' nx h' tk hJ F' N'

/-- over a list that stood before the call -/
theorem for_base {l : Addr} {its : Array Value} {m₀ : Str → Option Value} {news : List (Addr × Obj)} (J : Nat → (Str → Option Value) → List (Addr × Obj) → Prop)
    (hh : A.handled = none) (hl : h₀.IsList l its) (F : Fr h₀ env.locals s.heap m₀) (N : News h₀ env.locals s.heap news) (hj : J 0 m₀ news)
    (turn : ∀ i v m₁ nx h tk I oI, its[i]? = some v → (∀ q ∈ nx, q.1 ≠ I) → J i m₁ nx → Fr h₀ env.locals h (fun y => if y = x then some v else m₁ y) → News h₀ env.locals h (nx ++ [(I, oI)]) →
      wpAny (model prog w) A (execs body env) (Cut (Turn h₀ env.locals I [(I, oI)] (J (i + 1)) { s with heap := h, toks := tk })) E { s with heap := h, toks := tk })
    (done : ∀ m₁ nx h tk, J its.size m₁ nx → Fr h₀ env.locals h m₁ → News h₀ env.locals h nx → Q .next { s with heap := h, toks := tk }) :
    wpAny (model prog w) A (pyIter (.ref l)) (fun it s₂ => LoopAtV prog w A h₀ env x body Q E it s₂) E s := by
  have hls : s.heap.IsList l its := hl.at fun o e => F.keep l o e
  obtain ⟨ol, hol, _⟩ := id hl
  have hlt : l < h₀.objs.size := Heap.lt_size hol
  have hne : l ≠ s.heap.objs.size := Nat.ne_of_lt (Nat.lt_trans (Nat.lt_of_lt_of_le hlt F.above) F.ns.lt)
  refine wpAny_pyIter_list hls ?_
  refine loop_W J (fun oI => [(s.heap.objs.size, oI)]) (Walks.list (prog := prog) (w := w) hh s.heap.objs.size l hne its) ?_ (next_is_new F) (fun p hp => Nat.ne_of_lt (Heap.lt_size (N p hp).1)) ⟨⟨_, Heap.get?_push_size _ rfl, rfl, rfl⟩, hls.at fun o e => Heap.get?_push_of_some _ e⟩
    (fun i h st => by obtain ⟨o, e, _⟩ := st.1; exact ⟨o, e⟩) (F.push _) (fun p hp => ⟨Heap.get?_push_of_some _ (N p hp).1, (N p hp).2⟩) hj ?_ (fun i v m₁ nx h tk oI _ hP => turn i v m₁ nx h tk _ oI hP) done
  · intro hm
    rcases List.mem_cons.mp hm with e | hm
    · exact absurd F.ns.lt (e ▸ Nat.lt_irrefl _)
    · exact absurd (Nat.lt_of_lt_of_le hlt F.above) ((List.mem_singleton.mp hm) ▸ Nat.lt_irrefl _)
  · intro i h oI own nx m₁ hJ N₁ st hoI hfp hget hmem
    refine ⟨fun p hp => ?_, fun p hp => ?_⟩
    · rw [List.mem_singleton.mp hp]; exact hmem _ (.head _) (next_is_new F) _ hoI
    · obtain ⟨a, o⟩ := p
      rcases List.mem_cons.mp (hfp _ hp) with e | e
      · have e' : a = s.heap.objs.size := e
        subst e'
        have h1 := (hget _ hp).1
        have h2 : some oI = some o := hoI.symm.trans h1
        cases h2; exact .head _
      · have e' : a = l := List.mem_singleton.mp e
        subst e'
        have h1 := (hget _ hp).2
        have h2 : h₀.get? a = none := h1
        rw [hol] at h2; cases h2

/-- over a list of the ledger -/
theorem for_led {l : Addr} {its : Array Value} {nn : Nat} {m₀ : Str → Option Value} {news₀ news : List (Addr × Obj)} (J : Nat → (Str → Option Value) → List (Addr × Obj) → Prop)
    (hh : A.handled = none) (hl : (l, W.listOf its nn) ∈ news₀) (F : Fr h₀ env.locals s.heap m₀) (N₀ : News h₀ env.locals s.heap news₀) (hn : ∀ p ∈ news, p ∈ news₀) (hj : J 0 m₀ news)
    (turn : ∀ i v m₁ nx h tk I oI, its[i]? = some v → (∀ q ∈ nx, q.1 ≠ I) → J i m₁ nx → Fr h₀ env.locals h (fun y => if y = x then some v else m₁ y) → News h₀ env.locals h (nx ++ [(I, oI), (l, W.listOf its nn)]) →
      wpAny (model prog w) A (execs body env) (Cut (Turn h₀ env.locals I [(I, oI), (l, W.listOf its nn)] (J (i + 1)) { s with heap := h, toks := tk })) E { s with heap := h, toks := tk })
    (done : ∀ m₁ nx h tk, J its.size m₁ nx → Fr h₀ env.locals h m₁ → News h₀ env.locals h nx → Q .next { s with heap := h, toks := tk }) :
    wpAny (model prog w) A (pyIter (.ref l)) (fun it s₂ => LoopAtV prog w A h₀ env x body Q E it s₂) E s := by
  have hol : s.heap.get? l = some (W.listOf its nn) := (N₀ _ hl).1
  have hl₀ : h₀.get? l = none := (N₀ _ hl).2.2
  have N : News h₀ env.locals s.heap ((l, W.listOf its nn) :: news) := fun p hp => by
    rcases List.mem_cons.mp hp with rfl | hp
    · exact N₀ _ hl
    · exact N₀ _ (hn _ hp)
  have hls : s.heap.IsList l its := ⟨_, hol, rfl, nn, rfl⟩
  have hne : l ≠ s.heap.objs.size := Nat.ne_of_lt (Heap.lt_size hol)
  refine wpAny_pyIter_list hls ?_
  refine loop_W (fun i m nx => ∃ nx₀, nx = (l, W.listOf its nn) :: nx₀ ∧ J i m nx₀) (fun oI => [(s.heap.objs.size, oI), (l, W.listOf its nn)]) (Walks.list (prog := prog) (w := w) hh s.heap.objs.size l hne its) ?_ (next_is_new F) (fun p hp => Nat.ne_of_lt (Heap.lt_size (N p hp).1)) ⟨⟨_, Heap.get?_push_size _ rfl, rfl, rfl⟩, hls.at fun o e => Heap.get?_push_of_some _ e⟩
    (fun i h st => by obtain ⟨o, e, _⟩ := st.1; exact ⟨o, e⟩) (F.push _) (fun p hp => ⟨Heap.get?_push_of_some _ (N p hp).1, (N p hp).2⟩) ⟨_, rfl, hj⟩ ?_ ?_ ?_
  · intro hm
    rcases List.mem_cons.mp hm with e | hm
    · exact absurd F.ns.lt (e ▸ Nat.lt_irrefl _)
    · exact (N₀ _ hl).2.1 ((List.mem_singleton.mp hm).symm)
  · rintro i h oI own nx m₁ ⟨nx₀, rfl, _⟩ N₁ st hoI hfp hget hmem
    have hlo : h.get? l = some (W.listOf its nn) := (N₁ (l, W.listOf its nn) (List.mem_append_right _ (.head _))).1
    refine ⟨fun p hp => ?_, fun p hp => ?_⟩
    · rcases List.mem_cons.mp hp with rfl | hp
      · exact hmem _ (.head _) (next_is_new F) _ hoI
      · rw [List.mem_singleton.mp hp]
        exact hmem _ (.tail _ (.head _)) hl₀ _ hlo
    · obtain ⟨a, o⟩ := p
      rcases List.mem_cons.mp (hfp _ hp) with e | e
      · have e' : a = s.heap.objs.size := e
        subst e'
        have h1 := (hget _ hp).1
        have h2 : some oI = some o := hoI.symm.trans h1
        cases h2; exact .head _
      · have e' : a = l := List.mem_singleton.mp e
        subst e'
        have h1 := (hget _ hp).1
        have h2 : some (W.listOf its nn) = some o := hlo.symm.trans h1
        cases h2; exact .tail _ (.head _)
  · rintro i v m₁ nx h tk oI _ hP hoff ⟨nx₀, rfl, hJ⟩ F₁ N₁
    refine wpAny_mono (turn i v m₁ nx₀ h tk _ oI hP (fun q hq => hoff q (.tail _ hq)) hJ F₁ (fun p hp => N₁ p (.tail _ hp))) (fun f s₂ c => ?_) fun _ _ e => e
    obtain ⟨rfl, h', tk', m₂, nx₂, e, F', N', hne', hJ'⟩ := c
    refine ⟨rfl, h', tk', m₂, (l, W.listOf its nn) :: nx₂, e, F', fun p hp => ?_, fun q hq => ?_, nx₂, rfl, hJ'⟩
    · rcases List.mem_cons.mp hp with rfl | hp
      · exact N' _ (List.mem_append_right _ (.tail _ (.head _)))
      · exact N' p hp
    · rcases List.mem_cons.mp hq with rfl | hq
      · exact hne
      · exact hne' q hq
  · rintro m₁ nx h tk ⟨nx₀, rfl, hJ⟩ F₁ N₁
    exact done m₁ nx₀ h tk hJ F₁ fun p hp => N₁ p (.tail _ hp)

/-- over a range -/
theorem for_range {r : Addr} {a b c : Int} {t u v : Tok} {n : Nat} {m₀ : Str → Option Value} {news : List (Addr × Obj)} (J : Nat → (Str → Option Value) → List (Addr × Obj) → Prop)
    (hh : A.handled = none) (hr : IsRange s.heap r a b c t u v) (hsmall : Builtin.Range.small a b c = true) (hn : Builtin.Range.rangeSize a b c = (n : Int)) (F : Fr h₀ env.locals s.heap m₀) (N : News h₀ env.locals s.heap news) (hj : J 0 m₀ news)
    (turn : ∀ i m₁ nx h tk t I oI, i < n → (∀ q ∈ nx, q.1 ≠ I) → J i m₁ nx → Fr h₀ env.locals h (fun y => if y = x then some (.int (a + (i : Nat) * c) t) else m₁ y) → News h₀ env.locals h (nx ++ [(I, oI)]) →
      wpAny (model prog w) A (execs body env) (Cut (Turn h₀ env.locals I [(I, oI)] (J (i + 1)) { s with heap := h, toks := tk })) E { s with heap := h, toks := tk })
    (done : ∀ m₁ nx h tk, J n m₁ nx → Fr h₀ env.locals h m₁ → News h₀ env.locals h nx → Q .next { s with heap := h, toks := tk }) :
    wpAny (model prog w) A (pyIter (.ref r)) (fun it s₂ => LoopAtV prog w A h₀ env x body Q E it s₂) E s := by
  refine wpAny_pyIter_range hr hsmall ?_
  refine loop_W J (fun oI => [(s.heap.objs.size, oI)]) (Walks.range (prog := prog) (w := w) hh s.heap.objs.size a c n) ?_ (next_is_new F) (fun p hp => Nat.ne_of_lt (Heap.lt_size (N p hp).1)) (by show IsRangeIter _ _ _ _ _; rw [hn]; simpa using Heap.get?_push_size _ rfl)
    (fun i h st => ⟨_, st⟩) (F.push _) (fun p hp => ⟨Heap.get?_push_of_some _ (N p hp).1, (N p hp).2⟩) hj ?_ ?_ done
  · intro hm
    exact absurd F.ns.lt ((List.mem_singleton.mp hm) ▸ Nat.lt_irrefl _)
  · intro i h oI own nx m₁ hJ N₁ st hoI hfp hget hmem
    refine ⟨fun p hp => ?_, fun p hp => ?_⟩
    · rw [List.mem_singleton.mp hp]; exact hmem _ (.head _) (next_is_new F) _ hoI
    · obtain ⟨a, o⟩ := p
      have e' : a = s.heap.objs.size := List.mem_singleton.mp (hfp _ hp)
      subst e'
      have h1 := (hget _ hp).1
      have h2 : some oI = some o := hoI.symm.trans h1
      cases h2; exact .head _
  · rintro i v m₁ nx h tk oI hi ⟨t, rfl⟩ hoff hJ F₁ N₁
    exact turn i m₁ nx h tk t _ oI hi hoff hJ F₁ N₁
end
end Mine

end
section
open PySem PySem.W PySem.Calls PyProof.Rows
namespace Mine
set_option maxRecDepth 100000
local macro_rules | `(tactic| ktr_unf) => `(tactic| (k_dflt (refine' enter0 ?k1 ?k2 ?k3 ?k4 ?k5 ?k6 ?k7 ?_ ?c1 ?c2 ?c3 ?c4; (case k1 => k_asm); (case k2 => k_asm); (case k3 => k_room); (case k4 => k_is); (case k5 => k_is); (case k6 => first | exact BindsTo.of_eq rfl | exact binds_K (by k_in) rfl (by k_is) rfl rfl rfl | fail "m_enter: args"); (case k7 => exact locs rfl); (case c4 => decide); (case c1 => exact rfl); (case c2 => exact rfl); (case c3 => exact rfl); k_whole; intro L' h' F' N'; (try dsimp only); (try k_fold))))
local macro_rules | `(tactic| walk_at "exec For") => `(tactic| (k_here; (rename Fr _ _ _ _ => lF'); (with_unfolding_all refine' For_stop lF' ?k1 ?k2 ?_; (case k1 => exact rfl); (case k2 => exact rfl); k_whole)))
local macro_rules | `(tactic| walk_at "exec For Name Subscript cons nil") => `(tactic| walk_at "exec For")
def push (left : List Int) (k : Int) : List Int := if left.take 1 = [k] then left.drop 1 else k :: left
theorem push_step {l : List Int} {i : Nat} {k : Int} (hk : l[i]? = some k) : (l.take (i + 1)).foldl push [] = push ((l.take i).foldl push []) k := by
  rw [List.take_add_one, hk]; simp
def leftOf (ks : List Int) : List Int := ks.reverse.foldl push []
set_option maxHeartbeats 8000000 in
theorem left_spec (w : World) (mg mb : Str → Option Value) (mean : ExcName → Option Value) : ∀ (s : Shared) (Q E : Value → Shared → Prop), 
   X39 w s.heap → T39 mean mg mb s.heap → ∀ (a : Addr) (vs : List Value) (ks : List Int), s.heap.IsList a vs.toArray → IntsAre vs ks → ks.length ≤ 12 →
   Post s (fun tl r => ∃ D us n, r = .ref D ∧ (D, ({ cls := .type "list", data := .seq us.toArray n } : Obj)) ∈ tl ∧ IntsAre us (leftOf ks)) Q →
   wpAny (M39 w) (Lv 500 2000) (call (.ref 102) [.ref a]) Q E s := by
  unfold X39 T39 M39
  k_fill
  intro s Q E KX T a vs ks hl hi hn hQ
  refine wpAny_call ?_
  ktr_unf
  k_steps
  unfold IterAt
  dsimp only
  rename Fr _ _ _ _ => F
  rename News _ _ _ _ => N
  rename IntsAre _ ks.reverse => hr
  refine for_led (news := [(_, W.listOf #[] 0)]) (fun i m nx => ∃ (u : Str → Option Value) (D : Addr) (us : List Value) (n : Nat), m = (fun y => if y = Str.ofString "left" then some (.ref D) else u y) ∧ nx = [(D, W.listOf us.toArray n)] ∧ us.length ≤ i ∧ IntsAre us ((ks.reverse.take i).foldl push [])) rfl (.head _) F N ?_ ⟨_, _, [], _, rfl, rfl, Nat.le_refl _, .nil⟩ ?_ ?_
  · intro p hp; exact .tail _ hp
  · clear F N
    rintro i v m₁ nx h tk I oI hv hoff ⟨u, D, us, n, rfl, rfl, hsz, hus⟩ F₁ N₁
    obtain ⟨k, t, rfl, hk⟩ := IntsAre.at hr i v (by simpa using hv)
    have hil : i < 12 := by
      have := (List.getElem?_eq_some_iff.mp hk).1
      rw [List.length_reverse] at this
      omega
    dsimp only at F₁ N₁ ⊢
    simp only [List.cons_append, List.nil_append] at N₁
    k_steps
    · rename IntsAre _ (List.drop 1 _) => hd
      refine ⟨rfl, _, _, _, [(_, _)], rfl, by assumption, news_sub (by assumption) (by simp only [List.nil_append, List.cons_append]; k_allIn), ?_, _, _, _, _, rfl, rfl, ?_, ?_⟩
      · intro q hq; rw [List.mem_singleton.mp hq]; k_ne
      · have e1 := hd.length; have e2 := hus.length; rw [List.length_drop] at e1; omega
      · rw [push_step hk, push, if_pos (by assumption)]; exact hd
    · rename News _ _ _ ((_, W.listOf #[_] _) :: _) => N₂
      refine ⟨rfl, _, _, _, [(_, _)], rfl, by assumption, news_sub (by assumption) (by simp only [List.nil_append, List.cons_append]; k_allIn), ?_, _, _, _, _, rfl, rfl, ?_, ?_⟩
      · intro q hq; rw [List.mem_singleton.mp hq]
        exact Nat.ne_of_gt (Heap.lt_size (N₂ (I, oI) (by k_mem)).1)
      · simp; omega
      · rw [push_step hk, push, if_neg (by assumption)]; exact .cons _ _ hus
  · clear F N
    rintro m₁ nx h tk ⟨u, D, us, n, rfl, rfl, hsz, hus⟩ F₁ N₁
    dsimp only at F₁ N₁ ⊢
    k_steps
    have e1 : ks.reverse.take _ = ks.reverse := List.take_of_length_le (Nat.le_of_eq ((IntsAre.length hr).symm.trans (List.size_toArray).symm))
    rw [e1] at hus
    exact hQ _ _ _ _ F₁.keep (made_of N₁) ⟨_, _, _, rfl, .head _, hus⟩
end Mine

end
theorem Mine.calmLeft : True := by
  w_top off
  trivial
section
open PySem PySem.W PySem.Calls PyProof.Rows
namespace Mine
set_option maxRecDepth 100000
local macro_rules | `(tactic| ktr_unf) => `(tactic| (k_dflt (refine' enter0 ?k1 ?k2 ?k3 ?k4 ?k5 ?k6 ?k7 ?_ ?c1 ?c2 ?c3 ?c4; (case k1 => k_asm); (case k2 => k_asm); (case k3 => k_room); (case k4 => k_is); (case k5 => k_is); (case k6 => first | exact BindsTo.of_eq rfl | exact binds_K (by k_in) rfl (by k_is) rfl rfl rfl | fail "m_enter: args"); (case k7 => exact locs rfl); (case c4 => decide); (case c1 => exact rfl); (case c2 => exact rfl); (case c3 => exact rfl); k_whole; intro L' h' F' N'; (try dsimp only); (try k_fold))))
def told (n : Nat) : Str := Str.ofString (toString n ++ (if n = 1 then " item" else " items"))
theorem told_a : ∀ n : Nat, n < 13 → (9 < (n : Int) → ¬ (n : Int) = 1 ∧ Txt.item (Str.ofString "0123456789") ((n : Int).fdiv 10) ++ Txt.item (Str.ofString "0123456789") ((n : Int).fmod 10) ++ Str.ofString " items" = told n) ∧
    (¬ 9 < (n : Int) → ((n : Int) = 1 → Txt.item (Str.ofString "0123456789") ((n : Int).fmod 10) ++ Str.ofString " item" = told n) ∧ (¬ (n : Int) = 1 → Txt.item (Str.ofString "0123456789") ((n : Int).fmod 10) ++ Str.ofString " items" = told n)) := by decide +kernel
theorem told_b : ∀ n : Nat, n < 13 → ((n : Int) = 1 → Str.empty ++ Str.ofString (toString (n : Int)) ++ Str.ofString " item" ++ Str.ofString "" = told n) ∧ (¬ (n : Int) = 1 → Str.empty ++ Str.ofString (toString (n : Int)) ++ Str.ofString " item" ++ Str.ofString "s" = told n) := by decide +kernel
theorem end_str {s : Shared} {Q : Value → Shared → Prop} {x y : Str} {t : Tok} {h' : Heap} {tk : Nat} (hQ : Post s (fun _ r => IsS r y) Q) (k : ∀ b o, s.heap.get? b = some o → h'.get? b = some o) (e : x = y) : Q (.str x t) { s with heap := h', toks := tk } := hQ _ _ _ [] k (fun _ hp => nomatch hp) (isS e)
def LenIs (w : World) (h : Heap) (v : Value) (n : Nat) : Prop := ∀ A Q E (s : Shared), (∀ b o, h.get? b = some o → s.heap.get? b = some o) → Q (.int n (s.toks + 1)) { s with toks := s.toks + 1 + 1 } → wpAny (model PySem.Challenge.rw_sc0006_01.row.prog w) A (call (.builtin "len") [v]) Q E s
theorem lenIs_use {w : World} {h : Heap} {v : Value} {n : Nat} {A : Around} {Q E : Value → Shared → Prop} {s : Shared} (l : LenIs w h v n) (k : ∀ b o, h.get? b = some o → s.heap.get? b = some o) (q : Q (.int n (s.toks + 1)) { s with toks := s.toks + 1 + 1 }) :
    wpAny (model PySem.Challenge.rw_sc0006_01.row.prog w) A (call (.builtin "len") [v]) Q E s := l A Q E s k q
theorem lenIs_list {w : World} {h : Heap} {a : Addr} {vs : List Value} (hl : h.IsList a vs.toArray) (hn : vs.length ≤ 1000) : LenIs w h (.ref a) vs.length := fun A Q E s k q => by
  refine len_list (hl.at fun o e => k _ _ e) (by simp; omega) ?_
  simpa using q
theorem lenIs_dict {w : World} {h : Heap} {a : Addr} {kvs : List (Int × Value)} (ha : (a == sysModules) = false) (hl : h.DictOf (PySem.intKind PySem.Challenge.rw_sc0006_01.row.prog w) a kvs) (hn : kvs.length ≤ 1000) : LenIs w h (.ref a) kvs.length := fun A Q E s k q => by
  obtain ⟨o, ho, hd⟩ := Heap.dictOf_iff.mp hl
  exact call_len_dict ha (Heap.dictOf_iff.mpr ⟨o, k _ _ ho, hd⟩) (by omega) q
local macro_rules | `(tactic| walk_at "call builtin:len") => `(tactic| (k_here; k_dflt (refine' lenIs_use ?k1 ?k2 ?_; (case k1 => assumption); (case k2 => exact Fr.keep (by k_asm)); k_whole)))
set_option maxHeartbeats 8000000 in
theorem told_spec (w : World) (mg mb : Str → Option Value) (mean : ExcName → Option Value) : ∀ (s : Shared) (Q E : Value → Shared → Prop), 
   X39 w s.heap → T39 mean mg mb s.heap → ∀ (n : Nat) (t : Tok), n ≤ 12 → Post s (fun _ r => IsS r (told n)) Q →
   wpAny (M39 w) (Lv 500 2000) (call (.ref 109) [.int n t]) Q E s := by
  unfold X39 T39 M39
  k_fill
  intro s Q E KX T n t hn hQ
  refine wpAny_call ?_
  ktr_unf
  k_steps
  all_goals (rename Fr _ _ _ _ => F')
  all_goals dsimp only
  all_goals refine end_str hQ F'.keep ?_
  · exact absurd (by assumption) ((told_a n (by omega)).1 (by assumption)).1
  · exact ((told_a n (by omega)).1 (by assumption)).2
  · exact ((told_a n (by omega)).2 (by assumption)).1 (by assumption)
  · exact ((told_a n (by omega)).2 (by assumption)).2 (by assumption)
theorem len_a : ∀ n : Nat, n < 13 → (Str.empty ++ Str.ofString (toString (n : Int))).length ≤ sizeLine ∧ (Str.empty ++ Str.ofString (toString (n : Int)) ++ Str.ofString " item").length ≤ sizeLine := by decide +kernel
theorem len_1 {n : Nat} (h : n ≤ 12) : (Str.empty ++ Str.ofString (toString (n : Int))).length ≤ sizeLine := (len_a n (by omega)).1
theorem len_2 {n : Nat} (h : n ≤ 12) : (Str.empty ++ Str.ofString (toString (n : Int)) ++ Str.ofString " item").length ≤ sizeLine := (len_a n (by omega)).2
theorem len_3 {n : Nat} {x : Str} (h : n ≤ 12) (hx : x.length ≤ 10) : (Str.empty ++ Str.ofString (toString (n : Int)) ++ Str.ofString " item" ++ x).length ≤ sizeLine := by
  have e := (by decide +kernel : ∀ n : Nat, n < 13 → (Str.empty ++ Str.ofString (toString (n : Int)) ++ Str.ofString " item").length ≤ 100) n (by omega)
  rw [Str.length_append, sizeLine_eq]; omega
theorem log_small {n : Nat} (h : n ≤ 12) : ((n : Int)).natAbs.log2 < 1920 := (by decide +kernel : ∀ n : Nat, n < 13 → ((n : Int)).natAbs.log2 < 1920) n (by omega)
local macro_rules | `(tactic| walk_at "formatField int") => `(tactic| (k_here; (with_reducible show wpAny _ _ (formatField (Value.int _ _) _) _ _ _); refine wpAny_formatField_int (log_small (by assumption)) ?_))
theorem jn {prog : Program} {w : World} {A : Around} {acc : Str} {env : Env} {Q : Value → Shared → Prop} {E : Value → Shared → Prop} {s : Shared} (hsz : acc.length ≤ sizeLine) (h : Q (.str acc s.toks) { s with toks := s.toks + 1 }) : wpAny (model prog w) A (joinParts acc (evalEach [] env)) Q E s := joinParts_nil h hsz
local macro_rules | `(tactic| walk_at "joinParts") => `(tactic| (k_here; with_reducible refine' jn ?kl ?_; (case kl => exact len_3 (by assumption) (by decide))))
local macro_rules | `(tactic| walk_at "And") => `(tactic| ((with_reducible show PySem.Str.length _ ≤ sizeLine ∧ wpAny _ _ (joinParts _ _) _ _ _); with_reducible first | refine ⟨len_1 (by assumption), ?_⟩ | refine ⟨len_2 (by assumption), ?_⟩ | refine ⟨len_3 (by assumption) (by decide), ?_⟩))
set_option maxHeartbeats 8000000 in
theorem items_spec (w : World) (mg mb : Str → Option Value) (mean : ExcName → Option Value) : ∀ (s : Shared) (Q E : Value → Shared → Prop), 
   X39 w s.heap → T39 mean mg mb s.heap → ∀ (v : Value) (n : Nat), LenIs w s.heap v n → n ≤ 12 → Post s (fun _ r => IsS r (told n)) Q →
   wpAny (M39 w) (Lv 500 2000) (call (.ref 57) [v]) Q E s := by
  unfold X39 T39 M39
  k_fill
  intro s Q E KX T v n hl hn hQ
  refine wpAny_call ?_
  ktr_unf
  k_steps
  all_goals (rename Fr _ _ _ _ => F')
  all_goals dsimp only
  · exact end_str hQ F'.keep ((told_b n (by omega)).1 (by assumption))
  · exact end_str hQ F'.keep ((told_b n (by omega)).2 (by assumption))
end Mine

end
theorem Mine.calmItems : True := by
  w_top off
  trivial
section
open PySem PySem.W PySem.Calls PyProof.Rows
namespace Mine
set_option maxRecDepth 100000
section
variable {prog : Program} {w : World} {A : Around} {K : Frag} {p : Program} {loose : List Str} {mean : ExcName → Option Value} {mg mb : Str → Option Value}
/-- entering a def with captured names: the cells stand on the ledger -/
theorem enterC {s : Shared} {R : Result → Shared → Prop} {name qual : Str} {params : Arguments} {body : List Stmt} {scope : Scope} {dV kV doc pm cdv ct oc : Value} {an od : Option Addr} {osl : Array (Option Value)} {f : Addr} {args : Args} {binds : List (Str × Value)}
    (X : K.In s.heap) (T : Top p loose mean mg mb s.heap) (hroom : A.depth < recursionLimit)
    (ho : K.lookup f = some ⟨oc, od, .func (fnOf name qual params body scope dV kV doc pm an cdv ct), osl⟩) (hcd : codeIn K cdv qual = true)
    (hbind : BindsTo s (fnOf name qual params body scope dV kV doc pm an cdv ct) args binds)
    (hkind : (binds.all fun y => scope.names.lookup y.1 == some .local || scope.names.lookup y.1 == some .cell) = true)
    (hnd : ((cellsFrom 0 scope.names []).map (·.1)).Nodup)
    (h : ∀ L' h₁ tk cells, Fr s.heap L' h₁ (bindL (envOfC qual scope L' f cdv).kindOf binds fun _ => none) → News s.heap L' h₁ cells →
      CellsAre (bindC (envOfC qual scope L' f cdv).kindOf binds fun _ => none) (cellsFrom (L' + 1) scope.names []) cells →
      wpAny (model prog w) (A.deeper (envOfC qual scope L' f cdv)) (execs body (envOfC qual scope L' f cdv))
        (fun fl s' => R (.ok (.ret (match fl with | .ret v => v | _ => .none))) s') (fun _ _ => False) { s with heap := h₁, toks := tk })
    (hco : scope.isCoroutine = false) (hgen : scope.isGenerator = false) (hk : scope.kind = .function) : codeAny (model prog w) A (.call (.ref f) args) R s := by
  refine codeAny_call_function hroom (X _ _ ho) rfl hco hgen rfl (codeRec_of X hcd) (hbind _ _ _ _ ?_)
  refine wpAny_newFunctionEnv_cells hk (kindsX hkind _) fun env' he s' x => ?_
  subst he
  refine ⟨T.nolimit.keeps x.toInCall.keep, codeAny_func ?_⟩
  obtain ⟨h₁, tk, rfl, _⟩ := x.done
  have hk₁ := x.toInCall.keep
  obtain ⟨cells, NC, Y⟩ := Cl.news (h₀ := s.heap) (Nat.le_refl _) fun n c hm => ⟨x.cell n c (lookup_of_mem_nodup (cellsFrom_names scope.names 0 (s.heap.objs.size + 1) [] [] rfl ▸ hnd) hm), x.above n c hm⟩
  exact wpAny_mono (h s.heap.objs.size h₁ tk cells ⟨x.toInCall.ns, hk₁, Nat.le_refl _⟩ NC Y) (fun _ _ x => x) fun _ _ x => x.elim
end
end Mine
namespace Mine
set_option maxRecDepth 100000 in
theorem mods_there {mean : ExcName → Option Value} {mg mb : Str → Option Value} {h : Heap} (T : Top Mine.hd.view_39 (looseW Mine.hd.view_39 []) mean mg mb h) : ∃ o, h.get? sysModules = some o := by
  have S := T.seer (by decide +kernel)
  obtain ⟨mm, ⟨o, _, _, ho, _⟩, _⟩ := S.mods
  exact ⟨o, ho⟩
end Mine

end
section
open PySem PySem.W PySem.Calls PyProof.Rows PyProof.Rows.LCg PyProof.Rows.LCt
set_option linter.unusedVariables false
namespace Mine
set_option maxRecDepth 100000
section
variable {prog : Program} {w : World} {A : Around} {E : Value → Shared → Prop} {s : Shared} {h₀ : Heap} {L : Addr} {m : Str → Option Value} {env : Env} {ct elt : PySem.Expr} {x y : Str} {scope : Scope} {cl : List (Str × Addr)} {news : List (Addr × Obj)}
def CsAt (prog : Program) (w : World) (A : Around) (h₀ : Heap) (L : Addr) (m : Str → Option Value) (env : Env) (ct elt : PySem.Expr) (x : Str) (scope : Scope) (cl : List (Str × Addr)) (y : Str) (Q : Flow → Shared → Prop) (xv : Value) (s₁ : Shared) : Prop :=
  CompSrcT prog w A h₀ L m env ct elt x scope cl (fun s₂ => FinA h₀ L m s₂ y Q) xv s₁
theorem comp_stop {iter : PySem.Expr} {px py : Pos} {pos spos : Pos} {Q : Flow → Shared → Prop} (F₀ : Fr h₀ L s.heap m) (hLe : env.locals = L)
    (hsw : swapsWith (.ListComp elt [⟨.Name x px, iter, [ct], 0⟩] scope pos) (some (.Name y py)) spos.line env = pure true)
    (hclos : closureFor scope env = pure cl) (hcell : ∀ z ∈ scope.names, z.2 ≠ .cell) (hkind : scope.kind = .function)
    (hnames : ∀ z ∈ scope.names, z.2 = .local → scope.names.lookup z.1 = some .local) (hx : scope.names.lookup x = some .local)
    (hy : env.kindOf y = some .local) (hp : (env.scope.kind == .class || (env.scope.kind == .module && env.locals != env.globals)) = false)
    (h : wpAny (model prog w) A (eval iter env) (CsAt prog w A h₀ L m env ct elt x scope cl y Q) E s)
    (hs : ∀ x, foldedSetIterable iter env x = pure x := by intro _; rfl) :
    wpAny (model prog w) A (exec (.Assign [.Name y py] (.ListComp elt [⟨.Name x px, iter, [ct], 0⟩] scope pos) spos) env) Q E s :=
  Assign_ListComp_T F₀ hLe hsw hclos hcell hkind hnames hx hy hp h hs
def placesF (a : Int) (f : Nat → Bool) (n : Nat) : List Int := ((List.range n).filter f).map fun (i : Nat) => a + (i : Int)
theorem placesF_succ (a : Int) (f : Nat → Bool) (n : Nat) : placesF a f (n + 1) = placesF a f n ++ (if f n = true then [a + (n : Int)] else []) := by
  unfold placesF
  rw [List.range_succ, List.filter_append, List.map_append]
  cases h : f n <;> simp [h]
theorem rest_T {a : Int} {f : Nat → Bool} {n : Nat} {Fin : List Value → List (Addr × Obj) → Prop}
    (hct : ∀ C (i : Nat) t h tk m₂ E', i < n → h.Ns C m₂ → m₂ x = some (.int (a + (i : Int)) t) → Fr h₀ L h m → News h₀ L h news → wpAny (model prog w) A (isTrue ct (compEnvC scope cl C env) (eval ct (compEnvC scope cl C env))) (fun ok s' => ok = f i ∧ Keeps { s with heap := h, toks := tk } s') E' { s with heap := h, toks := tk })
    (helt : ∀ C (i : Nat) t h tk m₂ E', h.Ns C m₂ → m₂ x = some (.int (a + (i : Int)) t) → wpAny (model prog w) A (eval elt (compEnvC scope cl C env)) (fun v s' => (∃ t, v = .int (a + (i : Int)) t) ∧ Keeps { s with heap := h, toks := tk } s') E' { s with heap := h, toks := tk })
    (fin : ∀ ys, IntsAre ys (placesF a f n) → Fin ys news) : CompRestT prog w A h₀ L m env ct elt x scope cl s (fun _ => True) (fun i v => ∃ t, v = .int (a + (i : Int)) t) Fin n 0 [] news := by
  have key : ∀ (j i : Nat) (ys : List Value), i + j = n → IntsAre ys (placesF a f i) → CompRestT prog w A h₀ L m env ct elt x scope cl s (fun _ => True) (fun i v => ∃ t, v = .int (a + (i : Int)) t) Fin j i ys news := by
    intro j
    induction j with
    | zero =>
      intro i ys hi hy
      have e : i = n := by omega
      subst e
      exact CompRestT.zero (fin ys hy)
    | succ j ih =>
      intro i ys hi hy
      refine CompRestT.succ ?_
      rintro v I oI C oC D m₂ h tk E' ⟨t, rfl⟩ hC hx F N off ne
      have hns : h.Ns C m₂ := hC.ns (N (C, oC) (.tail _ (.head _))).1
      have N₀ : News h₀ L h news := fun p hp => N p (.tail _ (.tail _ (.tail _ hp)))
      refine wpAny_mono (hct C i t h tk m₂ E' (by omega) hns hx F N₀) (fun ok s' hq => ?_) fun _ _ e => e
      obtain ⟨rfl, h', tk', rfl, kp⟩ := hq
      cases hf : f i with
      | true =>
        simp only [if_true]
        have hC' : h'.get? C = some oC := kp _ _ (N (C, oC) (.tail _ (.head _))).1
        refine wpAny_mono (helt C i t h' tk' m₂ E' (hC.ns hC') hx) (fun v s' hq => ?_) fun _ _ e => e
        obtain ⟨⟨t', rfl⟩, h'', tk'', rfl, kp'⟩ := hq
        have kk : ∀ b o, h.get? b = some o → h''.get? b = some o := fun b o e => kp' _ _ (kp _ _ e)
        refine ⟨h'', tk'', news, rfl, F.keeps kk, N.grown kk, off, trivial, ?_⟩
        refine ih (i + 1) _ (by omega) ?_
        rw [placesF_succ, if_pos hf]
        exact IntsAre.append hy (.cons _ _ .nil)
      | false =>
        simp only [Bool.false_eq_true, if_false]
        refine ⟨h', tk', news, rfl, F.keeps kp, N.grown kp, off, trivial, ?_⟩
        refine ih (i + 1) _ (by omega) ?_
        rw [placesF_succ, if_neg (by rw [hf]; decide), List.append_nil]
        exact hy
  exact key n 0 [] (by omega) .nil
theorem cs_range {a b : Int} {f : Nat → Bool} {n : Nat} {r : Addr} {t u v : Tok} {Q : Flow → Shared → Prop} (hh : A.handled = none) (F : Fr h₀ L s.heap m) (N : News h₀ L s.heap news) (hr : IsRange s.heap r a b 1 t u v) (hsm : Builtin.Range.small a b 1 = true) (hn : Builtin.Range.rangeSize a b 1 = ((n : Nat) : Int)) (hsz : n ≤ 1000)
    (hct : ∀ C (i : Nat) t h tk m₂ E', i < n → h.Ns C m₂ → m₂ x = some (.int (a + (i : Int)) t) → Fr h₀ L h m → News h₀ L h news → wpAny (model prog w) A (isTrue ct (compEnvC scope cl C env) (eval ct (compEnvC scope cl C env))) (fun ok s' => ok = f i ∧ Keeps { s with heap := h, toks := tk } s') E' { s with heap := h, toks := tk })
    (helt : ∀ C (i : Nat) t h tk m₂ E', h.Ns C m₂ → m₂ x = some (.int (a + (i : Int)) t) → wpAny (model prog w) A (eval elt (compEnvC scope cl C env)) (fun v s' => (∃ t, v = .int (a + (i : Int)) t) ∧ Keeps { s with heap := h, toks := tk } s') E' { s with heap := h, toks := tk })
    (fin : ∀ ys D h tk, IntsAre ys (placesF a f n) → Fr h₀ L h (fun z => if z = y then some (.ref D) else m z) → News h₀ L h ((D, W.listOf ys.toArray ys.length) :: news) → (∀ p ∈ news, @Ne Nat p.1 D) → Q .next { s with heap := h, toks := tk }) :
    CsAt prog w A h₀ L m env ct elt x scope cl y Q (.ref r) s := by
  refine CompSrcT.range hh F N hr hsm hn (by rw [sizeLine_eq]; omega) fun g => ?_
  refine rest_T (s := { s with heap := g }) hct helt fun ys hys => ?_
  intro D h tk F' N' off
  refine fin ys D h tk hys F' N' ?_
  have gen : ∀ {l : List (Addr × Obj)}, Off1 D l → ∀ p ∈ l, @Ne Nat p.1 D := by
    intro l
    induction l with
    | nil => intro _ p hp; cases hp
    | cons q r ih =>
      intro ho p hp
      rcases List.mem_cons.mp hp with rfl | hp
      · exact ho.1
      · exact ih ho.2 p hp
  exact gen off
/-- a test's two ways -/
def Ways (T F : Shared → Prop) (b : Bool) (s : Shared) : Prop := (b = true → T s) ∧ (b = false → F s)
/-- a while: what stands at its head, and a number that falls -/
theorem while_cut {test : PySem.Expr} {body rest : List Stmt} {pos : Pos} {Q : Flow → Shared → Prop} (I : Nat → Shared → Prop) (n : Nat) (hI : I n s)
    (turn : ∀ n s, I n s → wpAny (model prog w) A (isTrue test env (eval test env)) (Ways (fun s₂ => wpAny (model prog w) A (execs body env) (Cut fun s₃ => ∃ m, m < n ∧ I m s₃) (fun _ _ => False) s₂) fun s₂ => wpAny (model prog w) A (execs rest env) Q E s₂) (fun _ _ => False) s) :
    wpAny (model prog w) A (execs (.While test body [] pos :: rest) env) Q E s := by
  refine wpAny_execs_cons (wpAny_While (codeAny_whileLoop I (fun n s hi => ?_) n hI))
  refine wpAny_mono (turn n s hi) (fun b s₂ h => ?_) fun _ _ x => x.elim
  cases b with
  | true =>
    simp only [if_true]
    refine wpAny_mono (h.1 rfl) (fun f s₃ c => ?_) fun _ _ x => x.elim
    obtain ⟨rfl, c⟩ := c
    exact c
  | false =>
    simp only [Bool.false_eq_true, if_false]
    exact wpAny_execs_nil (h.2 rfl)
end
end Mine

end
section
open PySem PySem.W PySem.Calls PyProof.Rows
namespace Mine
set_option maxRecDepth 100000
local macro_rules | `(tactic| ktr_unf) => `(tactic| (k_dflt (refine' enter0 ?k1 ?k2 ?k3 ?k4 ?k5 ?k6 ?k7 ?_ ?c1 ?c2 ?c3 ?c4; (case k1 => k_asm); (case k2 => k_asm); (case k3 => k_room); (case k4 => k_is); (case k5 => k_is); (case k6 => first | exact BindsTo.of_eq rfl | exact binds_K (by k_in) rfl (by k_is) rfl rfl rfl | fail "m_enter: args"); (case k7 => exact locs rfl); (case c4 => decide); (case c1 => exact rfl); (case c2 => exact rfl); (case c3 => exact rfl); k_whole; intro L' h' F' N'; (try dsimp only); (try k_fold))))
local macro_rules | `(tactic| walk_at "exec For") => `(tactic| (k_here; (rename Fr _ _ _ _ => lF'); (with_unfolding_all refine' For_stop lF' ?k1 ?k2 ?_; (case k1 => exact rfl); (case k2 => exact rfl); k_whole)))
local macro_rules | `(tactic| walk_at "exec For Name Name cons nil") => `(tactic| walk_at "exec For")
def put (js : List Int) (k : Int) : List Int := if js.getLast? = some k then js.dropLast else js ++ [k]
def laidOf (ks : List Int) : List Int := ks.foldl put []
theorem put_step {l : List Int} {i : Nat} {k : Int} (hk : l[i]? = some k) : (l.take (i + 1)).foldl put [] = put ((l.take i).foldl put []) k := by
  rw [List.take_add_one, hk]; simp
theorem AllEx.concat {prog : Program} {w : World} {R : Addr → Obj → Prop} {vs : List Value} {ks : List Int} (h : AllEx prog w R vs ks) : (vs = [] ∧ ks = []) ∨ ∃ us js a k, vs = us ++ [.ref a] ∧ ks = js ++ [k] ∧ AllEx prog w R us js ∧ ExR prog w R a k ∧ 0 ≤ k ∧ k < 12 := by
  induction h with
  | nil => exact .inl ⟨rfl, rfl⟩
  | cons hx hk h ih =>
    rcases ih with ⟨rfl, rfl⟩ | ⟨us, js, a, k, rfl, rfl, hu, hxa, hka⟩
    · exact .inr ⟨[], [], _, _, rfl, rfl, .nil, hx, hk⟩
    · exact .inr ⟨_ :: us, _ :: js, a, k, rfl, rfl, .cons hx hk hu, hxa, hka⟩
section
variable {prog : Program} {w : World} {A : Around} {E : Value → Shared → Prop} {s : Shared} {h₀ : Heap} {L : Addr} {m : Str → Option Value} {news news' : List (Addr × Obj)} {D : Addr} {us : List Value} {x : Value} {n : Nat}
theorem led_list (N : News h₀ L s.heap news) (hm : (D, W.listOf (us ++ [x]).toArray n) ∈ news) : s.heap.IsList D (us ++ [x]).toArray := ⟨_, (N _ hm).1, rfl, _, rfl⟩
theorem len_snoc {Q : Value → Shared → Prop} (N : News h₀ L s.heap news) (hm : (D, W.listOf (us ++ [x]).toArray n) ∈ news) (hz : us.length ≤ 900) (h : Q (.int ((us.length : Int) + 1) (s.toks + 1)) { s with toks := s.toks + 1 + 1 }) :
    wpAny (model prog w) A (call (.builtin "len") [.ref D]) Q E s := by
  refine len_list (led_list N hm) (by simp; omega) ?_
  have e : (((us ++ [x]).toArray.size : Nat) : Int) = (us.length : Int) + 1 := by simp
  rw [e]; exact h
theorem last_item {value slice : PySem.Expr} {u : Tok} {Q : Value → Shared → Prop} (N : News h₀ L s.heap news) (hm : (D, W.listOf (us ++ [x]).toArray n) ∈ news) (h : Q x s)
    (hs : subscripted slice false (.ref D) (.int (-1) u) = operate [.ref D, .int (-1) u] (getItem (.ref D) (.int (-1) u))) : wpAny (model prog w) A (subscriptTail value slice (.ref D) (.int (-1) u)) Q E s :=
  tail_any (led_list N hm).typeIs slot_list_getitem.lookup (wpAny_getItem_list_neg (led_list N hm) (by decide) (by simp; omega) (by decide) (by
    have e : ((-1 : Int) + (((us ++ [x]).toArray.size : Nat) : Int)).toNat = us.length := by simp; omega
    rw [e]; simp) h) hs
theorem pop_snoc {Q : Value → Shared → Prop} (F : Fr h₀ L s.heap m) (N : News h₀ L s.heap news) (U : Upd D (W.listOf (us ++ [x]).toArray n) (W.listOf us.toArray (n + 1)) news news') (hz : us.length ≤ 900)
    (h : ∀ h', Fr h₀ L h' m → News h₀ L h' news' → Q x { s with heap := h' }) : wpAny (model prog w) A (call (.builtin "list.pop") [.ref D]) Q E s :=
  kl_pop F N (kpa_last x us) U (by rw [sizeLine_eq]; simp; omega) h
end
local macro_rules | `(tactic| walk_at "call builtin:len") => `(tactic| (k_here; k_dflt (refine' len_snoc ?k1 ?k2 ?k3 ?_; (case k1 => k_asm); (case k2 => k_mem); (case k3 => omega); k_whole)))
local macro_rules | `(tactic| walk_at "subscriptTail") => `(tactic| (k_here; (with_reducible show wpAny _ _ (subscriptTail _ _ (Value.ref _) (Value.int _ _)) _ _ _); k_dflt (refine' last_item ?k1 ?k2 ?_ ?k3; (case k1 => k_asm); (case k2 => k_mem); (case k3 => with_unfolding_all rfl); k_whole)))
local macro_rules | `(tactic| walk_at "call builtin:list.pop") => `(tactic| (k_here; k_dflt (refine' pop_snoc ?k1 ?k2 ?k3 ?k4 ?_; (case k1 => k_asm); (case k2 => k_asm); (case k3 => k_upd); (case k4 => omega); k_whole); intro h' F' N'))
local macro_rules | `(tactic| walk_at "compareOp Eq ref") => `(tactic| (k_here; k_dflt (refine' eqx_use ?k1 ?k2 ?k3 ?k4 ?k5 ?k6 ?k7 ?k8 ?k9 ?k10 ?k11 ?_; (case k1 => k_asm); (case k2 => k_asm); (case k3 => k_asm); (case k4 => k_asm); (case k5 => exact ExR.mono _ _ (fun _ _ e => Fr.keep (by k_asm) _ _ e) (by assumption)); (case k6 => exact ExR.mono _ _ (fun _ _ e => Fr.keep (by k_asm) _ _ e) (by assumption)); (case k7 => assumption); (case k8 => assumption); (case k9 => exact rfl); (case k10 => exact Nat.le_of_ble_eq_true rfl); (case k11 => exact Nat.le_of_ble_eq_true rfl); k_whole; intro h' tk' F' N' kp')))
set_option maxHeartbeats 8000000 in
theorem laid_spec (w : World) (mg mb : Str → Option Value) (mean : ExcName → Option Value) : ∀ (s : Shared) (Q E : Value → Shared → Prop), 
   X39 w s.heap → T39 mean mg mb s.heap → ∀ (a : Addr) (vs : List Value) (ks : List Int), s.heap.IsList a vs.toArray → AllEx PySem.Challenge.rw_sc0006_01.row.prog w (fun a o => s.heap.get? a = some o) vs ks → ks.length ≤ 12 →
   Post s (fun tl r => ∃ D us n, r = .ref D ∧ (D, ({ cls := .type "list", data := .seq us.toArray n } : Obj)) ∈ tl ∧ AllEx PySem.Challenge.rw_sc0006_01.row.prog w (fun a o => s.heap.get? a = some o) us (laidOf ks)) Q →
   wpAny (M39 w) (Lv 450 1200) (call (.ref 85) [.ref a]) Q E s := by
  unfold X39 T39 M39
  k_fill
  intro s Q E KX T a vs ks hl hi hn hQ
  refine wpAny_call ?_
  ktr_unf
  k_steps
  unfold IterAt
  (try dsimp only)
  rename Fr _ _ _ _ => F
  rename News _ _ _ _ => N
  refine for_base (fun i m nx => ∃ (D : Addr) (us : List Value) (n : Nat), m (Str.ofString "laid") = some (.ref D) ∧ nx = [(D, W.listOf us.toArray n)] ∧ us.length ≤ i ∧ AllEx PySem.Challenge.rw_sc0006_01.row.prog w (fun a o => s.heap.get? a = some o) us ((ks.take i).foldl put []))
    rfl hl F N ⟨_, [], _, rfl, rfl, Nat.le_refl _, .nil⟩ ?_ ?_
  · clear F N
    rintro i v m₁ nx h tk I oI hv hoff ⟨D, us, n, hm, rfl, hsz, hus⟩ F₁ N₁
    rw [upd_as hm] at F₁
    obtain ⟨x, k, rfl, hk, hx, hkb⟩ := hi.at i v (by simpa using hv)
    have hil : i < 12 := by
      have := (List.getElem?_eq_some_iff.mp hk).1
      omega
    have hDI : @Ne Nat D I := hoff _ (.head _)
    dsimp only at F₁ N₁ ⊢
    simp only [List.cons_append, List.nil_append] at N₁
    rcases hus.concat with ⟨rfl, hjs⟩ | ⟨us', js', b, j, rfl, hjs, hus', hxb, hjb⟩
    · k_steps
      exact ⟨rfl, _, _, _, [(_, _)], rfl, by assumption, by assumption, fun q hq => by (rw [List.mem_singleton.mp hq]; exact hDI), _, _, _, rfl, rfl, by simp, by rw [put_step hk, hjs, put]; simpa using AllEx.cons hx hkb .nil⟩
    · have hul : us'.length + 1 ≤ i := by simpa using hsz
      k_steps
      · subst_vars
        exact ⟨rfl, _, _, _, [(_, _)], rfl, by assumption, by assumption, fun q hq => by (rw [List.mem_singleton.mp hq]; exact hDI), _, _, _, rfl, rfl, by omega, by rw [put_step hk, hjs, put]; simpa using hus'⟩
      · exact ⟨rfl, _, _, _, [(_, _)], rfl, by assumption, by assumption, fun q hq => by (rw [List.mem_singleton.mp hq]; exact hDI), _, _, _, rfl, rfl, by simp; omega, by
          rw [put_step hk, hjs, put, if_neg (by simpa using (by assumption))]
          simpa using (hus'.append (.cons hxb hjb .nil)).append (.cons hx hkb .nil)⟩
  · clear F N
    rintro m₁ nx h tk ⟨D, us, n, hm, rfl, hsz, hus⟩ F₁ N₁
    rw [upd_as hm] at F₁
    dsimp only at F₁ N₁ ⊢
    k_steps
    rw [List.take_of_length_le (by simp [hi.length])] at hus
    exact hQ _ _ _ _ F₁.keep (made_of N₁) ⟨_, _, _, rfl, .head _, hus⟩
end Mine

end
theorem Mine.calmLaid : True := by
  w_top off
  trivial
section
open PySem PySem.W PySem.Calls PyProof.Rows
namespace Mine
set_option maxRecDepth 100000
section
variable {w : World} {mg mb : Str → Option Value} {mean : ExcName → Option Value} {A : Around} {s : Shared} {Q E : Value → Shared → Prop} {h₀ : Heap} {L : Addr} {m : Str → Option Value} {news : List (Addr × Obj)}
theorem items_use {v : Value} {n : Nat} (F : Fr h₀ L s.heap m) (N : News h₀ L s.heap news) (KX : (Mine.hd.heap_39 w.params).In h₀) (T : Top Mine.hd.view_39 (looseW Mine.hd.view_39 []) mean mg mb h₀)
    (hl : LenIs w s.heap v n) (hn : n ≤ 12) (hh : A.handled = none) (hd : A.depth ≤ 500) (hu : A.units ≤ 2000)
    (h : ∀ t h' tk, Fr h₀ L h' m → News h₀ L h' news → Q (.str (told n) t) { s with heap := h', toks := tk }) :
    wpAny (model PySem.Challenge.rw_sc0006_01.row.prog w) A (call (.ref 57) [v]) Q E s := by
  refine at_lv (d := 500) (u := 2000) (items_spec w mg mb mean s Q E (KX.keeps F.keep) (T.keeps F.keep) v n hl hn ?_) hh hd hu
  rintro r h' tk tl kp hM ⟨t, rfl⟩
  exact h t h' tk (F.keeps kp) (N.grown kp)
theorem LenIs.keep {h h' : Heap} {v : Value} {n : Nat} (l : LenIs w h v n) (k : ∀ b o, h.get? b = some o → h'.get? b = some o) : LenIs w h' v n := fun A Q E s kp q => l A Q E s (fun b o e => kp _ _ (k _ _ e)) q
end
section
variable {prog : Program} {w : World} {K : Type} [DecidableEq K] {A : Around} {E : Value → Shared → Prop} {env : Env}
def DcAt (knd : KeyKind prog w K) (FK : Value → K → Prop) (FV : Value → Value → Prop) (A : Around) (env : Env) (E : Value → Shared → Prop) (kx vx : PySem.Expr) (x : Str) (scope : Scope) (cl : List (Str × Addr)) (Q : Value → Shared → Prop) (xv : Value) (s₁ : Shared) : Prop :=
  wpAny (model prog w) A (pyIter xv) (fun it s₂ => ∃ I fp wr n P St, it = .ref I ∧ Walks prog w A I fp wr n P St ∧ n ≤ sizeLine ∧ St 0 s₂.heap ∧ (∀ b ∈ fp, b < s₂.heap.objs.size) ∧
      QuietOnCD knd A env scope cl x [] kx vx wr P (fun _ => true) FK FV s₂ ∧
      (∀ D h' tk kvs (vs : List Value), s₂.heap.get? D = none → h'.DictOf knd D kvs → vs.length = n → (∀ j v, vs[j]? = some v → P j v) → StoredAll FK FV (vs.filter fun _ => true) kvs →
        (∀ b o, b ∉ wr → s₂.heap.get? b = some o → h'.get? b = some o) → Q (.ref D) { s₂ with heap := h', toks := tk })) E s₁
theorem dc_stop {s : Shared} {kx vx iter : PySem.Expr} {x : Str} {px : Pos} {scope : Scope} {cl : List (Str × Addr)} {pos : Pos} {Q : Value → Shared → Prop} (knd : KeyKind prog w K) (FK : Value → K → Prop) (FV : Value → Value → Prop)
    (hclos : closureFor scope env = pure cl) (hcell : ∀ y ∈ scope.names, y.2 ≠ .cell) (hkind : scope.kind = .function)
    (hnames : ∀ y ∈ scope.names, y.2 = .local → scope.names.lookup y.1 = some .local) (hx : scope.names.lookup x = some .local)
    (h : wpAny (model prog w) A (eval iter env) (DcAt knd FK FV A env E kx vx x scope cl Q) E s)
    (hs : ∀ x, foldedSetIterable iter env x = pure x := by intro _; rfl) :
    wpAny (model prog w) A (eval (.DictComp kx vx [⟨.Name x px, iter, [], 0⟩] scope pos) env) Q E s :=
  wpAny_DictComp_free knd (fun _ => true) FK FV hclos hcell hkind hnames hx h hs
end
theorem item_use {prog : Program} {w : World} {A : Around} {E : Value → Shared → Prop} {s : Shared} {value slice : PySem.Expr} {l : Addr} {vs : List Value} {k : Int} {t : Tok} {Q : Value → Shared → Prop} (hl : s.heap.IsList l vs.toArray) (h0 : 0 ≤ k) (hk : k.toNat < vs.length) (h63 : k < 2 ^ 63)
    (hs : subscripted slice false (.ref l) (.int k t) = operate [.ref l, .int k t] (getItem (.ref l) (.int k t))) (h : ∀ v, vs[k.toNat]? = some v → Q v s) : wpAny (model prog w) A (subscriptTail value slice (.ref l) (.int k t)) Q E s :=
  tail_any hl.typeIs slot_list_getitem.lookup (wpAny_getItem_list hl h0 h63 (x := vs[k.toNat]) (by simp [hk]) (h _ (by simp [hk]))) hs
theorem stored_keys {FV : Value → Value → Prop} {l : List Value} {kvs : List (Int × Value)} (h : StoredAll (fun v k => ∃ t, v = Value.int k t) FV l kvs) : (∀ (j : Nat) v, l[j]? = some v → ∃ t, v = .int (0 + (j : Nat) * 1) t) → kvs.map (·.1) = (List.range l.length).map fun (j : Nat) => (j : Int) := by
  induction h with
  | nil => intro _; rfl
  | @snoc l kvs v k y hs hk _ ih =>
    intro hv
    have e := ih fun j v hj => hv j v (by rw [List.getElem?_append_left (List.getElem?_eq_some_iff.mp hj).1]; exact hj)
    obtain ⟨t, e1⟩ := hv l.length v (by simp)
    obtain ⟨t', e2⟩ := hk
    have ek : k = (l.length : Int) := by
      rw [e1] at e2; injection e2 with a b
      omega
    have hno : kvs.any (fun kv => decide (kv.1 = k)) = false := by
      rw [List.any_eq_false]
      intro kv hkv
      have hm : kv.1 ∈ kvs.map (·.1) := List.mem_map_of_mem hkv
      rw [e] at hm
      obtain ⟨j, hj, ej⟩ := List.mem_map.mp hm
      have := List.mem_range.mp hj
      simp; omega
    unfold stored
    rw [if_neg (by rw [hno]; decide), List.map_append, e, List.length_append, List.length_singleton, List.range_succ, List.map_append]
    simp [ek]
theorem dc_row {prog : Program} {w : World} {A : Around} {E : Value → Shared → Prop} {env : Env} {kx vx : PySem.Expr} {x : Str} {scope : Scope} {cl : List (Str × Addr)} {Q : Value → Shared → Prop} {s₁ : Shared} {r : Addr} {n : Nat} {t u v : Tok} {FV : Value → Value → Prop}
    (hh : A.handled = none) (hr : IsRange s₁.heap r 0 (n : Int) 1 t u v) (hn : n ≤ 1000)
    (hkey : ∀ C (i : Nat) t s₃ m₃ E', s₃.heap.Ns C m₃ → m₃ x = some (.int (0 + (i : Nat) * 1) t) → wpAny (model prog w) A (eval kx (compEnvC scope cl C env)) (fun key s₄ => (∃ t, key = .int (0 + (i : Nat) * 1) t) ∧ Keeps s₃ s₄) E' s₃)
    (hval : ∀ C (i : Nat) t s₃ m₃ E', i < n → s₃.heap.Ns C m₃ → m₃ x = some (.int (0 + (i : Nat) * 1) t) → (∀ b o, s₁.heap.get? b = some o → s₃.heap.get? b = some o) → wpAny (model prog w) A (eval vx (compEnvC scope cl C env)) (fun y s₄ => FV (.int (0 + (i : Nat) * 1) t) y ∧ Keeps s₃ s₄) E' s₃)
    (hQ : ∀ D h' tk kvs, s₁.heap.get? D = none → h'.DictOf (PySem.intKind prog w) D kvs → kvs.length = n → (∀ b o, s₁.heap.get? b = some o → h'.get? b = some o) → Q (.ref D) { s₁ with heap := h', toks := tk }) :
    DcAt (PySem.intKind prog w) (fun v k => ∃ t, v = .int k t) FV A env E kx vx x scope cl Q (.ref r) s₁ := by
  have hsm : Builtin.Range.small 0 (n : Int) 1 = true := small_one (by omega) (by omega) (by omega) (by omega)
  have hsz : Builtin.Range.rangeSize 0 (n : Int) 1 = (n : Int) := by have := rangeSize_nat 0 (n : Int); simpa using this
  unfold DcAt
  refine wpAny_pyIter_range hr hsm ?_
  have up : ∀ (s₃ : Shared), (∀ b o, b ∉ [s₁.heap.objs.size] → (s₁.heap.push { cls := .type "range_iterator", data := .fields #[rawInt 0, rawInt (Builtin.Range.rangeSize 0 n 1), rawInt 1] }).get? b = some o → s₃.heap.get? b = some o) → ∀ b o, s₁.heap.get? b = some o → s₃.heap.get? b = some o :=
    fun s₃ hk b o e => hk b o (fun hm => by rw [List.mem_singleton.mp hm] at e; exact Nat.lt_irrefl _ (Heap.lt_size e)) (Heap.get?_push_of_some _ e)
  refine ⟨s₁.heap.objs.size, _, _, n, fun i v => i < n ∧ ∃ t, v = .int (0 + (i : Nat) * 1) t, _, rfl, (PySem.Walks.range (prog := prog) (w := w) hh s₁.heap.objs.size 0 1 n).bound, by rw [sizeLine_eq]; omega, by show IsRangeIter _ _ _ _ _; rw [hsz]; simpa using Heap.get?_push_size _ rfl, ?_, ⟨?_, ?_, ?_⟩, ?_⟩
  · intro b hb
    rw [List.mem_singleton.mp hb]
    show s₁.heap.objs.size < (s₁.heap.push _).objs.size
    rw [Heap.size_push]; exact Nat.lt_succ_self _
  · intro C i v s₃ m₃ E' _ _ _ _
    exact wpAny_tests_nil ⟨rfl, _, _, rfl, fun _ _ e => e⟩
  · rintro C i v s₃ m₃ E' ⟨hi, t, rfl⟩ _ hns hm hk
    exact wpAny_mono (hkey C i t s₃ m₃ E' hns hm) (fun key s₄ h => ⟨⟨_, by obtain ⟨⟨t', rfl⟩, _⟩ := h; exact intKind_is _ _ _ _, _, rfl⟩, h.2⟩) fun _ _ e => e
  · rintro C i v s₃ m₃ E' ⟨hi, t, rfl⟩ _ hns hm hk
    exact hval C i t s₃ m₃ E' hi hns hm (up s₃ hk)
  · intro D h' tk kvs vs hD hdict hlen hP hst hk
    have e1 : vs.filter (fun _ => true) = vs := by simp
    rw [e1] at hst
    have e := stored_keys hst fun j v hj => (hP j v hj).2
    have el : kvs.length = n := by
      have := congrArg List.length e
      simpa [hlen] using this
    refine hQ D h' tk kvs ?_ hdict el (up { s₁ with heap := h' } hk)
    cases q : s₁.heap.get? D with
    | none => rfl
    | some o => rw [Heap.get?_push_of_some _ q] at hD; cases hD
local macro_rules | `(tactic| ktr_unf) => `(tactic| (k_dflt (refine' enterC ?k1 ?k2 ?k3 ?k4 ?k5 ?k6 ?k7 ?k8 ?_ ?c1 ?c2 ?c3; (case k1 => k_asm); (case k2 => k_asm); (case k3 => k_room); (case k4 => k_is); (case k5 => k_is); (case k6 => first | exact BindsTo.of_eq rfl | exact binds_K (by k_in) rfl (by k_is) rfl rfl rfl | fail "m_enter: args"); (case k7 => exact rfl); (case k8 => decide +kernel); (case c1 => exact rfl); (case c2 => exact rfl); (case c3 => exact rfl); k_whole; intro L' h' tk' cells' F' N' Y'; k_cells Y'; (try simp only [List.cons_append, List.nil_append] at N'); (try dsimp only); (try k_fold))))
local macro_rules | `(tactic| walk_at "call ref") => `(tactic| (k_here; (with_reducible show wpAny _ _ (call (Value.ref 57) _) _ _ _); (with_reducible refine' items_use ?k1 ?k2 ?k3 ?k4 ?k5 ?k6 ?k7 ?k8 ?k9 ?_); (case k1 => k_asm); (case k2 => k_asm); (case k3 => k_asm); (case k4 => k_asm); (case k5 => first | exact LenIs.keep (by assumption) (Fr.keep (by k_asm)) | k_dflt assumption); (case k6 => assumption); (case k7 => exact rfl); (case k8 => exact Nat.le_of_ble_eq_true rfl); (case k9 => exact Nat.le_of_ble_eq_true rfl); intro t' h' tk' F' N'))
local macro_rules | `(tactic| walk_at "eval DictComp") => `(tactic| (k_here; k_dflt (refine dc_stop (PySem.intKind _ _) (fun v k => ∃ t, v = .int k t) (fun _ _ => True) (by with_unfolding_all rfl) (by decide) (by rfl) (by decide) (by rfl) ?_)))
local macro_rules | `(tactic| walk_at "call builtin:len") => `(tactic| (k_here; k_dflt (refine' lenIs_use ?k1 ?k2 ?_; (case k1 => assumption); (case k2 => exact Fr.keep (by k_asm)); k_whole)))
set_option maxHeartbeats 8000000 in
theorem counted_spec (w : World) (mg mb : Str → Option Value) (mean : ExcName → Option Value) : ∀ (s : Shared) (Q E : Value → Shared → Prop), 
   X39 w s.heap → T39 mean mg mb s.heap → ∀ (a : Addr) (vs : List Value), s.heap.IsList a vs.toArray → vs.length ≤ 12 →
   Post s (fun tl r => ∃ D v1 v2 n, r = .ref D ∧ (D, W.listOf #[v1, v2] n) ∈ tl ∧ IsS v1 (told vs.length) ∧ IsS v2 (told vs.length)) Q →
   wpAny (M39 w) (Lv 450 1200) (call (.ref 90) [.ref a]) Q E s := by
  unfold X39 T39 M39
  k_fill
  intro s Q E KX T a vs hl hn hQ
  refine wpAny_call ?_
  have hlen : LenIs w s.heap (.ref a) vs.length := lenIs_list hl (by omega)
  ktr_unf
  k_steps
  rename IsRange _ _ _ _ _ _ _ _ => hr
  rename Fr _ _ _ _ => F
  rename News _ _ _ _ => N
  refine dc_row (FV := fun _ _ => True) rfl hr (by omega) ?_ ?_ ?_
  · intro C i t s₃ m₃ E' hns hm
    k_steps
    exact ⟨_, _, rfl, fun _ _ e => e⟩
  · intro C i t s₃ m₃ E' hi hns hm kp
    have F₃ := F.keeps kp
    have N₃ := N.grown kp
    clear F N
    k_steps
    refine item_use (hl.at fun o e => F₃.keep _ _ e) (by omega) (by omega) (by omega) (by with_unfolding_all rfl) fun v hv => ?_
    exact ⟨trivial, _, _, rfl, fun _ _ e => e⟩
  · intro D h' tk kvs hD hdict hlen kp
    have F₃ := F.keeps kp
    have N₃ := N.grown kp
    have hDs : (D == sysModules) = false := by
      obtain ⟨o, ho⟩ := mods_there (T.keeps F.keep)
      refine beq_eq_false_iff_ne.mpr fun e => ?_
      rw [e, ho] at hD; cases hD
    have hlD : LenIs w h' (.ref D) vs.length := hlen ▸ lenIs_dict hDs hdict (by omega)
    clear F N
    k_steps
    rename Fr _ _ _ _ => F'
    rename News _ _ _ _ => N'
    exact hQ _ _ _ _ F'.keep (made_of N') ⟨_, _, _, _, rfl, .head _, isS rfl, isS rfl⟩
end Mine

end
theorem Mine.calmCounted : True := by
  w_top off
  trivial
section
open PySem PySem.W PySem.Calls PyProof.Rows
set_option linter.unusedVariables false
namespace Mine
set_option maxRecDepth 100000
def placesOf (ks : List Int) : List Int := placesF 1 (fun i => decide (ks[i]? = ks[i + 1]?)) (ks.length - 1)
inductive StrsAre : List Value → List Str → Prop
  | nil : StrsAre [] []
  | cons {v : Value} {x : Str} {vs : List Value} {xs : List Str} : IsS v x → StrsAre vs xs → StrsAre (v :: vs) (x :: xs)
theorem StrsAre.append {vs us : List Value} {xs ys : List Str} (h : StrsAre vs xs) (g : StrsAre us ys) : StrsAre (vs ++ us) (xs ++ ys) := by
  induction h with
  | nil => exact g
  | cons a _ ih => exact .cons a ih
theorem StrsAre.length {vs : List Value} {xs : List Str} (h : StrsAre vs xs) : vs.length = xs.length := by
  induction h with
  | nil => rfl
  | cons _ _ ih => simp [ih]
def logTo (n j : Nat) : List Str := (List.range (j + 1)).flatMap fun i => [told (n - 2 * i), told (n - 2 * i)]
theorem logTo_len (n j : Nat) : (logTo n j).length = 2 * (j + 1) := by
  unfold logTo
  induction j with
  | zero => rfl
  | succ j ih => rw [List.range_succ, List.flatMap_append, List.length_append, ih]; simp; omega
theorem logTo_succ (n j : Nat) : logTo n (j + 1) = logTo n j ++ [told (n - 2 * (j + 1)), told (n - 2 * (j + 1))] := by
  unfold logTo
  rw [List.range_succ, List.flatMap_append]
  simp
section
variable {w : World} {mg mb : Str → Option Value} {mean : ExcName → Option Value} {A : Around} {s : Shared} {Q E : Value → Shared → Prop} {h₀ : Heap} {L : Addr} {m : Str → Option Value} {news : List (Addr × Obj)}
theorem counted_use {a : Addr} {vs : List Value} (F : Fr h₀ L s.heap m) (N : News h₀ L s.heap news) (KX : (Mine.hd.heap_39 w.params).In h₀) (T : Top Mine.hd.view_39 (looseW Mine.hd.view_39 []) mean mg mb h₀)
    (hl : s.heap.IsList a vs.toArray) (hn : vs.length ≤ 12) (hh : A.handled = none) (hd : A.depth ≤ 450) (hu : A.units ≤ 1200)
    (h : ∀ D v1 v2 n h' tk, Fr h₀ L h' m → News h₀ L h' ((D, W.listOf [v1, v2].toArray n) :: news) → IsS v1 (told vs.length) → IsS v2 (told vs.length) → s.heap.get? D = none → Q (.ref D) { s with heap := h', toks := tk }) :
    wpAny (model PySem.Challenge.rw_sc0006_01.row.prog w) A (call (.ref 90) [.ref a]) Q E s := by
  refine at_lv (d := 450) (u := 1200) (counted_spec w mg mb mean s Q E (KX.keeps F.keep) (T.keeps F.keep) a vs hl hn ?_) hh hd hu
  rintro r h' tk tl kp hM ⟨D, v1, v2, n, rfl, hD, h1, h2⟩
  have N' := news_add F N kp hM
  refine h D v1 v2 n h' tk (F.keeps kp) (fun p hp => ?_) h1 h2 (hM _ hD).1
  rcases List.mem_cons.mp hp with rfl | hp
  · exact N' _ (List.mem_append_left _ hD)
  · exact N' _ (List.mem_append_right _ hp)
end
theorem fr_as {h₀ h : Heap} {L : Addr} {m : Str → Option Value} {x : Str} {v : Value} (F : Fr h₀ L h m) (hx : m x = some v) : Fr h₀ L h (fun y => if y = x then some v else m y) := by rw [upd_same hx]; exact F
inductive Strikes : List Int → List Int → Prop
  | refl {ks : List Int} : Strikes ks ks
  | step {ks js : List Int} {p : Int} : Strikes ks js → p ∈ placesOf js → Strikes ks (js.take (p - 1).toNat ++ js.drop (p + 1).toNat)
theorem places_mem {js : List Int} {p : Int} (h : p ∈ placesOf js) : 1 ≤ p ∧ p < js.length ∧ js[(p - 1).toNat]? = js[p.toNat]? := by
  unfold placesOf placesF at h
  obtain ⟨i, hi, rfl⟩ := List.mem_map.mp h
  obtain ⟨h1, h2⟩ := List.mem_filter.mp hi
  have h3 := List.mem_range.mp h1
  have h4 := of_decide_eq_true h2
  refine ⟨by omega, by omega, ?_⟩
  have e1 : ((1 : Int) + (i : Int) - 1).toNat = i := by omega
  have e2 : ((1 : Int) + (i : Int)).toNat = i + 1 := by omega
  rw [e1, e2]; exact h4
theorem getD_mem {l : List Int} {k : Int} {n : Nat} (h0 : 0 < n) (e : n = l.length) : l.getD (k.fmod n).toNat 0 ∈ l := by
  have a := Int.fmod_nonneg_of_pos k (b := (n : Int)) (by omega)
  have b := Int.fmod_lt_of_pos k (b := (n : Int)) (by omega)
  have c : (k.fmod n).toNat < l.length := by omega
  rw [List.getD_eq_getElem?_getD, List.getElem?_eq_getElem c]
  exact List.getElem_mem c
theorem adj {ks : List Int} {i : Nat} {j1 j2 : Int} (h1 : ks[((1 : Int) + (i : Int) - 1).toNat]? = some j1) (h2 : ks[((1 : Int) + (i : Int)).toNat]? = some j2) : decide (j1 = j2) = decide (ks[i]? = ks[i + 1]?) := by
  have e1 : ((1 : Int) + (i : Int) - 1).toNat = i := by omega
  have e2 : ((1 : Int) + (i : Int)).toNat = i + 1 := by omega
  rw [e1] at h1; rw [e2] at h2
  rw [h1, h2]; simp
section
variable {prog : Program} {w : World} {A : Around} {E : Value → Shared → Prop} {s : Shared} {h₀ : Heap} {L : Addr} {m : Str → Option Value} {news : List (Addr × Obj)}
theorem len_ledger {D : Addr} {us : List Value} {n : Nat} {Q : Value → Shared → Prop} (N : News h₀ L s.heap news) (hm : (D, W.listOf us.toArray n) ∈ news) (hz : us.length ≤ 900) (h : Q (.int (us.length : Nat) (s.toks + 1)) { s with toks := s.toks + 1 + 1 }) :
    wpAny (model prog w) A (call (.builtin "len") [.ref D]) Q E s := by
  refine len_list (items := us.toArray) ⟨_, (N _ hm).1, rfl, _, rfl⟩ (by simp; omega) ?_
  simpa using h
theorem pick_upto (vs : List Value) {y : Int} (h : 0 ≤ y) : (slicePick vs.toArray none (some y) none).toList = vs.take y.toNat := by
  obtain ⟨n, rfl⟩ := Int.eq_ofNat_of_zero_le h
  rw [kmk_pick_nat (a := 0) (b := min n vs.length) vs.toArray (by simp [sliceBounds]; omega)]
  simp [← List.take_eq_take_min]
theorem pick_from (vs : List Value) {x : Int} (h : 0 ≤ x) : (slicePick vs.toArray (some x) none none).toList = vs.drop x.toNat := by
  obtain ⟨n, rfl⟩ := Int.eq_ofNat_of_zero_le h
  rw [kmk_pick_nat (a := min n vs.length) (b := vs.length) vs.toArray (by simp [sliceBounds]; omega)]
  simp only [kmk_drop_min]
  exact List.take_of_length_le (by simp; omega)
theorem cut_upto {value slice : PySem.Expr} {l : Addr} {vs : List Value} {y : Int} {t : Tok} {Q : Value → Shared → Prop} (F : Fr h₀ L s.heap m) (N : News h₀ L s.heap news) (hl : s.heap.IsList l vs.toArray) (hy : 0 ≤ y) (hz : vs.length ≤ 1000)
    (h : ∀ D h', Fr h₀ L h' m → News h₀ L h' ((D, W.listOf (vs.take y.toNat).toArray 0) :: news) → (∀ p ∈ news, p.1 < D) → Q (.ref D) { s with heap := h' })
    (hs : subscripted slice false (.ref l) (.ref s.heap.objs.size) = operate [.ref s.heap.objs.size, .ref l] (getItem (.ref l) (.ref s.heap.objs.size))) (ht : ∀ r, letTemporaryGo value (.ref l) r = pure ()) :
    wpAny (model prog w) A (subscriptTail value slice (.ref l) (.ref s.heap.objs.size)) Q E { s with heap := s.heap.push { cls := .type "slice", data := .fields #[.none, .int y t, .none] } } :=
  kmk_slice_lit F N hl .none (.int _ _) (pick_upto vs hy) h hs ht (by rw [sizeLine_eq, List.size_toArray]; omega)
theorem cut_from {value slice : PySem.Expr} {l : Addr} {vs : List Value} {y : Int} {t : Tok} {Q : Value → Shared → Prop} (F : Fr h₀ L s.heap m) (N : News h₀ L s.heap news) (hl : s.heap.IsList l vs.toArray) (hy : 0 ≤ y) (hz : vs.length ≤ 1000)
    (h : ∀ D h', Fr h₀ L h' m → News h₀ L h' ((D, W.listOf (vs.drop y.toNat).toArray 0) :: news) → (∀ p ∈ news, p.1 < D) → Q (.ref D) { s with heap := h' })
    (hs : subscripted slice false (.ref l) (.ref s.heap.objs.size) = operate [.ref s.heap.objs.size, .ref l] (getItem (.ref l) (.ref s.heap.objs.size))) (ht : ∀ r, letTemporaryGo value (.ref l) r = pure ()) :
    wpAny (model prog w) A (subscriptTail value slice (.ref l) (.ref s.heap.objs.size)) Q E { s with heap := s.heap.push { cls := .type "slice", data := .fields #[.int y t, .none, .none] } } :=
  kmk_slice_lit F N hl (.int _ _) .none (pick_from vs hy) h hs ht (by rw [sizeLine_eq, List.size_toArray]; omega)
theorem add_led {l b : Addr} {vs ws : List Value} {Q : Value → Shared → Prop} (F : Fr h₀ L s.heap m) (N : News h₀ L s.heap news) (hl : s.heap.IsList l vs.toArray) (hb : s.heap.IsList b ws.toArray) (hz : vs.length + ws.length ≤ 1000)
    (h : ∀ D h', Fr h₀ L h' m → News h₀ L h' ((D, W.listOf (vs ++ ws).toArray 0) :: news) → (∀ p ∈ news, p.1 < D) → Q (.ref D) { s with heap := h' }) :
    wpAny (model prog w) A (binaryOp .Add (.ref l) (.ref b)) Q E s :=
  add_lists F N hl hb (fun h' F' N' => h _ h' F' N' fun p hp => Heap.lt_size (N p hp).1) (by rw [sizeLine_eq]; omega)
theorem item_ex {R : Addr → Obj → Prop} {value slice : PySem.Expr} {l : Addr} {vs : List Value} {ks : List Int} {k : Int} {t : Tok} {Q : Value → Shared → Prop} (hl : s.heap.IsList l vs.toArray) (hi : AllEx prog w R vs ks) (h0 : 0 ≤ k) (hk : k.toNat < ks.length) (h63 : k < 2 ^ 63)
    (hs : subscripted slice false (.ref l) (.int k t) = operate [.ref l, .int k t] (getItem (.ref l) (.int k t))) (h : ∀ x j, ks[k.toNat]? = some j → ExR prog w R x j → 0 ≤ j ∧ j < 12 → Q (.ref x) s) : wpAny (model prog w) A (subscriptTail value slice (.ref l) (.int k t)) Q E s :=
  item_use hl h0 (by rw [hi.length]; exact hk) h63 hs fun v hv => by
    obtain ⟨x, j, rfl, hj, hx, hb⟩ := hi.at _ v hv
    exact h x j hj hx hb
end
local macro_rules | `(tactic| ktr_unf) => `(tactic| (k_dflt (refine' enterC ?k1 ?k2 ?k3 ?k4 ?k5 ?k6 ?k7 ?k8 ?_ ?c1 ?c2 ?c3; (case k1 => k_asm); (case k2 => k_asm); (case k3 => k_room); (case k4 => k_is); (case k5 => k_is); (case k6 => first | exact BindsTo.of_eq rfl | exact binds_K (by k_in) rfl (by k_is) rfl rfl rfl | fail "m_enter: args"); (case k7 => exact rfl); (case k8 => decide +kernel); (case c1 => exact rfl); (case c2 => exact rfl); (case c3 => exact rfl); k_whole; intro L' h' tk' cells' F' N' Y'; k_cells Y'; (try simp only [List.cons_append, List.nil_append] at N'); (try dsimp only); (try k_fold))))
-- a list at hand: in the base, or on the ledger
local macro_rules | `(tactic| ktr_rel) => `(tactic| first | exact Heap.IsList.at (by assumption) (fun o e => Fr.keep (by k_asm) _ _ e) | exact ⟨_, (News.get (by k_asm) (by k_mem)), rfl, _, rfl⟩)
local macro_rules | `(tactic| walk_at "call ref") => `(tactic| (k_here; (with_reducible show wpAny _ _ (call (Value.ref 90) _) _ _ _); (with_reducible refine' counted_use ?k1 ?k2 ?k3 ?k4 ?k5 ?k6 ?k7 ?k8 ?k9 ?_); (case k1 => k_asm); (case k2 => k_asm); (case k3 => k_asm); (case k4 => k_asm); (case k5 => k_dflt ktr_rel); (case k6 => first | assumption | omega); (case k7 => exact rfl); (case k8 => k_dflt (exact Nat.le_of_ble_eq_true rfl)); (case k9 => k_dflt (exact Nat.le_of_ble_eq_true rfl)); intro D' v1' v2' n' h' tk' F' N' i1' i2' l1'))
local macro_rules | `(tactic| walk_at "exec Assign cons ListComp") => `(tactic| (k_here; k_dflt (refine comp_stop (F₀ := by k_asm) (by rfl) (by with_unfolding_all rfl) (by with_unfolding_all rfl) (by decide) (by rfl) (by decide) (by rfl) (by rfl) (by rfl) ?_)))
local macro_rules | `(tactic| walk_at "call builtin:len") => `(tactic| (k_here; k_dflt (first
  | (refine' lenIs_use ?k1 ?k2 ?_; (case k1 => assumption); (case k2 => exact Fr.keep (by k_asm)); k_whole)
  | (refine' len_ledger ?k1 ?k2 ?k3 ?_; (case k1 => k_asm); (case k2 => k_mem); (case k3 => omega); k_whole))))
local macro_rules | `(tactic| walk_at "subscriptTail") => `(tactic| (k_here; (with_reducible show wpAny _ _ (subscriptTail _ _ (Value.ref _) (Value.int _ _)) _ _ _); k_dflt (refine' item_ex ?k1 ?k2 ?k3 ?k4 ?k5 ?k6 ?_; (case k1 => ktr_rel); (case k2 => assumption); (case k3 => omega); (case k4 => omega); (case k5 => omega); (case k6 => with_unfolding_all rfl); k_whole; intro x' j' hj' hx' hb')))
local macro_rules | `(tactic| walk_at "subscriptTail Name Slice ref ref") => `(tactic| (k_here; k_dflt (first
  | (refine' cut_upto ?k1 ?k2 ?k3 ?k4 ?k5 ?_ ?k6 ?k7; (case k1 => k_asm); (case k2 => k_asm); (case k3 => ktr_rel); (case k4 => omega); (case k5 => omega); (case k6 => with_unfolding_all rfl); (case k7 => kmk_pure); k_whole; intro D' h' F' N' l1'; (try k_lt l1'))
  | (refine' cut_from ?k1 ?k2 ?k3 ?k4 ?k5 ?_ ?k6 ?k7; (case k1 => k_asm); (case k2 => k_asm); (case k3 => ktr_rel); (case k4 => omega); (case k5 => omega); (case k6 => with_unfolding_all rfl); (case k7 => kmk_pure); k_whole; intro D' h' F' N' l1'; (try k_lt l1')))))
local macro_rules | `(tactic| walk_at "binaryOp Add") => `(tactic| (k_here; (with_reducible show wpAny _ _ (binaryOp _ (Value.ref _) (Value.ref _)) _ _ _); k_dflt (refine' add_led ?k1 ?k2 ?k3 ?k4 ?k5 ?_; (case k1 => k_asm); (case k2 => k_asm); (case k3 => ktr_rel); (case k4 => ktr_rel); (case k5 => ((simp only [List.length_take, List.length_drop, List.length_cons, List.length_nil]); omega)); k_whole; intro D' h' F' N' l1'; (try k_lt l1'))))
local macro_rules | `(tactic| walk_at "binaryOp Add ref ref") => `(tactic| walk_at "binaryOp Add")
local macro_rules | `(tactic| walk_at "compareOp Eq ref") => `(tactic| (k_here; k_dflt (refine' eqx_use ?k1 ?k2 ?k3 ?k4 ?k5 ?k6 ?k7 ?k8 ?k9 ?k10 ?k11 ?_; (case k1 => k_asm); (case k2 => k_asm); (case k3 => k_asm); (case k4 => k_asm); (case k5 => exact ExR.mono _ _ (fun _ _ e => Fr.keep (by k_asm) _ _ e) (by assumption)); (case k6 => exact ExR.mono _ _ (fun _ _ e => Fr.keep (by k_asm) _ _ e) (by assumption)); (case k7 => assumption); (case k8 => assumption); (case k9 => exact rfl); (case k10 => exact Nat.le_of_ble_eq_true rfl); (case k11 => exact Nat.le_of_ble_eq_true rfl); k_whole; intro h' tk' F' N' kp')))
structure Carry (prog : Program) (w : World) (R : Addr → Obj → Prop) (vs : List Value) (ks : List Int) : Prop where
  all : AllEx prog w R vs ks
set_option maxHeartbeats 8000000 in
theorem struck_spec (w : World) (mg mb : Str → Option Value) (mean : ExcName → Option Value) : ∀ (s : Shared) (Q E : Value → Shared → Prop), 
   X39 w s.heap → T39 mean mg mb s.heap → ∀ (a : Addr) (vs : List Value) (ks : List Int) (dr : Int) (t : Tok), s.heap.IsList a vs.toArray → AllEx PySem.Challenge.rw_sc0006_01.row.prog w (fun a o => s.heap.get? a = some o) vs ks → ks.length ≤ 12 → 0 ≤ dr → ∀ (R0 : Addr → Obj → Prop), Carry PySem.Challenge.rw_sc0006_01.row.prog w R0 vs ks →
   Post s (fun tl r => ∃ T R Lg us lg js nL j, r = .ref T ∧ (T, ({ cls := .type "tuple", data := .seq #[.ref R, .ref Lg] } : Obj)) ∈ tl ∧ ((R = a ∧ us = vs) ∨ ∃ n, (R, W.listOf us.toArray n) ∈ tl) ∧ (Lg, W.listOf lg.toArray nL) ∈ tl ∧
     AllEx PySem.Challenge.rw_sc0006_01.row.prog w (fun a o => s.heap.get? a = some o) us js ∧ Carry PySem.Challenge.rw_sc0006_01.row.prog w R0 us js ∧ Strikes ks js ∧ placesOf js = [] ∧ StrsAre lg (logTo ks.length j) ∧ js.length + 2 * j = ks.length) Q →
   wpAny (M39 w) (Lv 400 1000) (call (.ref 95) [.ref a, .int dr t]) Q E s := by
  unfold X39 T39 M39
  k_fill
  intro s Q E KX T a vs ks dr t hl hi hn hdr R0 hc0 hQ
  refine wpAny_call ?_
  have hvn : vs.length ≤ 12 := by rw [hi.length]; exact hn
  ktr_unf
  rename_i L₁ h₁ tk₁ F₁ oc hdc N₁
  replace hdc : oc.data = .cell (some (.ref a)) := hdc
  replace F₁ := fr_as (x := Str.ofString "draw") (v := .int dr t) F₁ rfl
  have hoc := (N₁ _ (.head _)).1
  have hlen : LenIs w s.heap (.ref a) ks.length := hi.length ▸ lenIs_list hl (by omega)
  refine cut_oneN (Str.ofString "log") (fun v nx => ∃ Lg lg nL, v = .ref Lg ∧ nx = [(Lg, W.listOf lg.toArray nL), (L₁ + 1, oc)] ∧ StrsAre lg (logTo ks.length 0) ∧ @Ne Nat Lg (L₁ + 1)) F₁ ?_ ?_
  · k_steps
    refine oneN_new (by assumption) (by assumption) ⟨_, [_, _], _, rfl, rfl, ?_, fun e => ?_⟩
    · rw [hi.length] at *
      exact .cons (by assumption) (.cons (by assumption) .nil)
    · rename Heap.get? _ _ = none => l1
      rw [e] at l1
      exact absurd (hoc.symm.trans l1) (fun x => nomatch x)
  clear F₁ N₁ hoc
  rintro v nx h' tk ⟨Lg, lg, nL, rfl, rfl, hlg, hLc⟩ F N
  refine cut_oneN (Str.ofString "places") (fun v nx => ∃ P us nP, v = .ref P ∧ nx = [(P, W.listOf us.toArray nP), (Lg, W.listOf lg.toArray nL), (L₁ + 1, oc)] ∧ IntsAre us (placesOf ks) ∧ @Ne Nat P (L₁ + 1)) F ?_ ?_
  · k_steps
    rename IsRange _ _ _ _ _ _ _ _ => hr
    rename Fr _ _ _ _ => F'
    rename News _ _ _ _ => N'
    refine cs_range (f := fun i => decide (ks[i]? = ks[i + 1]?)) (n := ks.length - 1) rfl F' N' hr (small_one (by omega) (by omega) (by omega) (by omega)) ((rangeSize_nat _ _).trans (by omega)) (by omega) ?_ ?_ ?_
    · clear F' N' hr
      intro C i t h tk m₂ E' hi1 hns hx F N
      k_steps
      · exact adj (by assumption) (by assumption)
      · exact ⟨_, _, rfl, by assumption⟩
    · clear F' N' hr
      intro C i t h tk m₂ E' hns hx
      k_steps
      exact ⟨_, _, rfl, fun _ _ e => e⟩
    · clear F' N' hr
      intro ys D h tk hys F N hne
      exact oneN_new F N ⟨_, _, _, rfl, rfl, hys, fun e => hne _ (.tail _ (.head _)) e.symm⟩
  clear F N
  rintro v nx h' tk ⟨P, us, nP, rfl, rfl, hus, hPc⟩ F N
  refine while_cut (fun n s' => ∃ (h' : Heap) (tk : Nat) (R : Addr) (us : List Value) (js : List Int) (P : Addr) (ps : List Value) (nP : Nat) (Lg : Addr) (lg : List Value) (nL : Nat) (oc : Obj) (rp : List (Addr × Obj)) (j : Nat) (d : Int) (td : Tok) (u : Str → Option Value),
    s' = { heap := h', gens := s.gens, drawn := s.drawn, toks := tk, os := s.os } ∧ n = js.length ∧
    Fr s.heap L₁ h' (fun y => if y = Str.ofString "places" then some (.ref P) else if y = Str.ofString "log" then some (.ref Lg) else if y = Str.ofString "draw" then some (.int d td) else u y) ∧
    News s.heap L₁ h' ((P, W.listOf ps.toArray nP) :: (Lg, W.listOf lg.toArray nL) :: (L₁ + 1, oc) :: rp) ∧ oc.data = .cell (some (.ref R)) ∧ 0 ≤ d ∧
    AllEx PySem.Challenge.rw_sc0006_01.row.prog w (fun a o => s.heap.get? a = some o) us js ∧ Carry PySem.Challenge.rw_sc0006_01.row.prog w R0 us js ∧ Strikes ks js ∧ IntsAre ps (placesOf js) ∧ StrsAre lg (logTo ks.length j) ∧ js.length + 2 * j = ks.length ∧ @Ne Nat P (L₁ + 1) ∧ @Ne Nat Lg (L₁ + 1) ∧
    ((rp = [] ∧ s.heap.IsList R us.toArray ∧ R = a ∧ us = vs) ∨ ∃ nR, rp = [(R, W.listOf us.toArray nR)] ∧ @Ne Nat R (L₁ + 1))) ks.length ?_ ?_
  · exact ⟨h', _, a, vs, ks, P, us, nP, Lg, lg, nL, oc, [], 0, dr, t, _, rfl, rfl, F, N, hdc, hdr, hi, hc0, .refl, hus, hlg, rfl, hPc, hLc, .inl ⟨rfl, hl, rfl, rfl⟩⟩
  clear F N
  rintro n s' ⟨h', tk, R, us, js, P, ps, nP, Lg, lg, nL, oc, rp, j, d, td, u, rfl, rfl, F, N, hdc, hd, hi, hcy, hst, hps, hlg, hj, hPc, hLc, hR⟩
  have hjl : js.length ≤ 12 := by omega
  have hlgl : lg.length ≤ 100 := by rw [hlg.length, logTo_len]; omega
  have hul : us.length = js.length := hi.length
  have hpl : ps.length = (placesOf js).length := hps.length
  have hp12 : (placesOf js).length ≤ 12 := by
    unfold placesOf placesF
    rw [List.length_map]
    exact Nat.le_trans (List.length_filter_le _ _) (by rw [List.length_range]; omega)
  k_steps
  refine ⟨fun hb => ?_, fun hb => ?_⟩
  · have h0 : 0 < ps.length := by simpa using hb
    clear hb
    refine cut_one (Str.ofString "place") (fun v => ∃ p t, v = .int p t ∧ p ∈ placesOf js) F N ?_ (fun v h' tk hP F1 N1 => ?_)
    · k_steps
      exact one_new (by assumption) (by assumption) (fun _ h => h) ⟨_, _, rfl, getD_mem h0 hpl⟩
    clear F N
    obtain ⟨p, tp, rfl, hp⟩ := hP
    obtain ⟨hp1, hp2, hp3⟩ := places_mem hp
    refine cut_one (Str.ofString "draw") (fun v => ∃ d' t, v = .int d' t ∧ 0 ≤ d') F1 N1 ?_ (fun v h' tk hP F2 N2 => ?_)
    · k_steps
      exact one_new (by assumption) (by assumption) (fun _ h => h) ⟨_, _, rfl, by
        have := Int.fdiv_nonneg hd (show (0 : Int) ≤ 2 by decide)
        omega⟩
    clear F1 N1
    obtain ⟨d', td', rfl, hd'⟩ := hP
    refine cut_noneN (fun nx => ∃ R' nR' oc', nx = [(R', W.listOf (us.take (p - 1).toNat ++ us.drop (p + 1).toNat).toArray nR'), (Lg, W.listOf lg.toArray nL), (L₁ + 1, oc')] ∧ oc'.data = .cell (some (.ref R')) ∧ @Ne Nat R' (L₁ + 1)) F2 ?_ ?_
    · rcases hR with ⟨rfl, hRl, hRa⟩ | ⟨nR, rfl, hRc⟩
      · k_steps
        rename News _ _ _ _ => N'
        exact noneN_new (by assumption) (news_sub N' (by k_allIn)) ⟨_, _, _, rfl, by assumption, by first | omega | (intro e; omega)⟩
      · k_steps
        rename News _ _ _ _ => N'
        exact noneN_new (by assumption) (news_sub N' (by k_allIn)) ⟨_, _, _, rfl, by assumption, by first | omega | (intro e; omega)⟩
    clear F2 N2 hR hdc
    rintro nx h' tk ⟨R', nR', oc', rfl, hdc', hRc'⟩ F3 N3
    have hi' : AllEx PySem.Challenge.rw_sc0006_01.row.prog w (fun a o => s.heap.get? a = some o) (us.take (p - 1).toNat ++ us.drop (p + 1).toNat) (js.take (p - 1).toNat ++ js.drop (p + 1).toNat) := (hi.take _).append (hi.drop _)
    have hcy' : Carry PySem.Challenge.rw_sc0006_01.row.prog w R0 (us.take (p - 1).toNat ++ us.drop (p + 1).toNat) (js.take (p - 1).toNat ++ js.drop (p + 1).toNat) := ⟨(hcy.all.take _).append (hcy.all.drop _)⟩
    have hst' : Strikes ks (js.take (p - 1).toNat ++ js.drop (p + 1).toNat) := .step hst hp
    have hjl' : (js.take (p - 1).toNat ++ js.drop (p + 1).toNat).length + 2 = js.length := by rw [List.length_append, List.length_take, List.length_drop]; omega
    generalize us.take (p - 1).toNat ++ us.drop (p + 1).toNat = us' at *
    generalize js.take (p - 1).toNat ++ js.drop (p + 1).toNat = js' at *
    have hul' : us'.length = js'.length := hi'.length
    have hun' : us'.length ≤ 12 := by omega
    refine cut_oneN (Str.ofString "log") (fun v nx => ∃ Lg' lg' nL', v = .ref Lg' ∧ nx = [(Lg', W.listOf lg'.toArray nL'), (R', W.listOf us'.toArray nR'), (L₁ + 1, oc')] ∧ StrsAre lg' (logTo ks.length (j + 1)) ∧ @Ne Nat Lg' (L₁ + 1)) F3 ?_ ?_
    · k_steps
      rename News _ _ _ _ => N'
      refine oneN_new (by assumption) (news_sub N' (by k_allIn)) ⟨_, _, _, rfl, rfl, ?_, by first | omega | (intro e; omega)⟩
      rw [logTo_succ]
      have e : us'.length = ks.length - 2 * (j + 1) := by omega
      rw [← e]
      exact hlg.append (.cons (by assumption) (.cons (by assumption) .nil))
    clear F3 N3 hlg
    rintro v nx h' tk ⟨Lg', lg', nL', rfl, rfl, hlg, hLc'⟩ F N
    refine cut_oneN (Str.ofString "places") (fun v nx => ∃ P us nP, v = .ref P ∧ nx = [(P, W.listOf us.toArray nP), (Lg', W.listOf lg'.toArray nL'), (R', W.listOf us'.toArray nR'), (L₁ + 1, oc')] ∧ IntsAre us (placesOf js') ∧ @Ne Nat P (L₁ + 1)) F ?_ ?_
    · k_steps
      rename IsRange _ _ _ _ _ _ _ _ => hr
      rename Fr _ _ _ _ => F'
      rename News _ _ _ _ => N'
      rw [hul'] at hr
      refine cs_range (f := fun i => decide (js'[i]? = js'[i + 1]?)) (n := js'.length - 1) rfl F' N' hr (small_one (by omega) (by omega) (by omega) (by omega)) ((rangeSize_nat _ _).trans (by omega)) (by omega) ?_ ?_ ?_
      · clear F' N' hr
        intro C i t h tk m₂ E' hi1 hns hx F N
        k_steps
        · exact adj (by assumption) (by assumption)
        · exact ⟨_, _, rfl, by assumption⟩
      · clear F' N' hr
        intro C i t h tk m₂ E' hns hx
        k_steps
        exact ⟨_, _, rfl, fun _ _ e => e⟩
      · clear F' N' hr
        intro ys D h tk hys F N hne
        exact oneN_new F N ⟨_, _, _, rfl, rfl, hys, fun e => hne _ (.tail _ (.tail _ (.head _))) e.symm⟩
    clear F N
    rintro v nx h' tk ⟨P', ps', nP', rfl, rfl, hps', hPc'⟩ F N
    refine wpAny_execs_nil ⟨rfl, js'.length, by omega, h', _, R', us', js', P', ps', nP', Lg', lg', nL', oc', [(R', W.listOf us'.toArray nR')], j + 1, d', td', _, rfl, rfl, F, ?_, hdc', hd', hi', hcy', hst', hps', hlg, by omega, hPc', hLc', .inr ⟨_, rfl, hRc'⟩⟩
    exact news_sub N (by k_allIn)
  · have h0 : placesOf js = [] := by
      refine List.eq_nil_of_length_eq_zero ?_
      have : ¬ (0 : Int) < (ps.length : Nat) := by simpa using hb
      omega
    clear hb
    dsimp only
    k_steps
    rename News _ _ _ _ => N'
    rename Fr _ _ _ _ => F'
    refine hQ _ _ _ _ F'.keep (made_of N') ⟨_, R, Lg, us, lg, js, _, j, rfl, .head _, ?_, .tail _ (.tail _ (.head _)), hi, hcy, hst, h0, hlg, hj⟩
    rcases hR with ⟨rfl, hRl, hRa⟩ | ⟨nR, rfl, hRc⟩
    · exact .inl hRa
    · exact .inr ⟨nR, .tail _ (.tail _ (.tail _ (.tail _ (.head _))))⟩
end Mine

end
theorem Mine.calmStruck : True := by
  w_top off
  trivial
section
open PySem PySem.W
namespace Mine
def Red : List Int → Prop
  | [] => True
  | [_] => True
  | x :: y :: l => x ≠ y ∧ Red (y :: l)
theorem Red.tail {x : Int} : ∀ {l : List Int}, Red (x :: l) → Red l
  | [], _ => trivial
  | _ :: _, h => h.2
theorem Red.cons {x : Int} : ∀ {l : List Int}, Red l → l.head? ≠ some x → Red (x :: l)
  | [], _, _ => trivial
  | y :: l, h, hn => ⟨fun e => hn (by rw [e]; rfl), h⟩
theorem Red.head {x : Int} : ∀ {l : List Int}, Red (x :: l) → l.head? ≠ some x
  | [], _, e => nomatch e
  | y :: l, h, e => h.1 (by injection e with e; exact e.symm)
theorem push_nil (k : Int) : push [] k = [k] := by simp [push]
theorem push_cons (x k : Int) (l : List Int) : push (x :: l) k = if x = k then l else k :: x :: l := by simp [push]
theorem push_ne {k : Int} : ∀ {l : List Int}, l.head? ≠ some k → push l k = k :: l
  | [], _ => push_nil k
  | x :: l, h => by rw [push_cons, if_neg fun e => h (by rw [e]; rfl)]
theorem push_red {l : List Int} {k : Int} (h : Red l) : Red (push l k) := by
  cases l with
  | nil => rw [push_nil]; trivial
  | cons x l =>
    rw [push_cons]
    split
    · exact h.tail
    · rename_i e; exact ⟨fun q => e q.symm, h⟩
theorem push_push {l : List Int} {k : Int} (h : Red l) : push (push l k) k = l := by
  cases l with
  | nil => rw [push_nil, push_cons, if_pos rfl]
  | cons x l =>
    rw [push_cons]
    split
    · rename_i e
      subst e
      exact push_ne h.head
    · rw [push_cons, if_pos rfl]
theorem left_eq (ks : List Int) : leftOf ks = ks.foldr (fun k acc => push acc k) [] := by unfold leftOf; rw [List.foldl_reverse]
theorem left_nil : leftOf [] = [] := rfl
theorem left_cons (k : Int) (ks : List Int) : leftOf (k :: ks) = push (leftOf ks) k := by rw [left_eq, left_eq]; rfl
theorem left_red (ks : List Int) : Red (leftOf ks) := by
  induction ks with
  | nil => trivial
  | cons k ks ih => rw [left_cons]; exact push_red ih
theorem left_of_red : ∀ {ks : List Int}, Red ks → leftOf ks = ks
  | [], _ => rfl
  | k :: ks, h => by rw [left_cons, left_of_red h.tail, push_ne h.head]
theorem left_app (as : List Int) {bs cs : List Int} (h : leftOf bs = leftOf cs) : leftOf (as ++ bs) = leftOf (as ++ cs) := by
  induction as with
  | nil => exact h
  | cons a as ih => rw [List.cons_append, List.cons_append, left_cons, left_cons, ih]
theorem left_pair (as : List Int) (x : Int) (bs : List Int) : leftOf (as ++ x :: x :: bs) = leftOf (as ++ bs) :=
  left_app as (by rw [left_cons, left_cons, push_push (left_red bs)])
theorem split_pair {js : List Int} {i : Nat} (hi : i + 1 < js.length) (h : js[i]? = js[i + 1]?) : ∃ x, js = js.take i ++ x :: x :: js.drop (i + 2) := by
  refine ⟨js[i], ?_⟩
  have e1 : js.drop i = js[i] :: js.drop (i + 1) := List.drop_eq_getElem_cons (by omega)
  have e2 : js.drop (i + 1) = js[i + 1] :: js.drop (i + 2) := List.drop_eq_getElem_cons hi
  have e3 : js[i + 1] = js[i] := by
    rw [List.getElem?_eq_getElem (by omega), List.getElem?_eq_getElem hi] at h
    injection h with h
    exact h.symm
  have e4 := (List.take_append_drop i js).symm
  rw [e1, e2, e3] at e4
  exact e4
theorem strike_left {js : List Int} {p : Int} (hp : p ∈ placesOf js) : leftOf (js.take (p - 1).toNat ++ js.drop (p + 1).toNat) = leftOf js := by
  obtain ⟨h1, h2, h3⟩ := places_mem hp
  have e1 : p.toNat = (p - 1).toNat + 1 := by omega
  have e2 : (p + 1).toNat = (p - 1).toNat + 2 := by omega
  rw [e1] at h3
  obtain ⟨x, hx⟩ := split_pair (i := (p - 1).toNat) (by omega) h3
  rw [e2]
  conv => rhs; rw [hx]
  exact (left_pair _ x _).symm
theorem strikes_left {ks js : List Int} (h : Strikes ks js) : leftOf js = leftOf ks := by
  induction h with
  | refl => rfl
  | step _ hp ih => rw [strike_left hp, ih]
theorem red_of_get : ∀ {js : List Int}, (∀ i, i + 1 < js.length → js[i]? ≠ js[i + 1]?) → Red js
  | [], _ => trivial
  | [_], _ => trivial
  | x :: y :: l, h => ⟨fun e => h 0 (by simp) (by simp [e]), red_of_get fun i hi => by
      have := h (i + 1) (by simpa using hi)
      simpa using this⟩
theorem red_of_places {js : List Int} (h : placesOf js = []) : Red js := by
  refine red_of_get fun i hi e => ?_
  have : (1 : Int) + (i : Int) ∈ placesOf js := by
    unfold placesOf placesF
    refine List.mem_map.mpr ⟨i, List.mem_filter.mpr ⟨List.mem_range.mpr (by omega), ?_⟩, rfl⟩
    exact decide_eq_true e
  rw [h] at this
  exact nomatch this
/-- whatever is struck: the same row is left -/
theorem struck_is {ks js : List Int} (h : Strikes ks js) (hp : placesOf js = []) : js = leftOf ks := by
  rw [← strikes_left h, left_of_red (red_of_places hp)]
theorem red_snoc {st : List Int} {k : Int} (h : Red st) (hn : st.getLast? ≠ some k) : Red (st ++ [k]) := by
  induction st with
  | nil => trivial
  | cons x l ih =>
    cases l with
    | nil => exact ⟨fun e => hn (by simp [e]), trivial⟩
    | cons y l => exact ⟨h.1, ih h.2 (by simpa using hn)⟩
theorem red_init {st : List Int} {k : Int} (h : Red (st ++ [k])) : Red st := by
  induction st with
  | nil => trivial
  | cons x l ih =>
    cases l with
    | nil => trivial
    | cons y l => exact ⟨h.1, ih h.2⟩
theorem laid_go (rest : List Int) : ∀ st : List Int, Red st → Red (rest.foldl put st) ∧ leftOf (rest.foldl put st) = leftOf (st ++ rest) := by
  induction rest with
  | nil => intro st h; simpa using h
  | cons k rest ih =>
    intro st h
    rw [List.foldl_cons]
    by_cases e : st.getLast? = some k
    · obtain ⟨l, hl⟩ := List.getLast?_eq_some_iff.mp e
      have ep : put st k = l := by rw [put, if_pos e, hl]; simp
      rw [ep]
      obtain ⟨a, b⟩ := ih l (red_init (hl ▸ h))
      refine ⟨a, b.trans ?_⟩
      rw [hl, List.append_assoc]
      exact (left_pair l k rest).symm
    · have ep : put st k = st ++ [k] := by rw [put, if_neg e]
      rw [ep]
      obtain ⟨a, b⟩ := ih _ (red_snoc h e)
      refine ⟨a, b.trans ?_⟩
      rw [List.append_assoc]; rfl
theorem laid_is (ks : List Int) : laidOf ks = leftOf ks := by
  obtain ⟨a, b⟩ := laid_go ks [] trivial
  have e : laidOf ks = ks.foldl put [] := rfl
  rw [e, ← left_of_red a, b]; rfl
theorem left_mem (ks : List Int) : ∀ x ∈ leftOf ks, x ∈ ks := by
  induction ks with
  | nil => intro x h; exact h
  | cons k ks ih =>
    intro x hx
    rw [left_cons] at hx
    cases hl : leftOf ks with
    | nil => rw [hl, push_nil] at hx; rw [List.mem_singleton.mp hx]; exact .head _
    | cons y l =>
      rw [hl, push_cons] at hx
      split at hx
      · exact .tail _ (ih x (by rw [hl]; exact .tail _ hx))
      · rcases List.mem_cons.mp hx with rfl | hx
        · exact .head _
        · exact .tail _ (ih x (by rw [hl]; exact hx))
end Mine

end
section
open PySem PySem.W PySem.Calls PyProof.Rows PyProof.Rows.LCg PySem.SeqAt
set_option linter.unusedVariables false
namespace Mine
set_option maxRecDepth 100000
inductive All2 (P : Value → Int → Prop) : List Value → List Int → Prop
  | nil : All2 P [] []
  | cons {v : Value} {k : Int} {vs : List Value} {ks : List Int} : P v k → All2 P vs ks → All2 P (v :: vs) (k :: ks)
theorem All2.mono {P P' : Value → Int → Prop} (hP : ∀ v k, P v k → P' v k) {vs : List Value} {ks : List Int} (h : All2 P vs ks) : All2 P' vs ks := by
  induction h with
  | nil => exact .nil
  | cons a _ ih => exact .cons (hP _ _ a) ih
theorem All2.length {P : Value → Int → Prop} {vs : List Value} {ks : List Int} (h : All2 P vs ks) : vs.length = ks.length := by
  induction h with
  | nil => rfl
  | cons _ _ ih => simp [ih]
theorem All2.append {P : Value → Int → Prop} {vs us : List Value} {ks js : List Int} (h : All2 P vs ks) (g : All2 P us js) : All2 P (vs ++ us) (ks ++ js) := by
  induction h with
  | nil => exact g
  | cons a _ ih => exact .cons a ih
theorem All2.at {P : Value → Int → Prop} {vs : List Value} {ks : List Int} (h : All2 P vs ks) : ∀ (i : Nat) (v : Value), vs[i]? = some v → ∃ k, ks[i]? = some k ∧ P v k := by
  induction h with
  | nil => intro i v hv; simp at hv
  | cons a _ ih =>
    intro i v hv
    cases i with
    | zero => simp at hv; subst hv; exact ⟨_, by simp, a⟩
    | succ i => simpa using ih i v (by simpa using hv)
theorem all2_ints {vs : List Value} {ns : List Int} (g : Int → Int) (h : IntsAre vs ns) : All2 (fun v k => ∃ n t, v = .int n t ∧ n ∈ ns ∧ g n = k) vs (ns.map g) := by
  have key : ∀ {vs : List Value} {ks : List Int}, IntsAre vs ks → (∀ x ∈ ks, x ∈ ns) → All2 (fun v k => ∃ n t, v = .int n t ∧ n ∈ ns ∧ g n = k) vs (ks.map g) := by
    intro vs ks h
    induction h with
    | nil => intro _; exact .nil
    | cons n t _ ih => intro hm; exact .cons ⟨n, t, rfl, hm _ (.head _), rfl⟩ (ih fun x hx => hm x (.tail _ hx))
  exact key h fun _ h => h
theorem AllEx.all2 {prog : Program} {w : World} {R : Addr → Obj → Prop} {vs : List Value} {ks : List Int} (h : AllEx prog w R vs ks) : All2 (fun v k => ∃ a, v = .ref a ∧ ExR prog w R a k ∧ 0 ≤ k ∧ k < 12) vs ks := by
  induction h with
  | nil => exact .nil
  | cons hx hk _ ih => exact .cons ⟨_, rfl, hx, hk⟩ ih
theorem All2.allEx {prog : Program} {w : World} {R : Addr → Obj → Prop} {vs : List Value} {ks : List Int} (h : All2 (fun v k => ∃ a, v = .ref a ∧ ExR prog w R a k ∧ 0 ≤ k ∧ k < 12) vs ks) : AllEx prog w R vs ks := by
  induction h with
  | nil => exact .nil
  | cons hx _ ih => obtain ⟨a, rfl, hx, hk⟩ := hx; exact .cons hx hk ih

/-- the end of an element that makes objects -/
def MkEnd (h₀ : Heap) (L : Addr) (m : Str → Option Value) (s : Shared) (news : List (Addr × Obj)) (P : List (Addr × Obj) → Value → Prop) (y : Value) (s' : Shared) : Prop :=
  ∃ h' tk tl, s' = { s with heap := h', toks := tk } ∧ Fr h₀ L h' m ∧ News h₀ L h' (tl ++ news) ∧ (∀ p ∈ tl, s.heap.get? p.1 = none) ∧ P tl y
section
variable {prog : Program} {w : World} {A : Around} {E : Value → Shared → Prop} {s : Shared} {h₀ : Heap} {L : Addr} {m : Str → Option Value} {env : Env} {elt : PySem.Expr} {x : Str} {scope : Scope} {cl : List (Str × Addr)}
theorem mk_rest {S : List (Addr × Obj) → Prop} {Fin : List Value → List (Addr × Obj) → Prop} {vs : List Value} {ks : List Int} {B X₀ : List (Addr × Obj)} (Src : Value → Int → Prop) (Rel : List (Addr × Obj) → Value → Int → Prop)
    (hmono : ∀ X X' v k, (∀ p ∈ X, p ∈ X') → Rel X v k → Rel X' v k) (hi : All2 Src vs ks) (hS : ∀ X, S (B ++ X))
    (turn : ∀ v k I oI C oC D ys X m₂ h tk (E' : Value → Shared → Prop), Src v k → NsObj oC m₂ → m₂ x = some v → Fr h₀ L h m → News h₀ L h ((I, oI) :: (C, oC) :: (D, lst ys) :: (B ++ X)) → (∀ p ∈ X₀, p ∈ X) →
      wpAny (model prog w) A (eval elt (compEnvC scope cl C env)) (MkEnd h₀ L m { s with heap := h, toks := tk } ((I, oI) :: (C, oC) :: (D, lst ys) :: (B ++ X)) (fun tl y => Rel (tl ++ X) y k)) E' { s with heap := h, toks := tk })
    (fin : ∀ ys X, All2 (Rel X) ys ks → (∀ p ∈ X₀, p ∈ X) → Fin ys (B ++ X)) :
    CompRest prog w A h₀ L m env elt x scope cl s S (fun i v => vs.toArray[i]? = some v) Fin vs.toArray.size 0 [] (B ++ X₀) := by
  have hlen := hi.length
  have key : ∀ (j i : Nat) (ys : List Value) (X : List (Addr × Obj)), i + j = ks.length → All2 (Rel X) ys (ks.take i) → (∀ p ∈ X₀, p ∈ X) → CompRest prog w A h₀ L m env elt x scope cl s S (fun i v => vs.toArray[i]? = some v) Fin j i ys (B ++ X) := by
    intro j
    induction j with
    | zero =>
      intro i ys X hij hy hX
      rw [List.take_of_length_le (by omega)] at hy
      exact CompRest.zero (fin ys X hy hX)
    | succ j ih =>
      intro i ys X hij hy hX
      refine CompRest.succ ?_
      intro v I oI C oC D m₂ h tk E' hv hC hx F N off ne
      obtain ⟨k, hk, hs⟩ := hi.at i v (by simpa using hv)
      refine wpAny_mono (turn v k I oI C oC D ys X m₂ h tk E' hs hC hx F N hX) (fun y s₂ hq => ?_) fun _ _ e => e
      obtain ⟨h', tk', tl, rfl, F', N', ht, hP⟩ := hq
      have offm := off.mem
      refine ⟨h', tk', B ++ (tl ++ X), rfl, F', fun p hp => ?_, Off3.of fun p hp => ?_, hS _, ih (i + 1) _ _ (by omega) ?_ fun p hp => List.mem_append_right _ (hX p hp)⟩
      · refine N' p ?_
        rcases List.mem_cons.mp hp with rfl | hp
        · exact List.mem_append_right _ (.head _)
        rcases List.mem_cons.mp hp with rfl | hp
        · exact List.mem_append_right _ (.tail _ (.head _))
        rcases List.mem_cons.mp hp with rfl | hp
        · exact List.mem_append_right _ (.tail _ (.tail _ (.head _)))
        rcases List.mem_append.mp hp with hp | hp
        · exact List.mem_append_right _ (.tail _ (.tail _ (.tail _ (List.mem_append_left _ hp))))
        rcases List.mem_append.mp hp with hp | hp
        · exact List.mem_append_left _ hp
        · exact List.mem_append_right _ (.tail _ (.tail _ (.tail _ (List.mem_append_right _ hp))))
      · have off2 : ∀ {q : Addr × Obj}, q ∈ (I, oI) :: (C, oC) :: (D, lst ys) :: (B ++ X) → p ∈ tl → p.1 ≠ q.1 := fun {q} hq hp e => by
          have := (N q hq).1
          rw [← e] at this
          exact absurd ((ht p hp).symm.trans this) (fun x => nomatch x)
        rcases List.mem_append.mp hp with hp | hp
        · exact offm p (List.mem_append_left _ hp)
        rcases List.mem_append.mp hp with hp | hp
        · exact ⟨off2 (.head _) hp, off2 (.tail _ (.head _)) hp, off2 (.tail _ (.tail _ (.head _))) hp⟩
        · exact offm p (List.mem_append_right _ hp)
      · rw [List.take_add_one, hk]
        exact (hy.mono fun v k hr => hmono _ _ _ _ (fun p hp => List.mem_append_right _ hp) hr).append (.cons hP .nil)
  have e : vs.toArray.size = ks.length := by simpa using hlen
  rw [e]
  exact key _ 0 [] X₀ (by omega) .nil fun _ h => h
def CuAt (prog : Program) (w : World) (A : Around) (h₀ : Heap) (L : Addr) (m : Str → Option Value) (env : Env) (elt : PySem.Expr) (x : Str) (scope : Scope) (cl : List (Str × Addr)) (y : Str) (Q : Flow → Shared → Prop) (xv : Value) (s₁ : Shared) : Prop :=
  CompSrc prog w A h₀ L m env elt x scope cl (fun s₂ => FinA h₀ L m s₂ y Q) xv s₁
theorem cu_stop {iter : PySem.Expr} {y : Str} {px py : Pos} {pos spos : Pos} {Q : Flow → Shared → Prop} (F₀ : Fr h₀ L s.heap m) (hLe : env.locals = L)
    (hsw : swapsWith (.ListComp elt [⟨.Name x px, iter, [], 0⟩] scope pos) (some (.Name y py)) spos.line env = pure true)
    (hclos : closureFor scope env = pure cl) (hcell : ∀ z ∈ scope.names, z.2 ≠ .cell) (hkind : scope.kind = .function)
    (hnames : ∀ z ∈ scope.names, z.2 = .local → scope.names.lookup z.1 = some .local) (hx : scope.names.lookup x = some .local)
    (hy : env.kindOf y = some .local) (hp : (env.scope.kind == .class || (env.scope.kind == .module && env.locals != env.globals)) = false)
    (h : wpAny (model prog w) A (eval iter env) (CuAt prog w A h₀ L m env elt x scope cl y Q) E s)
    (hs : ∀ x, foldedSetIterable iter env x = pure x := by intro _; rfl) :
    wpAny (model prog w) A (exec (.Assign [.Name y py] (.ListComp elt [⟨.Name x px, iter, [], 0⟩] scope pos) spos) env) Q E s :=
  Assign_ListComp_U F₀ hLe hsw hclos hcell hkind hnames hx hy hp h hs
theorem cu_led {B X₀ : List (Addr × Obj)} {ax : Addr} {vs : List Value} {ks : List Int} {k : Nat} {y : Str} {Q : Flow → Shared → Prop} (Src : Value → Int → Prop) (Rel : List (Addr × Obj) → Value → Int → Prop)
    (hmono : ∀ X X' v k, (∀ p ∈ X, p ∈ X') → Rel X v k → Rel X' v k) (hi : All2 Src vs ks)
    (hh : A.handled = none) (F : Fr h₀ L s.heap m) (N : News h₀ L s.heap (B ++ X₀)) (hm : (ax, W.listOf vs.toArray k) ∈ B) (hsz : vs.length ≤ 900)
    (turn : ∀ g v k I oI C oC D ys X m₂ h tk (E' : Value → Shared → Prop), Src v k → NsObj oC m₂ → m₂ x = some v → Fr h₀ L h m → News h₀ L h ((I, oI) :: (C, oC) :: (D, lst ys) :: (B ++ X)) → (∀ p ∈ X₀, p ∈ X) →
      wpAny (model prog w) A (eval elt (compEnvC scope cl C env)) (MkEnd h₀ L m { { s with heap := g } with heap := h, toks := tk } ((I, oI) :: (C, oC) :: (D, lst ys) :: (B ++ X)) (fun tl y => Rel (tl ++ X) y k)) E' { { s with heap := g } with heap := h, toks := tk })
    (fin : ∀ ys X D h tk, All2 (Rel X) ys ks → (∀ p ∈ X₀, p ∈ X) → Fr h₀ L h (fun z => if z = y then some (.ref D) else m z) → News h₀ L h ((D, lst ys) :: (B ++ X)) → Off1 D (B ++ X) → Q .next { s with heap := h, toks := tk }) :
    CuAt prog w A h₀ L m env elt x scope cl y Q (.ref ax) s :=
  CompSrc.ledger hh F N (List.mem_append_left _ hm) (by rw [sizeLine_eq]; simp; omega) fun g =>
    mk_rest (s := { s with heap := g }) Src Rel hmono hi (fun X => .inr ⟨_, List.mem_append_left _ hm, rfl, _, rfl⟩) (turn g) fun ys X h1 h2 => fun D h tk F' N' o1 => fin ys X D h tk h1 h2 F' N' o1
def CvAt (prog : Program) (w : World) (A : Around) (h₀ : Heap) (L : Addr) (m : Str → Option Value) (env : Env) (elt : PySem.Expr) (x : Str) (scope : Scope) (cl : List (Str × Addr)) (Q : Value → Shared → Prop) (xv : Value) (s₁ : Shared) : Prop :=
  CompSrc prog w A h₀ L m env elt x scope cl (fun s₂ => FinE h₀ L m s₂ Q) xv s₁
theorem cv_stop {iter : PySem.Expr} {px : Pos} {pos : Pos} {Q : Value → Shared → Prop} (F₀ : Fr h₀ L s.heap m)
    (hclos : closureFor scope env = pure cl) (hcell : ∀ y ∈ scope.names, y.2 ≠ .cell) (hkind : scope.kind = .function)
    (hnames : ∀ y ∈ scope.names, y.2 = .local → scope.names.lookup y.1 = some .local) (hx : scope.names.lookup x = some .local)
    (h : wpAny (model prog w) A (eval iter env) (CvAt prog w A h₀ L m env elt x scope cl Q) E s)
    (hs : ∀ x, foldedSetIterable iter env x = pure x := by intro _; rfl) :
    wpAny (model prog w) A (eval (.ListComp elt [⟨.Name x px, iter, [], 0⟩] scope pos) env) Q E s := ListComp_U F₀ hclos hcell hkind hnames hx h hs
theorem cv_led {B X₀ : List (Addr × Obj)} {ax : Addr} {vs : List Value} {ks : List Int} {k : Nat} {Q : Value → Shared → Prop} (Src : Value → Int → Prop) (Rel : List (Addr × Obj) → Value → Int → Prop)
    (hmono : ∀ X X' v k, (∀ p ∈ X, p ∈ X') → Rel X v k → Rel X' v k) (hi : All2 Src vs ks)
    (hh : A.handled = none) (F : Fr h₀ L s.heap m) (N : News h₀ L s.heap (B ++ X₀)) (hm : (ax, W.listOf vs.toArray k) ∈ B) (hsz : vs.length ≤ 900)
    (turn : ∀ g v k I oI C oC D ys X m₂ h tk (E' : Value → Shared → Prop), Src v k → NsObj oC m₂ → m₂ x = some v → Fr h₀ L h m → News h₀ L h ((I, oI) :: (C, oC) :: (D, lst ys) :: (B ++ X)) → (∀ p ∈ X₀, p ∈ X) →
      wpAny (model prog w) A (eval elt (compEnvC scope cl C env)) (MkEnd h₀ L m { { s with heap := g } with heap := h, toks := tk } ((I, oI) :: (C, oC) :: (D, lst ys) :: (B ++ X)) (fun tl y => Rel (tl ++ X) y k)) E' { { s with heap := g } with heap := h, toks := tk })
    (fin : ∀ ys X D h tk, All2 (Rel X) ys ks → (∀ p ∈ X₀, p ∈ X) → Fr h₀ L h m → News h₀ L h ((D, lst ys) :: (B ++ X)) → Off1 D (B ++ X) → Q (.ref D) { s with heap := h, toks := tk }) :
    CvAt prog w A h₀ L m env elt x scope cl Q (.ref ax) s :=
  CompSrc.ledger hh F N (List.mem_append_left _ hm) (by rw [sizeLine_eq]; simp; omega) fun g =>
    mk_rest (s := { s with heap := g }) Src Rel hmono hi (fun X => .inr ⟨_, List.mem_append_left _ hm, rfl, _, rfl⟩) (turn g) fun ys X h1 h2 => fun D h tk F' N' o1 => fin ys X D h tk h1 h2 F' N' o1
theorem ext_use {D b : Addr} {us vs : List Value} {nD nb : Nat} {news rest : List (Addr × Obj)} {Q : Value → Shared → Prop} (F : Fr h₀ L s.heap m) (N : News h₀ L s.heap news) (hD : (D, W.listOf us.toArray nD) ∈ news) (hb : (b, W.listOf vs.toArray nb) ∈ news)
    (hrest : ∀ p ∈ rest, p ∈ news) (hne : ∀ p ∈ rest, p.1 ≠ D) (hbD : b ≠ D) (hv : vs.length ≠ 0) (hz : us.length + vs.length ≤ 900)
    (h : ∀ h', Fr h₀ L h' m → News h₀ L h' ((D, W.listOf (us ++ vs).toArray (nD + 1)) :: rest) → Q .none { s with heap := h' }) :
    wpAny (model prog w) A (call (.builtin "list.extend") [.ref D, .ref b]) Q E s := by
  have N' : News h₀ L s.heap ((D, W.listOf us.toArray nD) :: (b, W.listOf vs.toArray nb) :: rest) := fun p hp => by
    rcases List.mem_cons.mp hp with rfl | hp
    · exact N _ hD
    rcases List.mem_cons.mp hp with rfl | hp
    · exact N _ hb
    · exact N _ (hrest p hp)
  refine kl_extend (l := us ++ vs) F N' (.tail _ (.head _)) (by simp) (by simpa using hv) (.head fun p hp => ?_) (by simp [Builtin.List.listTooLong, sizeLine_eq]; omega) (by rw [sizeLine_eq]; simp; omega) (by rw [sizeLine_eq]; simp; omega) fun h' F' N'' => h h' F' fun p hp => ?_
  · rcases List.mem_cons.mp hp with rfl | hp
    · exact hbD
    · exact hne p hp
  · rcases List.mem_cons.mp hp with rfl | hp
    · exact N'' _ (.head _)
    · exact N'' _ (.tail _ (.tail _ hp))
end
end Mine

end
section
open PySem PySem.W PySem.Calls PyProof.Rows PyProof.Rows.LCg PySem.SeqAt
set_option linter.unusedVariables false
namespace Mine
set_option maxRecDepth 100000
section
variable {w : World} {mg mb : Str → Option Value} {mean : ExcName → Option Value} {A : Around} {s : Shared} {Q E : Value → Shared → Prop} {h₀ : Heap} {L : Addr} {m : Str → Option Value} {news : List (Addr × Obj)}
theorem left_use {a : Addr} {vs : List Value} {ks : List Int} (F : Fr h₀ L s.heap m) (N : News h₀ L s.heap news) (KX : (Mine.hd.heap_39 w.params).In h₀) (T : Top Mine.hd.view_39 (looseW Mine.hd.view_39 []) mean mg mb h₀)
    (hl : s.heap.IsList a vs.toArray) (hi : IntsAre vs ks) (hn : ks.length ≤ 12) (hh : A.handled = none) (hd : A.depth ≤ 500) (hu : A.units ≤ 2000)
    (h : ∀ D us n h' tk, Fr h₀ L h' m → News h₀ L h' ((D, W.listOf us.toArray n) :: news) → IntsAre us (leftOf ks) → s.heap.get? D = none → Q (.ref D) { s with heap := h', toks := tk }) :
    wpAny (model PySem.Challenge.rw_sc0006_01.row.prog w) A (call (.ref 102) [.ref a]) Q E s := by
  refine at_lv (d := 500) (u := 2000) (left_spec w mg mb mean s Q E (KX.keeps F.keep) (T.keeps F.keep) a vs ks hl hi hn ?_) hh hd hu
  rintro r h' tk tl kp hM ⟨D, us, n, rfl, hD, h1⟩
  have N' := news_add F N kp hM
  refine h D us n h' tk (F.keeps kp) (fun p hp => ?_) h1 (hM _ hD).1
  rcases List.mem_cons.mp hp with rfl | hp
  · exact N' _ (List.mem_append_left _ hD)
  · exact N' _ (List.mem_append_right _ hp)
theorem exam_use {n : Int} {t : Tok} (F : Fr h₀ L s.heap m) (N : News h₀ L s.heap news) (KX : (Mine.hd.heap_39 w.params).In h₀) (T : Top Mine.hd.view_39 (looseW Mine.hd.view_39 []) mean mg mb h₀)
    (hh : A.handled = none) (hd : A.depth ≤ 450) (hu : A.units ≤ 1200)
    (h : ∀ a h' tk tl, Fr h₀ L h' m → News h₀ L h' (tl ++ news) → (∀ p ∈ tl, s.heap.get? p.1 = none) → ExR PySem.Challenge.rw_sc0006_01.row.prog w (fun a o => (a, o) ∈ tl) a (n.fmod 12) → Q (.ref a) { s with heap := h', toks := tk }) :
    wpAny (model PySem.Challenge.rw_sc0006_01.row.prog w) A (call (.ref 71) [.int n t]) Q E s := by
  refine at_lv (d := 450) (u := 1200) (exam_spec w mg mb mean s Q E (KX.keeps F.keep) (T.keeps F.keep) n t ?_) hh hd hu
  rintro r h' tk tl kp hM ⟨a, rfl, hx⟩
  exact h a h' tk tl (F.keeps kp) (news_add F N kp hM) (fun p hp => (hM p hp).1) hx
theorem fldx_use {k : Int} {t : Tok} (F : Fr h₀ L s.heap m) (N : News h₀ L s.heap news) (KX : (Mine.hd.heap_39 w.params).In h₀) (T : Top Mine.hd.view_39 (looseW Mine.hd.view_39 []) mean mg mb h₀)
    (hk : 0 ≤ k ∧ k < 12) (hh : A.handled = none) (hd : A.depth ≤ 500) (hu : A.units ≤ 2000)
    (h : ∀ a h' tk tl, Fr h₀ L h' m → News h₀ L h' (tl ++ news) → (∀ p ∈ tl, s.heap.get? p.1 = none) → FieldsR PySem.Challenge.rw_sc0006_01.row.prog w (fun a o => (a, o) ∈ tl) (.ref a) k → Q (.ref a) { s with heap := h', toks := tk }) :
    wpAny (model PySem.Challenge.rw_sc0006_01.row.prog w) A (call (.ref 64) [.int k t]) Q E s := by
  refine at_lv (d := 500) (u := 2000) (fields_spec w mg mb mean s Q E (KX.keeps F.keep) (T.keeps F.keep) k t hk.1 hk.2 ?_) hh hd hu
  rintro r h' tk tl kp hM hx
  obtain ⟨D, _, _, _, _, _, _, rfl, _⟩ := id hx
  exact h D h' tk tl (F.keeps kp) (news_add F N kp hM) (fun p hp => (hM p hp).1) hx
theorem parts_use {k : Int} {a : Addr} {X : List (Addr × Obj)} (F : Fr h₀ L s.heap m) (N : News h₀ L s.heap news) (KX : (Mine.hd.heap_39 w.params).In h₀) (T : Top Mine.hd.view_39 (looseW Mine.hd.view_39 []) mean mg mb h₀)
    (hx : ExR PySem.Challenge.rw_sc0006_01.row.prog w (fun a o => (a, o) ∈ X) a k) (hX : ∀ p ∈ X, p ∈ news) (hh : A.handled = none) (hd : A.depth ≤ 500) (hu : A.units ≤ 2000)
    (h : ∀ a h' tk tl, Fr h₀ L h' m → News h₀ L h' (tl ++ news) → (∀ p ∈ tl, s.heap.get? p.1 = none) → FieldsR PySem.Challenge.rw_sc0006_01.row.prog w (fun a o => (a, o) ∈ tl ∨ (a, o) ∈ X) (.ref a) k → Q (.ref a) { s with heap := h', toks := tk }) :
    wpAny (model PySem.Challenge.rw_sc0006_01.row.prog w) A (call (.ref 78) [.ref a]) Q E s := by
  refine at_lv (d := 500) (u := 2000) (parts_spec w mg mb mean s Q E (KX.keeps F.keep) (T.keeps F.keep) (fun a o => (a, o) ∈ X) (fun a o e => (N _ (hX _ e)).1) a k hx ?_) hh hd hu
  rintro r h' tk tl kp hM hx
  obtain ⟨D, _, _, _, _, _, _, rfl, _⟩ := id hx
  exact h D h' tk tl (F.keeps kp) (news_add F N kp hM) (fun p hp => (hM p hp).1) hx
theorem told_use {n : Nat} {t : Tok} (F : Fr h₀ L s.heap m) (N : News h₀ L s.heap news) (KX : (Mine.hd.heap_39 w.params).In h₀) (T : Top Mine.hd.view_39 (looseW Mine.hd.view_39 []) mean mg mb h₀)
    (hn : n ≤ 12) (hh : A.handled = none) (hd : A.depth ≤ 500) (hu : A.units ≤ 2000)
    (h : ∀ t h' tk, Fr h₀ L h' m → News h₀ L h' news → Q (.str (told n) t) { s with heap := h', toks := tk }) :
    wpAny (model PySem.Challenge.rw_sc0006_01.row.prog w) A (call (.ref 109) [.int n t]) Q E s := by
  refine at_lv (d := 500) (u := 2000) (told_spec w mg mb mean s Q E (KX.keeps F.keep) (T.keeps F.keep) n t hn ?_) hh hd hu
  rintro r h' tk tl kp hM ⟨t, rfl⟩
  exact h t h' tk (F.keeps kp) (N.grown kp)
theorem laid_use {a : Addr} {vs : List Value} {ks : List Int} {X : List (Addr × Obj)} (F : Fr h₀ L s.heap m) (N : News h₀ L s.heap news) (KX : (Mine.hd.heap_39 w.params).In h₀) (T : Top Mine.hd.view_39 (looseW Mine.hd.view_39 []) mean mg mb h₀)
    (hl : s.heap.IsList a vs.toArray) (hx : AllEx PySem.Challenge.rw_sc0006_01.row.prog w (fun a o => (a, o) ∈ X) vs ks) (hX : ∀ p ∈ X, p ∈ news) (hn : ks.length ≤ 12) (hh : A.handled = none) (hd : A.depth ≤ 450) (hu : A.units ≤ 1200)
    (h : ∀ D us n h' tk, Fr h₀ L h' m → News h₀ L h' ((D, W.listOf us.toArray n) :: news) → AllEx PySem.Challenge.rw_sc0006_01.row.prog w (fun a o => h'.get? a = some o) us (leftOf ks) → Q (.ref D) { s with heap := h', toks := tk }) :
    wpAny (model PySem.Challenge.rw_sc0006_01.row.prog w) A (call (.ref 85) [.ref a]) Q E s := by
  refine at_lv (d := 450) (u := 1200) (laid_spec w mg mb mean s Q E (KX.keeps F.keep) (T.keeps F.keep) a vs ks hl (hx.mono fun a o e => (N _ (hX _ e)).1) hn ?_) hh hd hu
  rintro r h' tk tl kp hM ⟨D, us, n, rfl, hD, h1⟩
  have N' := news_add F N kp hM
  refine h D us n h' tk (F.keeps kp) (fun p hp => ?_) (laid_is ks ▸ h1.mono fun a o e => kp _ _ e)
  rcases List.mem_cons.mp hp with rfl | hp
  · exact N' _ (List.mem_append_left _ hD)
  · exact N' _ (List.mem_append_right _ hp)
theorem struck_use {a : Addr} {vs : List Value} {ks : List Int} {X : List (Addr × Obj)} {na : Nat} {dr : Int} {t : Tok} (F : Fr h₀ L s.heap m) (N : News h₀ L s.heap news) (KX : (Mine.hd.heap_39 w.params).In h₀) (T : Top Mine.hd.view_39 (looseW Mine.hd.view_39 []) mean mg mb h₀)
    (hl : (a, W.listOf vs.toArray na) ∈ news) (hx : AllEx PySem.Challenge.rw_sc0006_01.row.prog w (fun a o => (a, o) ∈ X) vs ks) (hX : ∀ p ∈ X, p ∈ news) (hn : ks.length ≤ 12) (hdr : 0 ≤ dr) (hh : A.handled = none) (hd : A.depth ≤ 400) (hu : A.units ≤ 1000)
    (h : ∀ T R Lg us lg js nR nL j h' tk, Fr h₀ L h' m → News h₀ L h' ((T, ({ cls := .type "tuple", data := .seq #[.ref R, .ref Lg] } : Obj)) :: (R, W.listOf us.toArray nR) :: (Lg, W.listOf lg.toArray nL) :: news) →
      AllEx PySem.Challenge.rw_sc0006_01.row.prog w (fun a o => (a, o) ∈ X) us js → js = leftOf ks → StrsAre lg (logTo ks.length j) → js.length + 2 * j = ks.length → Q (.ref T) { s with heap := h', toks := tk }) :
    wpAny (model PySem.Challenge.rw_sc0006_01.row.prog w) A (call (.ref 95) [.ref a, .int dr t]) Q E s := by
  refine at_lv (d := 400) (u := 1000) (struck_spec w mg mb mean s Q E (KX.keeps F.keep) (T.keeps F.keep) a vs ks dr t ⟨_, (N _ hl).1, rfl, _, rfl⟩ (hx.mono fun a o e => (N _ (hX _ e)).1) hn hdr (fun a o => (a, o) ∈ X) ⟨hx⟩ ?_) hh hd hu
  rintro r h' tk tl kp hM ⟨T, R, Lg, us, lg, js, nL, j, rfl, hT, hR, hL, _, hc, hst, hp, hlg, hj⟩
  have N' := news_add F N kp hM
  have hR' : ∃ nR, (R, W.listOf us.toArray nR) ∈ tl ++ news := by
    rcases hR with ⟨rfl, rfl⟩ | ⟨nR, hR⟩
    · exact ⟨na, List.mem_append_right _ hl⟩
    · exact ⟨nR, List.mem_append_left _ hR⟩
  obtain ⟨nR, hR'⟩ := hR'
  refine h T R Lg us lg js nR nL j h' tk (F.keeps kp) (fun p hp => ?_) hc.all (struck_is hst hp) hlg hj
  rcases List.mem_cons.mp hp with rfl | hp
  · exact N' _ (List.mem_append_left _ hT)
  rcases List.mem_cons.mp hp with rfl | hp
  · exact N' _ hR'
  rcases List.mem_cons.mp hp with rfl | hp
  · exact N' _ (List.mem_append_left _ hL)
  · exact N' _ (List.mem_append_right _ hp)
theorem rows_use {l b : Addr} {vs us : List Value} {ks : List Int} {R R' : Addr → Obj → Prop} (F : Fr h₀ L s.heap m) (N : News h₀ L s.heap news) (KX : (Mine.hd.heap_39 w.params).In h₀) (T : Top Mine.hd.view_39 (looseW Mine.hd.view_39 []) mean mg mb h₀)
    (hl : s.heap.IsList l vs.toArray) (hb : s.heap.IsList b us.toArray) (hx : AllEx PySem.Challenge.rw_sc0006_01.row.prog w R vs ks) (hy : AllEx PySem.Challenge.rw_sc0006_01.row.prog w R' us ks) (hR : ∀ a o, R a o → s.heap.get? a = some o) (hR' : ∀ a o, R' a o → s.heap.get? a = some o)
    (hh : A.handled = none) (hd : A.depth ≤ 500) (hu : A.units ≤ 1900)
    (h : ∀ h' tk, Fr h₀ L h' m → News h₀ L h' news → Q (.bool true) { s with heap := h', toks := tk }) :
    wpAny (model PySem.Challenge.rw_sc0006_01.row.prog w) A (compareOp .Eq (.ref l) (.ref b)) Q E s :=
  rows_eq F N KX T hl hb (hx.mono hR) (hy.mono hR') hh hd hu fun h' tk F' N' _ => h h' tk F' N'
end
section
variable {prog prog' : Program} {w w' : World} {A : Around} {s : Shared}
theorem pairs_any {es : List DictEntry} {kvs : List (Int × Value)} (h : Pairs (intKind prog w) es kvs) : Pairs (intKind prog' w') es kvs := by
  induction h with
  | nil => exact .nil
  | cons a b _ ih => exact .cons a b ih
theorem dict_any {o : Obj} {kvs : List (Int × Value)} (h : o.IsDictOf (intKind prog w) kvs) : o.IsDictOf (intKind prog' w') kvs := by
  obtain ⟨es, ep, a, b, c, d, e⟩ := h
  exact ⟨es, ep, a, b, c, pairs_any d, e⟩
theorem opt_at {R R' : Addr → Obj → Prop} {o1 o2 : Addr} {k : Int} (hR : ∀ a o, R a o → s.heap.get? a = some o) (hR' : ∀ a o, R' a o → s.heap.get? a = some o) (h1 : OptR prog w R o1 k) (h2 : OptR prog w R' o2 k) (hu : A.units < cLine) : EqAt A s (.ref o1) (.ref o2) true := by
  by_cases e : o1 = o2
  · subst e; exact EqAt.same _
  refine EqAt.of_refs e fun prog' w' E Q hq => ?_
  obtain ⟨l1, b1, ka, r1, d1, e1⟩ := h1
  obtain ⟨l2, b2, kb, r2, d2, e2⟩ := h2
  have D1 := Heap.dictOf_iff.mpr ⟨b1, hR _ _ r1, dict_any (prog' := prog') (w' := w') d1⟩
  have D2 := Heap.dictOf_iff.mpr ⟨b2, hR' _ _ r2, dict_any (prog' := prog') (w' := w') d2⟩
  unfold OptKvs at e1 e2
  have bb : ∀ x y : Bool, SeqAt.EqAt A.in1 s (.bool x) (.bool y) (x == y) := fun x y => SeqAt.EqAt.bool_bool x y
  by_cases c : k > 9
  · rw [if_pos c] at e1 e2
    rcases e1 with rfl | rfl <;> rcases e2 with rfl | rfl
    · exact keq_eq l1 l2 D1 D2 hu (fun _ => .hit (y := .bool (k == 11)) rfl (bb _ _) (.hit (y := .bool true) rfl (bb _ _) .nil)) (by simpa using hq)
    · exact keq_eq l1 l2 D1 D2 hu (fun _ => .hit (y := .bool (k == 11)) rfl (bb _ _) (.hit (y := .bool true) rfl (bb _ _) .nil)) (by simpa using hq)
    · exact keq_eq l1 l2 D1 D2 hu (fun _ => .hit (y := .bool true) rfl (bb _ _) (.hit (y := .bool (k == 11)) rfl (bb _ _) .nil)) (by simpa using hq)
    · exact keq_eq l1 l2 D1 D2 hu (fun _ => .hit (y := .bool true) rfl (bb _ _) (.hit (y := .bool (k == 11)) rfl (bb _ _) .nil)) (by simpa using hq)
  · rw [if_neg c] at e1 e2
    subst e1 e2
    exact keq_eq (r := true) l1 l2 D1 D2 hu (fun _ => .nil) (by simpa using hq)
theorem strs_at {x y : Str} {t u : Tok} (e : x = y) : EqAt A s (.str x t) (.str y u) true := by
  subst e
  have h := EqAt.str_str (A := A) (s := s) x t x u
  rwa [beq_self_eq_true] at h
theorem all_true (n : Nat) : ((List.range n).all fun _ => true) = true := List.all_eq_true.mpr fun _ _ => rfl
theorem ints_at {x : Int} {t u : Tok} : EqAt A s (.int x t) (.int x u) true := by
  have h := EqAt.int_int (A := A) (s := s) x t x u
  rwa [beq_self_eq_true] at h
theorem msg_at {k : Int} {u v : Value} (h1 : MsgV k u) (h2 : MsgV k v) : EqAt A s u v true := by
  unfold MsgV at h1 h2
  by_cases c : k = 5
  · rw [if_pos c] at h1 h2
    obtain ⟨t, rfl⟩ := h1; obtain ⟨t', rfl⟩ := h2
    exact strs_at rfl
  · rw [if_neg c] at h1 h2
    by_cases c : k = 4
    · rw [if_pos c] at h1 h2
      obtain ⟨t, rfl⟩ := h1; obtain ⟨t', rfl⟩ := h2
      exact strs_at rfl
    · rw [if_neg c] at h1 h2
      subst h1 h2
      exact EqAt.same _
theorem flds_at {R R' : Addr → Obj → Prop} {u v : Value} {k : Int} (hR : ∀ a o, R a o → s.heap.get? a = some o) (hR' : ∀ a o, R' a o → s.heap.get? a = some o) (h1 : FieldsR prog w R u k) (h2 : FieldsR prog w R' v k) (hu : A.units + 1 < cLine) : EqAt A s u v true := by
  obtain ⟨D, t1, t2, vm, t4, t5, od, rfl, hD, hm, ho⟩ := h1
  obtain ⟨D', t1', t2', vm', t4', t5', od', rfl, hD', hm', ho'⟩ := h2
  by_cases e : D = D'
  · subst e; exact EqAt.same _
  have T1 : s.heap.IsTuple D #[.str (srcOf k) t1, .str (wantOf k) t2, vm, .int (linOf k) t4, .int (indOf k) t5, .ref od] := ⟨_, hR _ _ hD, rfl, _, rfl⟩
  have T2 : s.heap.IsTuple D' #[.str (srcOf k) t1', .str (wantOf k) t2', vm', .int (linOf k) t4', .int (indOf k) t5', .ref od'] := ⟨_, hR' _ _ hD', rfl, _, rfl⟩
  have hh := RcAt.tuples (A := A) (e := fun _ => true) T1 T2 (by omega) (fun j h1 h2 => by
    have hj : j < 6 := h1
    match j, hj with
    | 0, _ => exact strs_at rfl
    | 1, _ => exact strs_at rfl
    | 2, _ => exact msg_at hm hm'
    | 3, _ => exact ints_at
    | 4, _ => exact ints_at
    | 5, _ => exact opt_at hR hR' ho ho' hu)
  rw [all_true] at hh
  exact EqAt.of_refs e hh
theorem ne_rows {prog : Program} {w : World} {A : Around} {E : Value → Shared → Prop} {s : Shared} {R R' : Addr → Obj → Prop} {l b : Addr} {vs us : List Value} {ks : List Int} {Q : Value → Shared → Prop} (hR : ∀ a o, R a o → s.heap.get? a = some o) (hR' : ∀ a o, R' a o → s.heap.get? a = some o)
    (hl : s.heap.IsList l vs.toArray) (hb : s.heap.IsList b us.toArray) (hx : All2 (FieldsR prog w R) vs ks) (hy : All2 (FieldsR prog w R') us ks) (hu : A.units ≤ 1900) (h : Q (.bool false) s) :
    wpAny (model prog w) A (compareOp .NotEq (.ref l) (.ref b)) Q E s := by
  have hc : (1902 : Nat) < cLine := by decide
  refine RcNeAt.lists (e := fun _ => true) hl hb (by simp [hx.length, hy.length]) (by omega) (fun j h1 h2 => ?_) prog w E Q (by rw [all_true]; exact h)
  obtain ⟨k, hk, x1⟩ := hx.at j vs.toArray[j] (by simp at h1 ⊢)
  obtain ⟨k', hk', x2⟩ := hy.at j us.toArray[j] (by simp at h2 ⊢)
  rw [hk] at hk'
  cases hk'
  exact flds_at hR hR' x1 x2 (by show A.units + 1 + 1 < cLine; omega)
theorem logs_eq {prog : Program} {w : World} {A : Around} {E : Value → Shared → Prop} {s : Shared} {l b : Addr} {vs us : List Value} {xs : List Str} {Q : Value → Shared → Prop}
    (hl : s.heap.IsList l vs.toArray) (hb : s.heap.IsList b us.toArray) (hx : StrsAre vs xs) (hy : StrsAre us xs) (hu : A.units ≤ 1900) (h : Q (.bool true) s) :
    wpAny (model prog w) A (compareOp .Eq (.ref l) (.ref b)) Q E s := by
  have hc : (1902 : Nat) < cLine := by decide
  have hat : ∀ {vs : List Value} {xs : List Str}, StrsAre vs xs → ∀ (i : Nat) (v : Value), vs[i]? = some v → ∃ x, xs[i]? = some x ∧ IsS v x := by
    intro vs xs h
    induction h with
    | nil => intro i v hv; simp at hv
    | cons a _ ih =>
      intro i v hv
      cases i with
      | zero => simp at hv; subst hv; exact ⟨_, by simp, a⟩
      | succ i => simpa using ih i v (by simpa using hv)
  refine eq_listAt (e := fun _ => true) hl hb (by simp [hx.length, hy.length]) (by omega) (fun j h1 h2 => ?_) (by rw [all_true]; exact h)
  obtain ⟨x, hk, t, e1⟩ := hat hx j vs.toArray[j] (by simp at h1 ⊢)
  obtain ⟨x', hk', t', e2⟩ := hat hy j us.toArray[j] (by simp at h2 ⊢)
  rw [hk] at hk'
  cases hk'
  rw [e1, e2]
  exact strs_at rfl
end
end Mine

end
section
open PySem PySem.W PySem.Calls PyProof.Rows
set_option linter.unusedVariables false
namespace Mine
set_option maxRecDepth 100000
section
variable {M : Model} {A : Around} {E : Value → Shared → Prop} {s : Shared} {env : Env} {h₀ : Heap} {L : Addr}
theorem cut_oneL {st : Stmt} {rest : List Stmt} {Q : Flow → Shared → Prop} {m : Str → Option Value} {news : List (Addr × Obj)} (x : Str) (P : List (Addr × Obj) → Value → List (Addr × Obj) → Prop) (F : Fr h₀ L s.heap m) (N : News h₀ L s.heap news)
    (h1 : wpAny M A (exec st env) (Cut (OneN h₀ L m s x (P news))) E s)
    (h2 : ∀ v nx h' tk, P news v nx → Fr h₀ L h' (fun y => if y = x then some v else m y) → News h₀ L h' nx → wpAny M A (execs rest env) Q E { s with heap := h', toks := tk }) :
    wpAny M A (execs (st :: rest) env) Q E s := cut_oneN x (P news) F h1 h2
theorem cut_noneL {st : Stmt} {rest : List Stmt} {Q : Flow → Shared → Prop} {m : Str → Option Value} {news : List (Addr × Obj)} (P : List (Addr × Obj) → List (Addr × Obj) → Prop) (F : Fr h₀ L s.heap m) (N : News h₀ L s.heap news)
    (h1 : wpAny M A (exec st env) (Cut (NoneN h₀ L m s (P news))) E s)
    (h2 : ∀ nx h' tk, P news nx → Fr h₀ L h' m → News h₀ L h' nx → wpAny M A (execs rest env) Q E { s with heap := h', toks := tk }) :
    wpAny M A (execs (st :: rest) env) Q E s := cut_noneN (P news) F h1 h2
end
theorem fr_weak {h₀ h : Heap} {L : Addr} {m : Str → Option Value} {x : Str} {v : Value} (F : Fr h₀ L h m) (hx : m x = some v) : ∃ u : Str → Option Value, Fr h₀ L h (fun y => if y = x then some v else u y) := ⟨m, fr_as F hx⟩
theorem ints_all2 {P : Int → Prop} {vs : List Value} {ks : List Int} (h : IntsAre vs ks) : (∀ k ∈ ks, P k) → All2 (fun v k => ∃ t, v = .int k t ∧ P k) vs ks := by
  induction h with
  | nil => intro _; exact .nil
  | cons n t _ ih => intro hm; exact .cons ⟨t, rfl, hm _ (.head _)⟩ (ih fun x hx => hm x (.tail _ hx))
theorem kind_same {k x : Int} (h : 0 ≤ k ∧ k < 12) : (k + 12 * x).fmod 12 = k := by
  rw [Int.fmod_eq_emod_of_nonneg _ (by decide)]; omega
theorem exr_mono {prog : Program} {w : World} : ∀ (X X' : List (Addr × Obj)) (v : Value) (k : Int), (∀ p ∈ X, p ∈ X') → (∃ a, v = .ref a ∧ ExR prog w (fun a o => (a, o) ∈ X) a k ∧ 0 ≤ k ∧ k < 12) → ∃ a, v = .ref a ∧ ExR prog w (fun a o => (a, o) ∈ X') a k ∧ 0 ≤ k ∧ k < 12 :=
  fun X X' v k h ⟨a, e, hx, hk⟩ => ⟨a, e, hx.mono _ _ fun a o e => h _ e, hk⟩
theorem flr_mono {prog : Program} {w : World} : ∀ (X X' : List (Addr × Obj)) (v : Value) (k : Int), (∀ p ∈ X, p ∈ X') → FieldsR prog w (fun a o => (a, o) ∈ X) v k → FieldsR prog w (fun a o => (a, o) ∈ X') v k :=
  fun X X' v k h hx => hx.mono _ _ fun a o e => h _ e
theorem left_len (ks : List Int) : (leftOf ks).length ≤ ks.length := by
  induction ks with
  | nil => exact Nat.le_refl _
  | cons k ks ih =>
    rw [left_cons]
    cases hl : leftOf ks with
    | nil => rw [push_nil]; simp
    | cons y l =>
      rw [hl] at ih
      rw [push_cons]
      simp only [List.length_cons] at ih ⊢
      split <;> (try simp only [List.length_cons]) <;> omega
def TwoN (h₀ : Heap) (L : Addr) (m : Str → Option Value) (s : Shared) (x y : Str) (P : Value → Value → List (Addr × Obj) → Prop) (s' : Shared) : Prop :=
  ∃ h' tk v u nx, s' = { s with heap := h', toks := tk } ∧ P v u nx ∧ Fr h₀ L h' (fun z => if z = y then some u else if z = x then some v else m z) ∧ News h₀ L h' nx
theorem cut_twoL {M : Model} {A : Around} {E : Value → Shared → Prop} {s : Shared} {env : Env} {h₀ : Heap} {L : Addr} {st : Stmt} {rest : List Stmt} {Q : Flow → Shared → Prop} {m : Str → Option Value} {news : List (Addr × Obj)} (x y : Str) (P : List (Addr × Obj) → Value → Value → List (Addr × Obj) → Prop) (F : Fr h₀ L s.heap m) (N : News h₀ L s.heap news)
    (h1 : wpAny M A (exec st env) (Cut (TwoN h₀ L m s x y (P news))) E s)
    (h2 : ∀ v u nx h' tk, P news v u nx → Fr h₀ L h' (fun z => if z = y then some u else if z = x then some v else m z) → News h₀ L h' nx → wpAny M A (execs rest env) Q E { s with heap := h', toks := tk }) :
    wpAny M A (execs (st :: rest) env) Q E s := execs_cut h1 fun s' ⟨h', tk, v, u, nx, e, hP, F', N'⟩ => e ▸ h2 v u nx h' tk hP F' N'
theorem twoN_new {h₀ : Heap} {L : Addr} {s : Shared} {m : Str → Option Value} {nx : List (Addr × Obj)} {x y : Str} {P : Value → Value → List (Addr × Obj) → Prop} {h' : Heap} {tk : Nat} {v u : Value} (F' : Fr h₀ L h' (fun z => if z = y then some u else if z = x then some v else m z)) (N' : News h₀ L h' nx) (hP : P v u nx) :
    Cut (TwoN h₀ L m s x y P) .next { s with heap := h', toks := tk } := ⟨rfl, h', tk, v, u, nx, rfl, hP, F', N'⟩
def SixN (h₀ : Heap) (L : Addr) (x1 x2 x3 x4 x5 x6 : Str) (v1 v2 v3 v4 v5 v6 : Value) (s : Shared) (P : List (Addr × Obj) → List (Addr × Obj) → Prop) (old : List (Addr × Obj)) (s' : Shared) : Prop :=
  ∃ h' tk m' nx, s' = { s with heap := h', toks := tk } ∧ P old nx ∧ Fr h₀ L h' m' ∧ (m' x1 = some v1 ∧ m' x2 = some v2 ∧ m' x3 = some v3 ∧ m' x4 = some v4 ∧ m' x5 = some v5 ∧ m' x6 = some v6) ∧ News h₀ L h' nx
theorem fr_six {h₀ h : Heap} {L : Addr} {m : Str → Option Value} {x1 x2 x3 x4 x5 x6 : Str} {v1 v2 v3 v4 v5 v6 : Value} (F : Fr h₀ L h m) (k : m x1 = some v1 ∧ m x2 = some v2 ∧ m x3 = some v3 ∧ m x4 = some v4 ∧ m x5 = some v5 ∧ m x6 = some v6) :
    Fr h₀ L h (fun y => if y = x1 then some v1 else if y = x2 then some v2 else if y = x3 then some v3 else if y = x4 then some v4 else if y = x5 then some v5 else if y = x6 then some v6 else m y) := by
  obtain ⟨k1, k2, k3, k4, k5, k6⟩ := k
  have e : (fun y => if y = x1 then some v1 else if y = x2 then some v2 else if y = x3 then some v3 else if y = x4 then some v4 else if y = x5 then some v5 else if y = x6 then some v6 else m y) = m := by
    funext y
    split
    · rename_i e; rw [e, k1]
    split
    · rename_i e; rw [e, k2]
    split
    · rename_i e; rw [e, k3]
    split
    · rename_i e; rw [e, k4]
    split
    · rename_i e; rw [e, k5]
    split
    · rename_i e; rw [e, k6]
    rfl
  rw [e]; exact F
theorem cut_six {M : Model} {A : Around} {E : Value → Shared → Prop} {s : Shared} {env : Env} {h₀ : Heap} {L : Addr} {st : Stmt} {rest : List Stmt} {Q : Flow → Shared → Prop} {m : Str → Option Value} {news : List (Addr × Obj)} (x1 x2 x3 x4 x5 x6 : Str) {v1 v2 v3 v4 v5 v6 : Value} (P : List (Addr × Obj) → List (Addr × Obj) → Prop) (F : Fr h₀ L s.heap m) (N : News h₀ L s.heap news)
    (h1 : wpAny M A (exec st env) (Cut (SixN h₀ L x1 x2 x3 x4 x5 x6 v1 v2 v3 v4 v5 v6 s P news)) E s)
    (h2 : ∀ nx h' tk (u : Str → Option Value), P news nx → Fr h₀ L h' (fun y => if y = x1 then some v1 else if y = x2 then some v2 else if y = x3 then some v3 else if y = x4 then some v4 else if y = x5 then some v5 else if y = x6 then some v6 else u y) → News h₀ L h' nx → wpAny M A (execs rest env) Q E { s with heap := h', toks := tk })
    (k : m x1 = some v1 ∧ m x2 = some v2 ∧ m x3 = some v3 ∧ m x4 = some v4 ∧ m x5 = some v5 ∧ m x6 = some v6) :
    wpAny M A (execs (st :: rest) env) Q E s := execs_cut h1 fun s' ⟨h', tk, m', nx, e, hP, F', k', N'⟩ => e ▸ h2 nx h' tk m' hP (fr_six F' k') N'
theorem size_down2 {a b : Int} {j : Nat} (h : a = b + (2 * j + 1)) : Builtin.Range.rangeSize a b (-2) = ((j + 1 : Nat) : Int) := by
  unfold Builtin.Range.rangeSize
  simp only [show ¬ ((-2 : Int) > 0) by decide, if_false, show (-(-2) : Int) = 2 from rfl]
  split <;> omega
theorem small_down2 {a b : Int} {j : Nat} (h : a = b + (2 * j + 1)) (hb : -1 ≤ b) (ha : a ≤ 1000) : Builtin.Range.small a b (-2) = true := by
  unfold Builtin.Range.small
  rw [size_down2 h]
  simp only [Builtin.Range.rangeFitsLong, Bool.and_eq_true, Bool.or_eq_true, decide_eq_true_eq, beq_iff_eq, show ¬ ((-2 : Int) > 0) by decide, if_false]
  refine ⟨?_, ?_⟩ <;> (try split) <;> omega
def logI (n j : Nat) : List Str := (List.range j).flatMap fun i => [told (n - 2 * i), told (n - 2 * i)]
theorem logI_succ (n j : Nat) : logI n (j + 1) = logI n j ++ [told (n - 2 * j), told (n - 2 * j)] := by
  unfold logI
  rw [List.range_succ, List.flatMap_append]
  simp
theorem logI_len (n j : Nat) : (logI n j).length = 2 * j := by
  induction j with
  | zero => rfl
  | succ j ih => rw [logI_succ, List.length_append, ih]; simp; omega
-- a list at hand
local macro_rules | `(tactic| ktr_rel) => `(tactic| first | exact ⟨_, (News.get (by k_asm) (by k_mem)), rfl, _, rfl⟩ | exact Heap.IsList.at (by assumption) (fun o e => Fr.keep (by k_asm) _ _ e))
local macro_rules | `(tactic| walk_at "call ref") => `(tactic| (k_here; (with_reducible show wpAny _ _ (call (Value.ref 102) _) _ _ _); (with_reducible refine' left_use ?k1 ?k2 ?k3 ?k4 ?k5 ?k6 ?k7 ?k8 ?k9 ?k10 ?_); (case k1 => k_asm); (case k2 => k_asm); (case k3 => k_asm); (case k4 => k_asm); (case k5 => k_dflt ktr_rel); (case k6 => assumption); (case k7 => k_dflt (first | omega | (simp; omega))); (case k8 => k_dflt (exact rfl)); (case k9 => k_dflt (exact Nat.le_of_ble_eq_true rfl)); (case k10 => k_dflt (exact Nat.le_of_ble_eq_true rfl)); intro D' us' n' h' tk' F' N' i1' l1'))
local macro_rules | `(tactic| walk_at "call ref") => `(tactic| (k_here; (with_reducible show wpAny _ _ (call (Value.ref 71) _) _ _ _); (with_reducible refine' exam_use ?k1 ?k2 ?k3 ?k4 ?k8 ?k9 ?k10 ?_); (case k1 => k_asm); (case k2 => k_asm); (case k3 => k_asm); (case k4 => k_asm); (case k8 => k_dflt (exact rfl)); (case k9 => k_dflt (exact Nat.le_of_ble_eq_true rfl)); (case k10 => k_dflt (exact Nat.le_of_ble_eq_true rfl)); intro D' h' tk' tl' F' N' t' x'))
local macro_rules | `(tactic| walk_at "exec Assign cons ListComp") => `(tactic| (k_here; k_dflt (refine cu_stop (F₀ := by k_asm) (by rfl) (by with_unfolding_all rfl) (by with_unfolding_all rfl) (by decide) (by rfl) (by decide) (by rfl) (by rfl) (by rfl) ?_)))
local macro_rules | `(tactic| walk_at "call ref") => `(tactic| (k_here; (with_reducible show wpAny _ _ (call (Value.ref 95) _) _ _ _); (with_reducible refine' struck_use ?k1 ?k2 ?k3 ?k4 ?k5 ?k6 ?k7 ?ka ?kb ?k8 ?k9 ?k10 ?_); (case k1 => k_asm); (case k2 => k_asm); (case k3 => k_asm); (case k4 => k_asm); (case k5 => k_dflt k_mem); (case k6 => assumption); (case k7 => k_dflt (intro p hp; (repeat (first | exact hp | apply List.Mem.tail)))); (case ka => k_dflt (rw [List.length_map]; omega)); (case kb => exact (Int.fmod_nonneg_of_pos _ (by decide))); (case k8 => k_dflt (exact rfl)); (case k9 => k_dflt (exact Nat.le_of_ble_eq_true rfl)); (case k10 => k_dflt (exact Nat.le_of_ble_eq_true rfl)); intro T' S' G' us' lg' js' nS' nG' j' h' tk' F' N' x' y' z' c'))
local macro_rules | `(tactic| walk_at "newList") => `(tactic| (k_here; k_dflt (refine' newList_K ?k1 ?k2 ?_; (case k1 => k_asm); (case k2 => k_asm); k_whole); intro l' h' F' N' l1))
local macro_rules | `(tactic| walk_at "call ref") => `(tactic| (k_here; (with_reducible show wpAny _ _ (call (Value.ref 109) _) _ _ _); (with_reducible refine' told_use ?k1 ?k2 ?k3 ?k4 ?k5 ?k8 ?k9 ?k10 ?_); (case k1 => k_asm); (case k2 => k_asm); (case k3 => k_asm); (case k4 => k_asm); (case k5 => k_dflt omega); (case k8 => k_dflt (exact rfl)); (case k9 => k_dflt (exact Nat.le_of_ble_eq_true rfl)); (case k10 => k_dflt (exact Nat.le_of_ble_eq_true rfl)); intro t' h' tk' F' N'))
local macro_rules | `(tactic| walk_at "call builtin:len") => `(tactic| (k_here; k_dflt (refine' len_ledger ?k1 ?k2 ?k3 ?_; (case k1 => k_asm); (case k2 => k_mem); (case k3 => omega); k_whole)))
local macro_rules | `(tactic| walk_at "exec For") => `(tactic| (k_here; (rename Fr _ _ _ _ => lF'); (with_unfolding_all refine' For_stop lF' ?k1 ?k2 ?_; (case k1 => exact rfl); (case k2 => exact rfl); k_whole)))
local macro_rules | `(tactic| walk_at "exec For Name Call cons nil") => `(tactic| walk_at "exec For")
local macro_rules | `(tactic| walk_at "call builtin:list.extend") => `(tactic| (k_here; (with_reducible show wpAny _ _ (call (Value.builtin _) [Value.ref _, Value.ref _]) _ _ _); k_dflt (refine' ext_use ?k1 ?k2 ?k3 ?k4 ?k5 ?k6 ?k7 ?k8 ?k9 ?_; (case k1 => k_asm); (case k2 => k_asm); (case k3 => k_mem); (case k4 => k_mem); (case k6 => assumption); (case k5 => (intro p hp; (repeat (first | exact hp | apply List.Mem.tail)))); (case k7 => exact Nat.ne_of_gt (‹∀ p ∈ _, p.1 < _› (_, _) (List.Mem.head _))); (case k8 => exact Nat.succ_ne_zero _); (case k9 => (simp only [List.length_cons, List.length_nil]; omega)); k_whole); intro h' F' N'))
local macro_rules | `(tactic| walk_at "call ref") => `(tactic| (k_here; (with_reducible show wpAny _ _ (call (Value.ref 78) _) _ _ _); (with_reducible refine' parts_use ?k1 ?k2 ?k3 ?k4 ?k5 ?k6 ?k8 ?k9 ?k10 ?_); (case k1 => k_asm); (case k2 => k_asm); (case k3 => k_asm); (case k4 => k_asm); (case k5 => assumption); (case k6 => k_dflt (intro p hp; (repeat (first | exact hp | apply List.Mem.tail)))); (case k8 => k_dflt (exact rfl)); (case k9 => k_dflt (exact Nat.le_of_ble_eq_true rfl)); (case k10 => k_dflt (exact Nat.le_of_ble_eq_true rfl)); intro D' h' tk' tl' F' N' t' x'))
local macro_rules | `(tactic| walk_at "call ref") => `(tactic| (k_here; (with_reducible show wpAny _ _ (call (Value.ref 64) _) _ _ _); (with_reducible refine' fldx_use ?k1 ?k2 ?k3 ?k4 ?k5 ?k8 ?k9 ?k10 ?_); (case k1 => k_asm); (case k2 => k_asm); (case k3 => k_asm); (case k4 => k_asm); (case k5 => assumption); (case k8 => k_dflt (exact rfl)); (case k9 => k_dflt (exact Nat.le_of_ble_eq_true rfl)); (case k10 => k_dflt (exact Nat.le_of_ble_eq_true rfl)); intro D' h' tk' tl' F' N' t' x'))
local macro_rules | `(tactic| walk_at "eval ListComp") => `(tactic| (k_here; (with_reducible show wpAny _ _ (eval (Expr.ListComp (Expr.Call _ _ _ _) _ _ _) _) _ _ _); k_dflt (refine cv_stop (F₀ := by k_asm) (by with_unfolding_all rfl) (by decide) (by rfl) (by decide) (by rfl) ?_)))
local macro_rules | `(tactic| walk_at "call ref") => `(tactic| (k_here; (with_reducible show wpAny _ _ (call (Value.ref 85) _) _ _ _); (with_reducible refine' laid_use ?k1 ?k2 ?k3 ?k4 ?k5 ?k6 ?k7 ?ka ?k8 ?k9 ?k10 ?_); (case k1 => k_asm); (case k2 => k_asm); (case k3 => k_asm); (case k4 => k_asm); (case k5 => k_dflt ktr_rel); (case k6 => assumption); (case k7 => k_dflt (intro p hp; (repeat (first | exact hp | apply List.Mem.tail)))); (case ka => k_dflt (rw [List.length_map]; omega)); (case k8 => k_dflt (exact rfl)); (case k9 => k_dflt (exact Nat.le_of_ble_eq_true rfl)); (case k10 => k_dflt (exact Nat.le_of_ble_eq_true rfl)); intro D' us' n' h' tk' F' N' x'))
local macro_rules | `(tactic| walk_at "compareOp NotEq ref ref") => `(tactic| (k_here; k_dflt (refine' ne_rows ?k1 ?k2 ?k3 ?k4 ?k5 ?k6 ?k7 ?_; (case k3 => ktr_rel); (case k4 => ktr_rel); (case k5 => assumption); (case k6 => assumption); (case k1 => (intro a o e; refine' News.get ?N ?m; (case N => k_asm); (case m => (repeat (first | exact e | apply List.Mem.tail))))); (case k2 => (intro a o e; refine' News.get ?N ?m; (case N => k_asm); (case m => (repeat (first | exact e | apply List.Mem.tail))))); (case k7 => exact Nat.le_of_ble_eq_true rfl); k_whole)))
local macro_rules | `(tactic| walk_at "compareOp NotEq ref") => `(tactic| (k_here; k_dflt (refine' ne_rows ?k1 ?k2 ?k3 ?k4 ?k5 ?k6 ?k7 ?_; (case k3 => ktr_rel); (case k4 => ktr_rel); (case k5 => assumption); (case k6 => assumption); (case k1 => (intro a o e; refine' News.get ?N ?m; (case N => k_asm); (case m => (repeat (first | exact e | apply List.Mem.tail))))); (case k2 => (intro a o e; refine' News.get ?N ?m; (case N => k_asm); (case m => (repeat (first | exact e | apply List.Mem.tail))))); (case k7 => exact Nat.le_of_ble_eq_true rfl); k_whole)))
local macro_rules | `(tactic| walk_at "compareOp Eq ref ref") => `(tactic| (k_here; k_dflt (refine' logs_eq ?k3 ?k4 ?k5 ?k6 ?k7 ?_; (case k3 => ktr_rel); (case k4 => ktr_rel); (case k5 => assumption); (case k6 => assumption); (case k7 => exact Nat.le_of_ble_eq_true rfl); k_whole)))
local macro_rules | `(tactic| walk_at "compareOp Eq ref") => `(tactic| (k_here; k_dflt (refine' logs_eq ?k3 ?k4 ?k5 ?k6 ?k7 ?_; (case k3 => ktr_rel); (case k4 => ktr_rel); (case k5 => assumption); (case k6 => assumption); (case k7 => exact Nat.le_of_ble_eq_true rfl); k_whole)))
local macro_rules | `(tactic| walk_at "compareOp Eq ref ref") => `(tactic| (k_here; k_dflt (refine' rows_use ?k1 ?k2 ?k3 ?k4 ?k5 ?k6 ?k7 ?k8 ?k9 ?ka ?kb ?kc ?kd ?_; (case k1 => k_asm); (case k2 => k_asm); (case k3 => k_asm); (case k4 => k_asm); (case k5 => ktr_rel); (case k6 => ktr_rel); (case k7 => assumption); (case k8 => assumption); (case k9 => first | exact fun _ _ e => e | (intro a o e; refine' News.get ?N ?m; (case N => k_asm); (case m => (repeat (first | exact e | apply List.Mem.tail))))); (case ka => first | exact fun _ _ e => e | (intro a o e; refine' News.get ?N ?m; (case N => k_asm); (case m => (repeat (first | exact e | apply List.Mem.tail))))); (case kb => exact rfl); (case kc => exact Nat.le_of_ble_eq_true rfl); (case kd => exact Nat.le_of_ble_eq_true rfl); k_whole; intro h' tk' F' N')))
local macro_rules | `(tactic| walk_at "compareOp Eq ref") => `(tactic| (k_here; k_dflt (refine' rows_use ?k1 ?k2 ?k3 ?k4 ?k5 ?k6 ?k7 ?k8 ?k9 ?ka ?kb ?kc ?kd ?_; (case k1 => k_asm); (case k2 => k_asm); (case k3 => k_asm); (case k4 => k_asm); (case k5 => ktr_rel); (case k6 => ktr_rel); (case k7 => assumption); (case k8 => assumption); (case k9 => first | exact fun _ _ e => e | (intro a o e; refine' News.get ?N ?m; (case N => k_asm); (case m => (repeat (first | exact e | apply List.Mem.tail))))); (case ka => first | exact fun _ _ e => e | (intro a o e; refine' News.get ?N ?m; (case N => k_asm); (case m => (repeat (first | exact e | apply List.Mem.tail))))); (case kb => exact rfl); (case kc => exact Nat.le_of_ble_eq_true rfl); (case kd => exact Nat.le_of_ble_eq_true rfl); k_whole; intro h' tk' F' N')))
set_option maxHeartbeats 8000000 in
theorem law_t : PySem.Challenge.rw_sc0006_01.Holds := Mine.hd (by
  k_go0
  all_goals (try k_fold)
  rename World => w
  rename Fr _ _ _ _ => F
  rename News _ _ _ _ => N
  obtain ⟨u, F⟩ := fr_weak (x := Str.ofString "script") F rfl
  refine cut_noneL (fun old nx => ∃ c o oc tot t, old = [(c, o)] ∧ nx = [(c, oc)] ∧ oc.data = .cell (some (.int tot t))) F N ?_ ?_
  · k_steps
    exact noneN_new (by assumption) (by assumption) ⟨_, _, _, _, _, rfl, rfl, by first | assumption | rfl⟩
  clear F N
  rintro nx h' tk ⟨c, o, oc, tot, tt, hc, rfl, hoc⟩ F N
  cases hc
  refine cut_oneL (Str.ofString "numbers") (fun old v nx => ∃ Nn vs nN ns, v = .ref Nn ∧ nx = (Nn, W.listOf vs.toArray nN) :: old ∧ IntsAre vs ns ∧ 2 ≤ ns.length ∧ ns.length ≤ 12) F N ?_ ?_
  · k_steps
    rename News _ _ _ _ => N'
    refine oneN_new (by assumption) (news_sub N' (by k_allIn)) ⟨_, _, _, _, rfl, rfl, by assumption, ?_, ?_⟩
    · rw [List.length_append]; simp
    · rw [List.length_append]; simp; omega
  clear F N
  rintro v nx h' tk ⟨Nn, vs, nN, ns, rfl, rfl, hns, hn2, hn12⟩ F N
  refine cut_oneL (Str.ofString "kinds") (fun old v nx => ∃ K us nK, v = .ref K ∧ nx = (K, W.listOf us.toArray nK) :: old ∧ IntsAre us (leftOf (ns.map fun n => n.fmod 12))) F N ?_ ?_
  · k_steps
    rename News _ _ _ _ => N'
    exact oneN_new (by assumption) (news_sub N' (by k_allIn)) ⟨_, _, _, rfl, rfl, by assumption⟩
  clear F N
  rintro v nx h' tk ⟨K, us, nK, rfl, rfl, hus⟩ F N
  have hkb : ∀ k ∈ leftOf (ns.map fun n => n.fmod 12), 0 ≤ k ∧ k < 12 := by
    intro k hk
    obtain ⟨n, _, rfl⟩ := List.mem_map.mp (left_mem _ _ hk)
    exact fmod12 n
  have hmn : (ns.map fun n => n.fmod 12).length = ns.length := List.length_map ..
  generalize hks : leftOf (ns.map fun n => n.fmod 12) = ks at *
  have hul : us.length ≤ 12 := by
    have e := left_len (ns.map fun n => n.fmod 12)
    rw [hks, hmn] at e
    have := hus.length
    omega
  have hvl : vs.length ≤ 12 := by have := hns.length; omega
  refine cut_oneL (Str.ofString "due") (fun old v nx => ∃ D ys nD X, v = .ref D ∧ nx = (D, W.listOf ys.toArray nD) :: (old ++ X) ∧ AllEx PySem.Challenge.rw_sc0006_01.row.prog w (fun a o => (a, o) ∈ X) ys ks) F N ?_ ?_
  · k_steps
    rename Fr _ _ _ _ => F'
    rename News _ _ _ _ => N'
    refine cu_led (X₀ := []) (B := [(_, _), (_, _), (_, _)]) (fun v k => ∃ t, v = .int k t ∧ 0 ≤ k ∧ k < 12) (fun X v k => ∃ a, v = .ref a ∧ ExR PySem.Challenge.rw_sc0006_01.row.prog w (fun a o => (a, o) ∈ X) a k ∧ 0 ≤ k ∧ k < 12) exr_mono (ints_all2 hus hkb) rfl F' N' (.head _) (by omega) ?_ ?_
    · clear F' N'
      rintro g v k I oI C oC D ys X m₂ h tk E' ⟨t, rfl, hb⟩ hC hx F N hX
      simp only [List.cons_append, List.nil_append] at N
      k_steps
      rename Fr _ _ _ _ => F'
      rename News _ _ _ _ => N'
      rename ExR _ _ _ _ _ => hx'
      rw [kind_same hb] at hx'
      exact ⟨_, _, _, rfl, F', N', by assumption, _, rfl, hx'.mono _ _ fun _ _ e => List.mem_append_left _ e, hb⟩
    · clear F' N'
      intro ys X D h tk hy hX F N o1
      exact oneN_new F N ⟨D, ys, _, X, rfl, rfl, hy.allEx⟩
  clear F N
  rintro v nx h' tk ⟨D, ds, nD, X, rfl, rfl, hds⟩ F N
  simp only [List.cons_append, List.nil_append] at N
  refine cut_oneL (Str.ofString "row") (fun old v nx => ∃ R rs nR X' b1 b2 b3 b4 X₀, v = .ref R ∧ old = b1 :: b2 :: b3 :: b4 :: X₀ ∧ nx = (R, W.listOf rs.toArray nR) :: b1 :: b2 :: b3 :: b4 :: X' ∧ AllEx PySem.Challenge.rw_sc0006_01.row.prog w (fun a o => (a, o) ∈ X') rs (ns.map fun n => n.fmod 12) ∧ ∀ p ∈ X₀, p ∈ X') F N ?_ ?_
  · k_steps
    rename Fr _ _ _ _ => F'
    rename News _ _ _ _ => N'
    refine cu_led (X₀ := X) (B := [(_, _), (_, _), (_, _), (_, _)]) (fun v k => ∃ n t, v = .int n t ∧ n ∈ ns ∧ n.fmod 12 = k) (fun X v k => ∃ a, v = .ref a ∧ ExR PySem.Challenge.rw_sc0006_01.row.prog w (fun a o => (a, o) ∈ X) a k ∧ 0 ≤ k ∧ k < 12) exr_mono (all2_ints _ hns) rfl F' N' (.tail _ (.tail _ (.head _))) (by omega) ?_ ?_
    · clear F' N'
      rintro g v k I oI C oC D ys X m₂ h tk E' ⟨n, t, rfl, hn, rfl⟩ hC hx F N hX
      simp only [List.cons_append, List.nil_append] at N
      k_steps
      rename Fr _ _ _ _ => F'
      rename News _ _ _ _ => N'
      rename ExR _ _ _ _ _ => hx'
      exact ⟨_, _, _, rfl, F', N', by assumption, _, rfl, hx'.mono _ _ fun _ _ e => List.mem_append_left _ e, fmod12 _⟩
    · clear F' N'
      intro ys X' D h tk hy hX F N o1
      exact oneN_new F N ⟨D, ys, _, X', _, _, _, _, _, rfl, rfl, rfl, hy.allEx, hX⟩
  clear F N
  rintro v nx h' tk ⟨R, rs, nR, X', b1, b2, b3, b4, X₀, rfl, hold, rfl, hrs, hX⟩ F N
  cases hold
  replace hds := hds.mono fun a o e => hX _ e
  clear hX
  refine cut_twoL (Str.ofString "struck") (Str.ofString "log") (fun old v u nx => ∃ S ss nS G lg nG j, v = .ref S ∧ u = .ref G ∧ nx = (S, W.listOf ss.toArray nS) :: (G, W.listOf lg.toArray nG) :: old ∧ AllEx PySem.Challenge.rw_sc0006_01.row.prog w (fun a o => (a, o) ∈ X') ss ks ∧ StrsAre lg (logTo ns.length j) ∧ ks.length + 2 * j = ns.length) F N ?_ ?_
  · k_steps
    rename Fr _ _ _ _ => F'
    rename News _ _ _ _ => N'
    rename AllEx _ _ _ _ _ => hss
    rename StrsAre _ _ => hlg
    rename _ = leftOf _ => hjs
    rename _ + 2 * _ = _ => hj
    rw [hjs, hks] at hss hj
    rw [hmn] at hlg hj
    exact twoN_new F' (news_sub N' fun p hp => .tail _ hp) ⟨_, _, _, _, _, _, _, rfl, rfl, rfl, hss, hlg, hj⟩
  clear F N
  rintro v u' nx h' tk ⟨S, ss, nS, G, lg, nG, j, rfl, rfl, rfl, hss, hlg, hj⟩ F N
  refine cut_oneL (Str.ofString "told") (fun old v nx => ∃ Tl nT Xa, v = .ref Tl ∧ Xa = old ∧ nx = (Tl, W.listOf #[] nT) :: Xa ∧ ∀ p ∈ Xa, p.1 < Tl) F N ?_ ?_
  · k_steps
    exact oneN_new (by assumption) (by assumption) ⟨_, _, _, rfl, rfl, rfl, by assumption⟩
  clear F N
  rintro v nx h' tk ⟨Tl, nT, Xa, rfl, hXa, rfl, hTl⟩ F N
  rw [hXa] at N
  have hnv := hns.length
  have hku := hus.length
  refine cut_six (Str.ofString "told") (Str.ofString "log") (Str.ofString "struck") (Str.ofString "row") (Str.ofString "due") (Str.ofString "kinds") (fun old nx => ∃ tl nT, nx = (Tl, W.listOf tl.toArray nT) :: Xa ∧ StrsAre tl (logTo ns.length j)) F N ?_ ?_ ⟨rfl, rfl, rfl, rfl, rfl, rfl⟩
  · k_steps
    unfold IterAt
    (try dsimp only)
    rename IsRange _ _ _ _ _ _ _ _ => hr
    rename Fr _ _ _ _ => F'
    rename News _ _ _ _ => N'
    rw [← hXa] at N'
    have hab : (vs.length : Int) = ((us.length : Int) - 1) + (2 * j + 1) := by omega
    refine for_range (news := (Tl, W.listOf ([] : List Value).toArray nT) :: Xa) (n := j + 1) (fun i m nx => (m (Str.ofString "told") = some (.ref Tl) ∧ m (Str.ofString "log") = some (.ref G) ∧ m (Str.ofString "struck") = some (.ref S) ∧ m (Str.ofString "row") = some (.ref R) ∧ m (Str.ofString "due") = some (.ref D) ∧ m (Str.ofString "kinds") = some (.ref K)) ∧ ∃ tl nT, nx = (Tl, W.listOf tl.toArray nT) :: Xa ∧ StrsAre tl (logI ns.length i))
      rfl hr (small_down2 hab (by omega) (by omega)) (size_down2 hab) F' N' ⟨⟨rfl, rfl, rfl, rfl, rfl, rfl⟩, [], _, rfl, .nil⟩ ?_ ?_
    · clear F' N' hr; (try clear N); (try clear F)
      rintro i m₁ nx h tk t I oI hi hoff ⟨⟨k1, k2, k3, k4, k5, k6⟩, tl, nT, rfl, htl⟩ F N
      have e : (vs.length : Int) + (i : Nat) * (-2) = ((ns.length - 2 * i : Nat) : Int) := by omega
      have htn : tl.length ≤ 100 := by rw [htl.length, logI_len]; omega
      have hTI : @Ne Nat Tl I := hoff _ (.head _)
      have hXI : ∀ q ∈ Xa, q.1 ≠ I := fun q hq => hoff q (.tail _ hq)
      have hne : ∀ p ∈ Xa ++ [(I, oI)], p.1 ≠ Tl := fun p hp => by
        rcases List.mem_append.mp hp with hp | hp
        · exact Nat.ne_of_lt (hTl p hp)
        · rw [List.mem_singleton.mp hp]; exact fun e => hTI e.symm
      rw [e] at F
      rw [upd_as k1] at F
      dsimp only at F
      simp only [List.cons_append] at N
      k_steps
      rename Fr _ _ _ _ => F'
      rename News _ _ _ _ => N'
      refine ⟨rfl, _, _, _, (Tl, _) :: Xa, rfl, F', N', fun q hq => ?_, ⟨rfl, k2, k3, k4, k5, k6⟩, _, _, rfl, ?_⟩
      · rcases List.mem_cons.mp hq with rfl | hq
        · exact hTI
        · exact hXI q hq
      · rw [logI_succ]
        exact htl.append (.cons ⟨_, rfl⟩ (.cons ⟨_, rfl⟩ .nil))
    · clear F' N' hr; (try clear N); (try clear F)
      rintro m₁ nx h tk ⟨hk, tl, nT, rfl, htl⟩ F N
      exact ⟨rfl, h, tk, m₁, _, rfl, ⟨tl, nT, rfl, htl⟩, F, hk, N⟩
  clear F N
  rintro nx h' tk u' ⟨tl, nT', rfl, htl⟩ F N
  rw [hXa] at N
  clear hTl hXa
  have hssl : ss.length ≤ 12 := by have := hss.length; omega
  refine cut_noneL (fun old nx => ∃ b1 b2 b3 b4 b5 b6 b7 b8 X₀, old = b1 :: b2 :: b3 :: b4 :: b5 :: b6 :: b7 :: b8 :: X₀ ∧ nx = old) F N ?_ ?_
  · k_steps
    rename Fr _ _ _ _ => F'
    rename News _ _ _ _ => N'
    refine cv_led (X₀ := X') (B := [(_, _), (_, _), (_, _), (_, _), (_, _), (_, _), (_, _), (_, _)]) (fun v k => ∃ a, v = .ref a ∧ ExR PySem.Challenge.rw_sc0006_01.row.prog w (fun a o => (a, o) ∈ X') a k ∧ 0 ≤ k ∧ k < 12) (fun X v k => FieldsR PySem.Challenge.rw_sc0006_01.row.prog w (fun a o => (a, o) ∈ X) v k) flr_mono hss.all2 rfl F' N' (.tail _ (.head _)) (by omega) ?_ ?_
    · clear F' N'; (try clear N); (try clear F)
      rintro g v k I oI C oC Dc ys X m₂ h tk E' ⟨a, rfl, hx0, hk⟩ hC hx F N hX
      replace hx0 := hx0.mono _ _ fun _ _ e => hX _ e
      simp only [List.cons_append, List.nil_append] at N
      k_steps
      rename Fr _ _ _ _ => F'
      rename News _ _ _ _ => N'
      rename FieldsR _ _ _ _ _ => hx'
      exact ⟨_, _, _, rfl, F', N', by assumption, hx'.mono _ _ fun _ _ e => List.mem_append.mpr e⟩
    · clear F' N'; (try clear N); (try clear F)
      intro ys1 X1 D1 h tk hy1 hX1 F N o1
      simp only [List.cons_append, List.nil_append] at N
      k_steps
      rename Fr _ _ _ _ => F'
      rename News _ _ _ _ => N'
      refine cv_led (X₀ := X1) (B := [(_, _), (_, _), (_, _), (_, _), (_, _), (_, _), (_, _), (_, _), (_, _)]) (fun v k => ∃ t, v = .int k t ∧ 0 ≤ k ∧ k < 12) (fun X v k => FieldsR PySem.Challenge.rw_sc0006_01.row.prog w (fun a o => (a, o) ∈ X) v k) flr_mono (ints_all2 hus hkb) rfl F' N' (.tail _ (.tail _ (.tail _ (.tail _ (.tail _ (.tail _ (.head _))))))) (by omega) ?_ ?_
      · clear F' N'; (try clear N); (try clear F)
        rintro g v k I oI C oC Dc ys X m₂ h tk E' ⟨t, rfl, hk⟩ hC hx F N hX
        simp only [List.cons_append, List.nil_append] at N
        k_steps
        rename Fr _ _ _ _ => F'
        rename News _ _ _ _ => N'
        rename FieldsR _ _ _ _ _ => hx'
        exact ⟨_, _, _, rfl, F', N', by assumption, hx'.mono _ _ fun _ _ e => List.mem_append_left _ e⟩
      · clear F' N'; (try clear N); (try clear F)
        intro ys2 X2 D2 h tk hy2 hX2 F N o2
        replace hy1 := hy1.mono fun _ _ hr => flr_mono _ _ _ _ hX2 hr
        have hXX : ∀ p ∈ X', p ∈ X2 := fun p hp => hX2 p (hX1 p hp)
        simp only [List.cons_append, List.nil_append] at N
        k_steps
        rename Fr _ _ _ _ => F'
        rename News _ _ _ _ => N'
        refine noneN_new F' (news_sub N' (fun p hp => ?_)) ⟨_, _, _, _, _, _, _, _, _, rfl, rfl⟩
        iterate 8 (rcases List.mem_cons.mp hp with rfl | hp; · (repeat (first | exact List.Mem.head _ | apply List.Mem.tail)))
        (repeat (first | exact hXX _ hp | apply List.Mem.tail))
  clear F N
  rintro nx h' tk ⟨b1, b2, b3, b4, b5, b6, b7, b8, X₀, hold, rfl⟩ F N
  clear hold
  subst hks
  k_steps)
end Mine

end
theorem Mine.calmLaw : True := by
  w_top off
  trivial
open PySem PySem.W PyProof.Rows
theorem PySem.Challenge.cw_sc0006_01_holds : PySem.Challenge.rw_sc0006_01.Holds := by
  exact Mine.law_t
