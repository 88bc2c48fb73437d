import PyProof.Rows.All
import Wide.All
import OpenK.AllK
import Wide.FinOn
import PySem.Challenge.RW_rw0063_01
set_option Elab.async false
set_option linter.unusedVariables false
local macro_rules | `(tactic| omega) => `(tactic| lia)
section
open PySem PySem.W PyProof.Rows
namespace Mine
set_option maxRecDepth 100000
set_option maxHeartbeats 8000000
open_top hd for PySem.Challenge.rw_rw0063_01
end Mine

end
section
open PySem PySem.W PySem.Calls PyProof.Rows
set_option linter.unusedVariables false
namespace Mine

/-- calling the def at f with vs gives a value with P (told beside what the ledger then bears ahead of the old one), and nothing else is seen -/
def Fn (prog : Program) (w : World) (K : Frag) (p : Program) (f : Addr) (need : Nat) (vs : List Value) (P : Value → List (Addr × Obj) → Prop) : Prop :=
  ∀ (loose : List Str) (mean : ExcName → Option Value) (mg mb : Str → Option Value) (dp un : Nat) (gd : Option (List Code)) (cn : Str) (cs : PySem.Scope) (a : Addr) (ccd : Value) (cl : List (Str × Addr)) (outer : List Env) (A₀ : Around) (base h₀ : Heap) (L : Addr) (m : Str → Option Value) (news : List (Addr × Obj)) (s : Shared) (Q E : Value → Shared → Prop),
    Below A₀ base outer h₀ → Fr h₀ L s.heap m → K.In h₀ → News h₀ L s.heap news → Top p loose mean mg mb h₀ → cs.kind = .function →
    dp + need < recursionLimit → un + 8 * need < cLine →
    (∀ (v : Value) (own : List (Addr × Obj)) (h' : Heap) (tk' : Nat), P v own → Fr h₀ L h' m → News h₀ L h' (own ++ news) → (∀ p ∈ own, ∀ q ∈ news, q.1 < p.1) → Q v { s with heap := h', toks := tk' }) →
      wpAny (model prog w) (ktrTop dp un gd cn cs L a ccd cl outer) (call (.ref f) vs) Q E s

theorem Fn.use {prog : Program} {w : World} {K : Frag} {p : Program} {f : Addr} {need : Nat} {vs : List Value} {P : Value → List (Addr × Obj) → Prop} (C : Fn prog w K p f need vs P)
    {loose : List Str} {mean : ExcName → Option Value} {mg mb : Str → Option Value} {dp un : Nat} {gd : Option (List Code)} {cn : Str} {cs : PySem.Scope} {a : Addr} {ccd : Value} {cl : List (Str × Addr)} {outer : List Env} {A₀ : Around} {base h₀ : Heap} {L : Addr} {m : Str → Option Value} {news : List (Addr × Obj)} {s : Shared} {Q E : Value → Shared → Prop}
    (B : Below A₀ base outer h₀) (F : Fr h₀ L s.heap m) (X : K.In h₀) (N : News h₀ L s.heap news) (T : Top p loose mean mg mb h₀) (hk : cs.kind = .function)
    (hd : dp + need < recursionLimit) (hu : un + 8 * need < cLine)
    (ret : ∀ (v : Value) (own : List (Addr × Obj)) (h' : Heap) (tk' : Nat), P v own → Fr h₀ L h' m → News h₀ L h' (own ++ news) → (∀ p ∈ own, ∀ q ∈ news, q.1 < p.1) → Q v { s with heap := h', toks := tk' }) :
    wpAny (model prog w) (ktrTop dp un gd cn cs L a ccd cl outer) (call (.ref f) vs) Q E s :=
  C _ _ _ _ _ _ _ _ _ _ _ _ _ _ _ _ _ _ _ _ _ _ B F X N T hk hd hu ret

/-- an int, a bool, a text comes back -/
abbrev isI (i : Int) : Value → List (Addr × Obj) → Prop := fun v own => (∃ t, v = .int i t) ∧ own = []
abbrev isB (b : Bool) : Value → List (Addr × Obj) → Prop := fun v own => v = .bool b ∧ own = []
abbrev isS (x : Str) : Value → List (Addr × Obj) → Prop := fun v own => (∃ t, v = .str x t) ∧ own = []

section
variable {h₀ h' : Heap} {L : Addr} {m : Str → Option Value} {news : List (Addr × Obj)} {s : Shared} {Q : Value → Shared → Prop} {t : Tok} {tk' : Nat}
end
end Mine

end
section
open PySem PySem.W PySem.Calls PyProof.Rows
open Sem (wp)
set_option linter.unusedVariables false
namespace Mine
section
variable {M : Model} {A : Around} {R : GenEnd} {Y : Protocol} {n : Nat} {s₀ : Shared} {c : Code} {fs : List Frame} {s : Shared} {env : Env}
  {K : Flow → Sem Fin} {H : Value → Sem Fin} {gd : Bool → Bool} {lv : List Value → List Value}

theorem seg_stmt {st : Stmt} {rest : List Stmt} (h : wpAny M (A.over c fs) (exec st env) (fun f s' => f = .next ∧ Seg M A R Y n s₀ c ((execs rest env).wrap K H gd lv) fs s') (fun _ _ => False) s) :
    Seg M A R Y n s₀ c ((execs (st :: rest) env).wrap K H gd lv) fs s := by
  refine seg_execs_cons (seg_wrap (wpAny_mono h (fun f s' hf => ?_) fun _ _ e => e.elim))
  obtain ⟨rfl, hf⟩ := hf
  exact hf

theorem seg_If {test : Expr} {body orelse : List Stmt} {pos : Pos} {K : Flow → Sem Fin}
    (h : wpAny M (A.over c fs) (isTrue test env (eval test env)) (fun b s' => Seg M A R Y n s₀ c ((execs (if b then body else orelse) env).wrap K H gd lv) fs s') (fun _ _ => False) s) :
    Seg M A R Y n s₀ c ((exec (.If test body orelse pos) env).wrap K H gd lv) fs s := by
  rw [exec_If, Sem.bind_eq_wrap', Sem.wrap_wrap]
  refine seg_wrap (wpAny_standAt ?_)
  rw [Sem.bind_eq_wrap', Sem.wrap_wrap]
  refine seg_wrap (wpAny_mono h (fun b s' hb => ?_) fun _ _ e => e.elim)
  cases b <;> exact hb

theorem seg_yield1 {e : Expr} {rest : List Stmt} {ypos pos : Pos} (hfs : splitAtGen fs = none) (hgd : gd false = false) (hfg : fs.any Frame.guarded = false)
    (h : wpAny M (A.over c fs) (eval e env) (fun v s' => ∀ kap : Resume → Shared → Prop, (∀ s'', Seg M A R Y n s'' c ((execs rest env).wrap K H gd lv) fs s'' → kap (.send .none) s'') → Y n s₀ v s' kap) (fun _ _ => False) s)
    (hco : env.scope.isCoroutine = false := by rfl) (hi : interactive env = false := by rfl) :
    Seg M A R Y (n + 1) s₀ c ((execs (.Expr (.Yield (some e) ypos) pos :: rest) env).wrap K H gd lv) fs s :=
  seg_execs_cons (seg_Expr_Yield hfs hgd hfg (wpAny_mono h (fun v s' h' kap hk => h' kap fun s'' hs => hk .none s'' hs) fun _ _ e => e.elim) hco hi)

theorem seg_For {target iter : Expr} {body orelse : List Stmt} {pos : Pos} {K : Flow → Sem Fin}
    (h : wpAny M (A.over c fs) (eval iter env) (fun xv s₁ => wpAny M (A.over c fs) (pyIter xv) (fun it s₂ => ∀ p, Seg M A R Y n s₀ (.forLoop target it body orelse env) (M.den (.forLoop target it body orelse env))
      (.ret (fun r => ((match r with | .ok f => (.pure f : Sem Flow) | .error e => .raise e).onRaise fun (x : Value) => do
        if (← field x 1) == Value.none then unsupported "frame.own-activation:exception-without-traceback"
        setFlight x env.frame).wrap K H gd lv) none (gd false) (lv []) c p [] :: fs) s₂) (fun _ _ => False) s₁) (fun _ _ => False) s)
    (hs : ∀ x, foldedSetIterable iter env x = pure x := by intro _; rfl) :
    Seg M A R Y n s₀ c ((exec (.For target iter body orelse pos) env).wrap K H gd lv) fs s := by
  rw [exec_For, Sem.bind_eq_wrap', Sem.wrap_wrap]
  refine seg_wrap (wpAny_standAt ?_)
  rw [Sem.bind_eq_wrap', Sem.wrap_wrap]
  refine seg_wrap (wpAny_mono h (fun xv s₁ h₁ => ?_) fun _ _ e => e.elim)
  rw [Sem.bind_eq_wrap', Sem.wrap_wrap, hs]
  refine seg_wrap (wpAny_pure ?_)
  rw [Sem.bind_eq_wrap', Sem.wrap_wrap]
  refine seg_wrap (wpAny_standAt ?_)
  rw [Sem.bind_eq_wrap', Sem.wrap_wrap]
  refine seg_wrap (wpAny_holding (wpAny_mono h₁ (fun it s₂ h₂ => ?_) fun _ _ e => e.elim))
  exact seg_call h₂
end
section
variable {prog : Program} {w : World} {A : Around} {R : GenEnd} {Y : Protocol} {n : Nat} {s₀ : Shared} {fs : List Frame} {s : Shared} {env : Env}

/-- one turn of a generator's for -/
theorem seg_forLoop {target : Expr} {it : Value} {body : List Stmt}
    (h : wpAny (model prog w) (A.over (.forLoop target it body [] env) fs) (pyNext it) (fun r s₁ => match r with
      | none => Seg (model prog w) A R Y n s₀ (.block [] env) (.pure (.done .next)) fs s₁
      | some v => wpAny (model prog w) (A.over (.forLoop target it body [] env) fs) (letOwnedTupleGo target it v) (fun _ s₂ =>
          wpAny (model prog w) (A.over (.forLoop target it body [] env) fs) (assign target env v) (fun _ s₃ =>
            Seg (model prog w) A R Y n s₀ (.forLoop target it body [] env) ((execs body env).wrap (fun f => match f with
            | .next | .cont => .pure (.again (.forLoop target it body [] env))
            | .brk => .pure (.done .next)
            | .ret v => .pure (.done (.ret v))) (fun e => (do noteFrame e env; theTreesLotGoes e : Sem Unit).wrap (fun _ => .raise e) .raise id id) id id) fs s₃) (fun _ _ => False) s₂) (fun _ _ => False) s₁) (fun _ _ => False) s) :
    Seg (model prog w) A R Y n s₀ (.forLoop target it body [] env) ((model prog w).den (.forLoop target it body [] env)) fs s := by
  show Seg _ A R Y n s₀ _ ((forTurn target it body [] env).onRaise (fun x => do noteFrame x env; theTreesLotGoes x)) fs s
  simp only [forTurn]
  rw [Sem.onRaise_eq_wrap, Sem.bind_eq_wrap', Sem.wrap_wrap]
  refine seg_wrap (wpAny_standAt ?_)
  rw [Sem.bind_eq_wrap', Sem.wrap_wrap]
  refine seg_wrap (wpAny_onRaise (wpAny_mono h (fun r s₁ h₁ => ?_) fun _ _ e => e.elim))
  cases r with
  | none =>
    refine seg_again rfl ?_
    show Seg _ A R Y n s₀ _ (((execs [] env).onRaise (fun x => do noteFrame x env; theTreesLotGoes x)) >>= fun f => pure (.done f)) fs s₁
    exact h₁
  | some v =>
    dsimp only
    refine seg_bind_wrap (wpAny_mono h₁ (fun _ s₂ h₂ => ?_) fun _ _ e => e.elim)
    refine seg_bind_wrap (wpAny_mono h₂ (fun _ s₃ h₃ => ?_) fun _ _ e => e.elim)
    rw [Sem.bind_eq_wrap', Sem.wrap_wrap]
    rw [Sem.wrap_congr (execs body env) _ _ (K' := fun f => match f with
            | .next | .cont => .pure (.again (.forLoop target it body [] env))
            | .brk => .pure (.done .next)
            | .ret v => .pure (.done (.ret v))) (H' := (fun e => (do noteFrame e env; theTreesLotGoes e : Sem Unit).wrap (fun _ => .raise e) .raise id id))
        (fun f => by cases f <;> rfl)
        (fun e => by first | exact Sem.bind_eq_wrap _ _ | (show (do noteFrame e env; theTreesLotGoes e : Sem Unit).bind (fun _ => .raise e) = _; rw [Sem.bind_eq_wrap]))]
    exact h₃
end
end Mine

end
section
open PySem PySem.W PySem.Calls PyProof.Rows
open Sem (wp)
set_option linter.unusedVariables false
namespace Mine

/-- what a generator over a text hands out: place and sign, an escaped sign with its backslash -/
def tokList : Nat → Bool → List Nat → List (Nat × Str)
  | i, false, [] => []
  | i, true, [] => [(i - 1, ⟨#[92]⟩)]
  | i, true, c :: r => (i, ⟨#[92]⟩ ++ ⟨#[c]⟩) :: tokList (i + 1) false r
  | i, false, c :: r => if c = 92 then tokList (i + 1) true r else (i, ⟨#[c]⟩) :: tokList (i + 1) false r

abbrev tupOf (vs : List Value) : Obj := { cls := .type "tuple", data := .seq vs.toArray }

def Since (fp : List Addr) (s₀ s₁ : Shared) : Prop := ∃ h' tk', s₁ = { s₀ with heap := h', toks := tk' } ∧ ∀ b o, b ∉ fp → s₀.heap.get? b = some o → h'.get? b = some o
theorem Since.refl (fp : List Addr) (s : Shared) : Since fp s s := ⟨s.heap, s.toks, rfl, fun _ _ _ e => e⟩
theorem Since.step {fp : List Addr} {s₀ s₁ : Shared} (x : Since fp s₀ s₁) {h' : Heap} {tk' : Nat} (k : ∀ b o, b ∉ fp → s₁.heap.get? b = some o → h'.get? b = some o) : Since fp s₀ { s₁ with heap := h', toks := tk' } := by
  obtain ⟨h₁, tk₁, rfl, k₁⟩ := x
  exact ⟨h', tk', rfl, fun b o hb e => k b o hb (k₁ b o hb e)⟩
def gR (fp : List Addr) : GenEnd := fun n s₀ r s₁ => r = .ok (.ret .none) ∧ n = 0 ∧ Since fp s₀ s₁
def gY (hs : Heap) (fp : List Addr) (toks : List (Nat × Str)) : Protocol := fun n s₀ v s₁ kap =>
  (∃ p c T tp tc, toks[toks.length - 1 - n]? = some (p, c) ∧ v = .ref T ∧ s₁.heap.get? T = some (tupOf [.int (p : Nat) tp, .str c tc])) ∧ Since fp s₀ s₁ ∧
    ∀ s'' : Shared, (∀ b ∈ fp, ∀ o, s₁.heap.get? b = some o → s''.heap.get? b = some o) → hs.StaysIn s''.heap → kap (.send .none) s''

section
variable {prog : Program} {w : World} {A : Around} {hs : Heap} {fp : List Addr} {toks : List (Nat × Str)} {fs : List Frame} {env : Env} {target : Expr} {I : Addr} {body : List Stmt} {wr : List Addr}
  {x : Str} {t : Tok} {Pt : Nat → Array Value → Prop} {St : Nat → Heap → Prop} {Mid : Nat → Addr → Heap → Prop} {fpw : List Addr}

/-- the generator's own names between its turns -/
def Loc (hs : Heap) (L : Addr) (x : Str) (t : Tok) (St : Nat → Heap → Prop) (i : Nat) (esc : Bool) (s : Shared) : Prop :=
  (∃ m, Fr hs L s.heap m ∧ m "addr" = some (.str x t) ∧ (∃ tp, m "pos" = some (.int ((i - 1 : Nat) : Int) tp)) ∧ m "escape" = some (.bool esc)) ∧ St i s.heap

def escNext (esc : Bool) (c : Nat) : Bool := !esc && c == 92
/-- the token that the sign c at i gives, if any -/
def tokAt (i : Nat) (esc : Bool) (c : Nat) : Option (Nat × Str) := if esc then some (i, ⟨#[92]⟩ ++ ⟨#[c]⟩) else if c = 92 then none else some (i, ⟨#[c]⟩)

theorem tokList_cons (i : Nat) (esc : Bool) (c : Nat) (r : List Nat) : tokList i esc (c :: r) = (tokAt i esc c).toList ++ tokList (i + 1) (escNext esc c) r := by
  cases esc with
  | true => simp [tokList, tokAt, escNext]
  | false =>
    by_cases h : c = 92
    · subst h; simp [tokList, tokAt, escNext]
    · have h' : (c == 92) = false := by simpa using h
      simp [tokList, tokAt, escNext, h, h']

theorem gen_loop (hh : (A.over (.forLoop target (.ref I) body [] env) fs).handled = none)
    (W : ∀ A' : Around, A'.handled = none → WalksU prog w A' I fpw wr x.cps.size Pt St Mid) (hPt : ∀ i vals, Pt i vals → ∃ tp c tc, x.cps[i]? = some c ∧ vals = #[.int i tp, .str ⟨#[c]⟩ tc])
    {p1 p2 pt : Pos} {k : Nat} (htg : target = .Tuple [.Name "pos" p1, .Name "ch" p2] k pt)
    (hk1 : env.kindOf "pos" = some .local) (hk2 : env.kindOf "ch" = some .local) (hp : (env.scope.kind == .class || (env.scope.kind == .module && env.locals != env.globals)) = false)
    (hwr : ∀ b ∈ wr, b ∈ fp ∧ b ≠ env.locals ∧ hs.get? b = none) (hL : env.locals ∈ fp) (hfw : ∀ b ∈ fpw, b ∈ fp ∧ b ≠ env.locals)
    (turn : ∀ i esc c n s₀ s m tp tc, x.cps[i]? = some c → Fr hs env.locals s.heap m → m "addr" = some (.str x t) → m "pos" = some (.int (i : Nat) tp) → m "ch" = some (.str ⟨#[c]⟩ tc) → m "escape" = some (.bool esc) →
      St (i + 1) s.heap → Since fp s₀ s →
      (tokAt i esc c = none → ∀ s', Since fp s₀ s' → Loc hs env.locals x t St (i + 1) (escNext esc c) s' → Seg (model prog w) A (gR fp) (gY hs fp toks) n s₀ (.forLoop target (.ref I) body [] env) ((model prog w).den (.forLoop target (.ref I) body [] env)) fs s') →
      (∀ q, tokAt i esc c = some q → ∃ n', n = n' + 1 ∧ toks[toks.length - 1 - n']? = some q ∧ ∀ s'' s', Since fp s'' s' → Loc hs env.locals x t St (i + 1) (escNext esc c) s' → Seg (model prog w) A (gR fp) (gY hs fp toks) n' s'' (.forLoop target (.ref I) body [] env) ((model prog w).den (.forLoop target (.ref I) body [] env)) fs s') →
      Seg (model prog w) A (gR fp) (gY hs fp toks) n s₀ (.forLoop target (.ref I) body [] env) ((execs body env).wrap (fun f => match f with
            | .next | .cont => .pure (.again (.forLoop target (.ref I) body [] env))
            | .brk => .pure (.done .next)
            | .ret v => .pure (.done (.ret v))) (fun e => (do noteFrame e env; theTreesLotGoes e : Sem Unit).wrap (fun _ => .raise e) .raise id id) id id) fs s)
    (fin : ∀ esc n s₀ s, Loc hs env.locals x t (fun _ _ => True) x.cps.size esc s → Since fp s₀ s → tokList x.cps.size esc [] = toks.drop (toks.length - n) → n ≤ toks.length →
      Seg (model prog w) A (gR fp) (gY hs fp toks) n s₀ (.block [] env) (.pure (.done .next)) fs s) :
    ∀ (rem i : Nat) (esc : Bool) (n : Nat) (s₀ s : Shared), x.cps.size - i = rem → i ≤ x.cps.size → tokList i esc (x.cps.toList.drop i) = toks.drop (toks.length - n) → n ≤ toks.length →
      Loc hs env.locals x t St i esc s → Since fp s₀ s →
      Seg (model prog w) A (gR fp) (gY hs fp toks) n s₀ (.forLoop target (.ref I) body [] env) ((model prog w).den (.forLoop target (.ref I) body [] env)) fs s := by
  subst htg
  intro rem
  induction rem with
  | zero =>
    intro i esc n s₀ s hrem hi htok hn hloc hsince
    have hin : i = x.cps.size := by omega
    subst hin
    obtain ⟨⟨m, F, ha, hpo, he⟩, hst⟩ := hloc
    refine seg_forLoop ((W _ hh).done s _ _ hst fun h' tk hk => ?_)
    have hd : x.cps.toList.drop x.cps.size = [] := by simp
    rw [hd] at htok
    refine fin esc n s₀ _ ⟨⟨m, ⟨F.ns.at' fun o e => hk _ o (fun hm => (hwr _ hm).2.1 rfl) e, fun b o e => hk b o (fun hm => by rw [(hwr b hm).2.2] at e; cases e) (F.keep b o e), F.above⟩, ha, hpo, he⟩, trivial⟩ (hsince.step fun b o hb e => hk b o (fun hm => hb (hwr b hm).1) e) htok hn
  | succ rem ih =>
    intro i esc n s₀ s hrem hi htok hn hloc hsince
    have hlt : i < x.cps.size := by omega
    obtain ⟨⟨m, F, ha, hpo, he⟩, hst⟩ := hloc
    refine seg_forLoop ((W _ hh).item i s _ _ hlt hst fun T vals h₁ tk₁ hPv hT₁ hmid hk₁ => ?_)
    obtain ⟨tp, c, tc, hc, rfl⟩ := hPt i vals hPv
    dsimp only
    refine (W _ hh).go _ _ _ i T _ _ _ hmid fun h₂ hst₂ hk₂ => ?_
    replace hk₂ : ∀ b o, b ∉ wr → h₁.get? b = some o → h₂.get? b = some o := hk₂
    have hT₂ : h₂.IsTuple T #[.int i tp, .str ⟨#[c]⟩ tc] := let ⟨o, e, r⟩ := hT₁; ⟨o, hk₂ _ o ((W _ hh).apart i T _ hmid) e, r⟩
    refine wpAny_assign_Tuple hh hT₂ rfl rfl fun h₃ hx₃ => ?_
    replace hx₃ : Heap.ExtBut h₂.objs.size h₂ h₃ := hx₃
    have old₃ : ∀ b o, h₂.get? b = some o → h₃.get? b = some o := fun b o e => hx₃ b o (Nat.ne_of_lt (Heap.lt_size e)) e
    have hLw : env.locals ∉ wr := fun hm => (hwr _ hm).2.1 rfl
    have F₃ : Fr hs env.locals h₃ m := ⟨F.ns.at' fun o e => old₃ _ o (hk₂ _ o hLw (hk₁ _ o hLw e)), fun b o e => old₃ b o (hk₂ b o (fun hm => by rw [(hwr b hm).2.2] at e; cases e) (hk₁ b o (fun hm => by rw [(hwr b hm).2.2] at e; cases e) (F.keep b o e))), F.above⟩
    show wpAny _ _ (do holding [Value.str ⟨#[c]⟩ tc] (assign (.Name "pos" p1) env (.int i tp)); do holding [] (assign (.Name "ch" p2) env (.str ⟨#[c]⟩ tc)); pure ()) _ _ _
    refine wpAny_bind (wpAny_holding (wpAny_assign_Name (wpAny_storeName_local hk1 F₃.ns (fun h₄ hn₄ hs₄ => ?_) hp)))
    refine wpAny_bind (wpAny_holding (wpAny_assign_Name (wpAny_storeName_local hk2 hn₄ (fun h₅ hn₅ hs₅ => wpAny_pure ?_) hp)))
    have F₅ := (F₃.set hn₄ hs₄).set hn₅ hs₅
    replace hs₄ : Heap.SameBut env.locals h₃ h₄ := hs₄
    replace hs₅ : Heap.SameBut env.locals h₄ h₅ := hs₅
    have up : ∀ b o, b ≠ env.locals → b ∉ wr → s.heap.get? b = some o → h₅.get? b = some o := fun b o hbL hbw e => hs₅.extBut b o hbL (hs₄.extBut b o hbL (old₃ b o (hk₂ b o hbw (hk₁ b o hbw e))))
    have hst₅ : St (i + 1) h₅ := (W _ hh).frame _ _ _ hst₂ fun b hb o e => hs₅.extBut b o (hfw b hb).2 (hs₄.extBut b o (hfw b hb).2 (old₃ b o e))
    have hdrop : x.cps.toList.drop i = c :: x.cps.toList.drop (i + 1) := by
      have h1 : x.cps.toList[i]? = some c := by rw [Array.getElem?_toList]; exact hc
      obtain ⟨hl, hg⟩ := List.getElem?_eq_some_iff.mp h1
      rw [List.drop_eq_getElem_cons hl, hg]
    rw [hdrop, tokList_cons] at htok
    refine turn i esc c n s₀ _ _ tp tc hc F₅ ?_ ?_ ?_ ?_ hst₅ (hsince.step fun b o hb e => up b o (fun q => hb (q ▸ hL)) (fun hm => hb (hwr b hm).1) e) ?_ ?_
    · exact ha
    · rfl
    · rfl
    · exact he
    · intro hno s' hs' hl'
      rw [hno] at htok
      exact ih (i + 1) _ n s₀ s' (by omega) hlt htok hn hl' hs'
    · intro q hq
      rw [hq] at htok
      simp only [Option.toList_some, List.cons_append, List.nil_append] at htok
      have hlen := congrArg List.length htok
      rw [List.length_cons, List.length_drop] at hlen
      obtain ⟨n', rfl⟩ : ∃ n', n = n' + 1 := ⟨n - 1, by omega⟩
      have hlt' : toks.length - (n' + 1) < toks.length := by omega
      rw [List.drop_eq_getElem_cons hlt'] at htok
      have h1 := (List.cons.inj htok).1
      have h2 := (List.cons.inj htok).2
      have e1 : toks.length - 1 - n' = toks.length - (n' + 1) := by omega
      have e2 : toks.length - (n' + 1) + 1 = toks.length - n' := by omega
      refine ⟨n', rfl, ?_, fun s'' s' hs' hl' => ih (i + 1) _ n' s'' s' (by omega) hlt (by rw [h2, e2]) (by omega) hl' hs'⟩
      rw [e1, List.getElem?_eq_getElem hlt', ← h1]
end

theorem setGen_self {s : Shared} {g : Nat} {x y : GenState} (h : s.gens[g]? = some x) : (s.setGen g y).gens[g]? = some y := by
  obtain ⟨hl, _⟩ := Array.getElem?_eq_some_iff.mp h
  show (s.gens.setIfInBounds g y)[g]? = some y
  rw [Array.getElem?_setIfInBounds_self_of_lt hl]

section
variable {prog : Program} {w : World} {A : Around} {E : Value → Shared → Prop} {s : Shared}

theorem next_gen {a : Addr} {g n : Nat} {gs : GenState} {P : Nat → Shared → Shared → Prop} {Y : Protocol} {Q : Option Value → Shared → Prop} (hh : A.handled = none)
    (hl : s.heap.NoLimit) (hroom : A.depth < recursionLimit) (hg : s.heap.IsGen a g) (hgs : s.gens[g]? = some gs)
    (hgo : gs.Goes (model prog w) A.in1 (fun n s₀ r s₁ => r = .ok (.ret .none) ∧ P n s₀ s₁) Y n (.send .none) (s.setGen g .running))
    (hY : ∀ v s₁ gs', gs'.bare = true → Y (n - 1) (s.setGen g .running) v s₁ (fun r' s'' => match n with
        | 0 => False
        | m + 1 => gs'.Goes (model prog w) A.in1 (fun n s₀ r s₁ => r = .ok (.ret .none) ∧ P n s₀ s₁) Y m r' s'') → Q (some v) (s₁.setGen g gs'))
    (hP : ∀ s₁, P n (s.setGen g .running) s₁ → ∀ h', (∀ b o, s₁.heap.get? b = some o → h'.get? b = some o) → Q none { s₁.setGen g .finished with heap := h' }) :
    wpAny (model prog w) A (pyNext (.ref a)) Q E s := by
  unfold pyNext
  refine wpAny_bind (wpAny_attempt (wpAny_callSpecial?_slot (name := Str.ofString "__next__") hg.typeIs slot_gen_next (wpAny_call_entry slot_gen_next hg.typeIs entry_gen_next ?_ (args_gen_next _))))
  show wpAny _ A.in1 (Builtin.Generator.genWake (.ref a) (.send .none)) _ _ s
  unfold Builtin.Generator.genWake
  refine wpAny_bind (wpAny_holding (wpAny_genNumber hg (wpAny_bind (wpAny_genState hgs ?_))))
  have fin : ∀ (s₁ : Shared) {β : Type} {tail : Value → Sem Fin} (tl : β → Sem Fin), (∀ e, tail e = (raiseNew (α := β) e >>= tl)) → P n (s.setGen g .running) s₁ → wpAny (model prog w) A.in1 (newExc (.type "StopIteration") [] >>= tail)
      (fun fin s' => ∃ v, fin = .done (.ret v) ∧ wpAny (model prog w) A (pure (some v)) Q E s') (fun e s' => wpAny (model prog w) A (do if ← isInstance e (.type "StopIteration") then pure none else throw e) Q E s') (s₁.setGen g .finished) := by
    intro s₁ β tail tl ht hp
    simp only [newExc, newTuple]
    refine wpAny_bind (wpAny_bind (wpAny_newObj_type ?_ (by size_fits)))
    refine wpAny_bind (m := firstArgMember _ _) (wpAny_of_eq (a := Value.none) (by first | rfl | (simp only [firstArgMember]; rfl)) ?_)
    refine wpAny_newObj_type ?_ (by size_fits)
    rw [ht]
    refine wpAny_bind ?_
    simp only [raiseNew]
    refine wpAny_bind (wpAny_handled ?_)
    rw [show A.in1.handled = none from hh]
    refine wpAny_bind (wpAny_pure (wpAny_throw ?_))
    refine wpAny_bind (wpAny_isInstance (T := "StopIteration") (b := true) ⟨_, Heap.get?_push_size _ rfl, rfl⟩ isSubtype_stop ?_)
    exact wpAny_pure (hP s₁ hp _ fun b o hb => Heap.get?_push_of_some _ (Heap.get?_push_of_some _ hb))
  cases gs with
  | running => exact hgo.elim
  | finished => exact hgo.elim
  | fresh c0 =>
    refine wpAny_bind (wpAny_roomToWake hl hroom ?_)
    show wpAny _ A.in1 (.resume g (.send .none) [] _) _ _ s
    refine wpAny_resumeQ hgs hgo (fun y s₁ hy => ?_) (fun v s₁ gs' hb hv => wpAny_pure ⟨v, rfl, wpAny_pure (hY v s₁ gs' hb hv)⟩)
    obtain ⟨rfl, hp⟩ := hy
    exact fin s₁ _ (fun e => rfl) hp
  | suspended k0 l0 c0 p0 fs0 cl0 =>
    refine wpAny_bind (wpAny_roomToWake hl hroom ?_)
    show wpAny _ A.in1 (.resume g (.send .none) [] _) _ _ s
    refine wpAny_resumeQ hgs hgo (fun y s₁ hy => ?_) (fun v s₁ gs' hb hv => wpAny_pure ⟨v, rfl, wpAny_pure (hY v s₁ gs' hb hv)⟩)
    obtain ⟨rfl, hp⟩ := hy
    exact fin s₁ _ (fun e => rfl) hp

/-- the generator a between two turns: i tokens are out; fp is what it alone reads and writes -/
def GenSt (prog : Program) (w : World) (A : Around) (hs : Heap) (a : Addr) (g sz : Nat) (fp : List Addr) (toks : List (Nat × Str)) (i : Nat) (s : Shared) : Prop :=
  s.heap.IsGen a g ∧ (i = 0 → s.heap.objs.size = sz) ∧ ∃ gs, s.gens[g]? = some gs ∧ ∀ s'' : Shared, (∀ b ∈ fp, ∀ o, s.heap.get? b = some o → s''.heap.get? b = some o) → (i = 0 → s''.heap.objs.size = sz) → hs.StaysIn s''.heap →
    gs.Goes (model prog w) A.in1 (gR fp) (gY hs fp toks) (toks.length - i) (.send .none) s''

theorem GenSt.frame {hs : Heap} {a : Addr} {g sz : Nat} {fp : List Addr} {toks : List (Nat × Str)} {i : Nat} (st : GenSt prog w A hs a g sz fp toks i s) {h' : Heap} {tk' : Nat} (ha : ∀ o, s.heap.get? a = some o → h'.get? a = some o)
    (hf : ∀ b ∈ fp, ∀ o, s.heap.get? b = some o → h'.get? b = some o) (hi : i = 0 → h'.objs.size = sz) : GenSt prog w A hs a g sz fp toks i { s with heap := h', toks := tk' } := by
  obtain ⟨⟨o, nm, qn, ho, r⟩, _, gs, hgs, hgo⟩ := st
  exact ⟨⟨o, nm, qn, ha o ho, r⟩, hi, gs, hgs, fun s'' hal hz hk => hgo s'' (fun b hb o e => hal b hb o (hf b hb o e)) hz hk⟩

theorem bare_set {g : Array GenState} {i : Nat} {x : GenState} (h : AllBare g) (hx : x.bare = true) : AllBare (g.setIfInBounds i x) := by
  intro y hy
  obtain ⟨j, hj, rfl⟩ := Array.mem_iff_getElem.mp hy
  rw [Array.getElem_setIfInBounds (by simpa using hj)]
  split
  · exact hx
  · exact h _ (Array.getElem_mem (by simpa using hj))

theorem GenSt.item {hs : Heap} {a : Addr} {g sz : Nat} {fp : List Addr} {toks : List (Nat × Str)} {i : Nat} {Q : Option Value → Shared → Prop} (st : GenSt prog w A hs a g sz fp toks i s) (hi : i < toks.length)
    (hk : hs.StaysIn s.heap) (hl : hs.NoLimit) (hh : A.handled = none) (hroom : A.depth < recursionLimit) (haf : a ∉ fp) (hb : AllBare s.gens)
    (hQ : ∀ T p c tp tc h' tk' g', toks[i]? = some (p, c) → h'.get? T = some (tupOf [.int (p : Nat) tp, .str c tc]) → (∀ b o, b ∉ fp → s.heap.get? b = some o → h'.get? b = some o) →
      GenSt prog w A hs a g sz fp toks (i + 1) { s with heap := h', toks := tk', gens := g' } → AllBare g' → Q (some (.ref T)) { s with heap := h', toks := tk', gens := g' }) :
    wpAny (model prog w) A (pyNext (.ref a)) Q E s := by
  obtain ⟨hg, hsz, gs, hgs, hgo⟩ := st
  obtain ⟨m, hm⟩ : ∃ m, toks.length - i = m + 1 := ⟨toks.length - i - 1, by omega⟩
  rw [hm] at hgo
  refine next_gen (P := fun n s₀ s₁ => n = 0 ∧ Since fp s₀ s₁) (Y := gY hs fp toks) hh (hl.keeps hk) hroom hg hgs (hgo _ (fun _ _ _ e => e) hsz hk) (fun v s₁ gs' hbare hv => ?_) (fun s₁ hp => absurd hp.1 (Nat.succ_ne_zero m))
  obtain ⟨⟨p, c, T, tp, tc, htok, rfl, hT⟩, ⟨h', tk', rfl, hkeep⟩, hkap⟩ := hv
  have hidx : toks.length - 1 - (m + 1 - 1) = i := by omega
  rw [hidx] at htok
  refine hQ T p c tp tc h' tk' _ htok hT hkeep ⟨?_, fun e => absurd e (Nat.succ_ne_zero i), gs', ?_, fun s'' hal _ hs'' => ?_⟩ (bare_set (bare_set hb rfl) hbare)
  · obtain ⟨o, nm, qn, ho, r⟩ := hg
    exact ⟨o, nm, qn, hkeep a o haf ho, r⟩
  · exact setGen_self (s := s.setGen g .running) (setGen_self hgs)
  · have e : toks.length - (i + 1) = m := by omega
    rw [e]
    exact hkap s'' hal hs''

theorem GenSt.done {hs : Heap} {a : Addr} {g sz : Nat} {fp : List Addr} {toks : List (Nat × Str)} {Q : Option Value → Shared → Prop} (st : GenSt prog w A hs a g sz fp toks toks.length s)
    (hk : hs.StaysIn s.heap) (hl : hs.NoLimit) (hh : A.handled = none) (hroom : A.depth < recursionLimit) (hfs : ∀ b ∈ fp, hs.get? b = none) (hb : AllBare s.gens)
    (hQ : ∀ h' tk' g', (∀ b o, b ∉ fp → s.heap.get? b = some o → h'.get? b = some o) → AllBare g' → Q none { s with heap := h', toks := tk', gens := g' }) :
    wpAny (model prog w) A (pyNext (.ref a)) Q E s := by
  obtain ⟨hg, hsz, gs, hgs, hgo⟩ := st
  rw [Nat.sub_self] at hgo
  refine next_gen (P := fun n s₀ s₁ => n = 0 ∧ Since fp s₀ s₁) (Y := gY hs fp toks) hh (hl.keeps hk) hroom hg hgs (hgo _ (fun _ _ _ e => e) hsz hk) (fun v s₁ gs' hbare hv => ?_) (fun s₁ hp h' hk' => ?_)
  · obtain ⟨_, ⟨h₁, tk₁, rfl, hkeep⟩, hkap⟩ := hv
    exact (hkap _ (fun _ _ _ e => e) fun b o e => hkeep b o (fun hm => by rw [hfs b hm] at e; cases e) (hk b o e)).elim
  · obtain ⟨_, h₁, tk₁, rfl, hk₁⟩ := hp
    exact hQ h' tk₁ _ (fun b o hbf e => hk' b o (hk₁ b o hbf e)) (bare_set (bare_set hb rfl) rfl)
end

section
variable {prog : Program} {w : World} {A : Around} {s : Shared} {h₀ : Heap} {L : Addr} {m : Str → Option Value} {K : Frag} {p : Program} {loose : List Str} {mean : ExcName → Option Value} {mg mb : Str → Option Value}
/-- a generator def is called: nothing runs yet -/
theorem code_gen {R : Result → Shared → Prop} {name qual : Str} {params : Arguments} {body : List Stmt} {scope : PySem.Scope} {dV kV doc pm cdv ct oc : Value} {an od : Option Addr} {osl : Array (Option Value)} {f : Addr} {args : Args} {binds : List (Str × Value)}
    (F : Fr h₀ L s.heap m) (X₀ : K.In h₀) (T : Top p loose mean mg mb h₀) (ho : K.lookup f = some ⟨oc, od, .func (fnOf name qual params body scope dV kV doc pm an cdv ct), osl⟩) (hcd : codeIn K cdv qual = true) (hroom : A.depth < recursionLimit)
    (hbind : bindArgs (fnOf name qual params body scope dV kV doc pm an cdv ct) args = pure binds) (hloc : ∀ y ∈ binds, scope.names.lookup y.1 = some .local)
    (h : ∀ h₁ : Heap, h₁.Ns s.heap.objs.size (fun y => binds.reverse.lookup y) → h₁.objs.size = s.heap.objs.size + 1 → (∀ b o, s.heap.get? b = some o → h₁.get? b = some o) →
      R (.ok (.ret (.ref (s.heap.objs.size + 1)))) { s with gens := s.gens.push (.fresh (.func body (envOf qual scope s.heap.objs.size f cdv))), toks := s.toks + binds.length + 1 + 1, heap := h₁.push { cls := .type "generator", data := .fields #[.int s.gens.size 0, .str name (s.toks + binds.length), .str qual (s.toks + binds.length + 1)] } })
    (hco : scope.isCoroutine = false) (hgen : scope.isGenerator = true) (hk : scope.kind = .function) (hcell : ∀ x ∈ scope.names, x.2 ≠ .cell) : codeAny (model prog w) A (.call (.ref f) args) R s := by
  refine codeAny_call_generator (fd := fnOf name qual params body scope dV kV doc pm an cdv ct) hroom (X₀.keeps F.keep _ _ ho) rfl hco hgen rfl (codeRec_of (X₀.keeps F.keep) hcd) ?_
  rw [hbind]
  refine wpAny_pure (wpAny_newFunctionEnv hcell hloc (fun h₁ hns hsb => ⟨(T.nolimit.keeps F.keep).fresh _ hsb, ?_⟩) hk)
  have hz : h₁.objs.size = s.heap.objs.size + 1 := by rw [hsb.1, Heap.size_push]
  have := h h₁ hns hz fun b o e => hsb.extBut b o (Nat.ne_of_lt (Heap.lt_size e)) (Heap.get?_push_of_some _ e)
  show R (.ok (.ret (.ref h₁.objs.size))) _
  rw [hz]
  exact this
end

section
variable {h₀ h h' : Heap} {L : Addr} {m m' : Str → Option Value}
/-- all that stands in h beside the frame and the ground -/
theorem all_news (h₀ h : Heap) (L : Addr) : ∃ all, News h₀ L h all ∧ ∀ b o, b ≠ L → h₀.get? b = none → h.get? b = some o → (b, o) ∈ all := by
  refine ⟨ownOf h₀ ((List.range h.objs.size).filter fun b => b ≠ L) h, news_ownOf (by simp), fun b o hb hn e => mem_ownOf ?_ hn e⟩
  rw [List.mem_filter]
  exact ⟨List.mem_range.mpr (Heap.lt_size e), by simpa using hb⟩
theorem all_kept {all news' : List (Addr × Obj)} (F : Fr h₀ L h m) (hall : ∀ b o, b ≠ L → h₀.get? b = none → h.get? b = some o → (b, o) ∈ all) (F' : Fr h₀ L h' m') (N' : News h₀ L h' news') (sub : ∀ p ∈ all, p ∈ news') :
    ∀ b o, b ≠ L → h.get? b = some o → h'.get? b = some o := by
  intro b o hb e
  cases hn : h₀.get? b with
  | none => exact (N' _ (sub _ (hall b o hb hn e))).1
  | some o₀ =>
    have := F.keep b o₀ hn
    rw [e] at this
    cases this
    exact F'.keep b o hn
end

theorem GenSt.start {prog : Program} {w : World} {A : Around} {s : Shared} {hs : Heap} {a : Addr} {g sz : Nat} {fp : List Addr} {toks : List (Nat × Str)} {c : Code} (hg : s.heap.IsGen a g) (hz : s.heap.objs.size = sz) (hgs : s.gens[g]? = some (.fresh c))
    (h : ∀ s'' : Shared, (∀ b ∈ fp, ∀ o, s.heap.get? b = some o → s''.heap.get? b = some o) → s''.heap.objs.size = sz → hs.StaysIn s''.heap → Seg (model prog w) A.in1 (gR fp) (gY hs fp toks) toks.length s'' c ((model prog w).den c) [] s'') :
    GenSt prog w A hs a g sz fp toks 0 s := ⟨hg, fun _ => hz, .fresh c, hgs, fun s'' hal hz' hk => ⟨rfl, h s'' hal (hz' rfl) hk⟩⟩

theorem draws_str {prog : Program} {w : World} {h : Heap} {I : Addr} {x : Str} {t : Tok} (hit : h.IsStrIter I (strIterType x) x t 0) :
    ∃ St, (∀ A : Around, A.handled = none → Draws prog w A I [I] x.cps.size (fun i v => ∃ c u, x.cps[i]? = some c ∧ v = .str ⟨#[c]⟩ u) St) ∧ St 0 h := by
  cases ha : x.cps.all (· < 128)
  · exact ⟨_, fun A hA => Draws.strWide hA I x t, by simpa [strIterType, ha] using hit⟩
  · exact ⟨_, fun A hA => Draws.strAscii hA I x t, by simpa [strIterType, ha] using hit⟩

theorem call_enum_at {prog : Program} {w : World} {A : Around} {E : Value → Shared → Prop} {s : Shared} {x : Str} {t : Tok} {Q : Value → Shared → Prop} {sz : Nat} (hz : s.heap.objs.size = sz)
    (h : ∀ h', IsEnum h' (sz + 1) sz 0 .none → h'.IsStrIter sz (strIterType x) x t 0 → h'.objs.size = sz + 2 →
      (∀ b o, s.heap.get? b = some o → h'.get? b = some o) → Q (.ref (sz + 1)) { s with heap := h' }) :
    wpAny (model prog w) A (call (.type "enumerate") [.str x t]) Q E s := by
  subst hz
  exact call_enumerate_str h

/-- names that are known, over a map that is not -/
def ovr (ps : List (Str × Value)) (m : Str → Option Value) : Str → Option Value := fun y => match ps.lookup y with
  | some v => some v
  | none => m y
theorem ovr_eq {m : Str → Option Value} : ∀ {ps : List (Str × Value)}, (∀ p ∈ ps, m p.1 = some p.2) → ovr ps m = m := by
  intro ps h
  funext y
  unfold ovr
  cases e : ps.lookup y with
  | none => rfl
  | some v =>
    have : (y, v) ∈ ps := by
      clear h
      induction ps with
      | nil => cases e
      | cons p r ih =>
        rw [List.lookup_cons] at e
        cases hy : (y == p.1) with
        | true => rw [hy] at e; cases e; rw [beq_iff_eq.mp hy]; exact .head _
        | false => rw [hy] at e; exact .tail _ (ih e)
    exact (h _ this).symm
theorem fr_ovr {h₀ h : Heap} {L : Addr} {m : Str → Option Value} (F : Fr h₀ L h m) (ps : List (Str × Value)) (hp : ∀ p ∈ ps, m p.1 = some p.2) : Fr h₀ L h (ovr ps m) := by rw [ovr_eq hp]; exact F

theorem gy_mk {hs : Heap} {fp : List Addr} {toks : List (Nat × Str)} {n : Nat} {s₀ s₁ : Shared} {h' : Heap} {tk' : Nat} {T L : Addr} {p : Nat} {c : Str} {tp tc : Tok} {kap : Resume → Shared → Prop} {all : List (Addr × Obj)}
    (hsn : Since fp s₀ s₁) (kept : ∀ b o, b ≠ L → s₁.heap.get? b = some o → h'.get? b = some o) (N' : News hs L h' ((T, tupOf [.int (p : Nat) tp, .str c tc]) :: all))
    (hL : L ∈ fp) (htok : toks[toks.length - 1 - n]? = some (p, c))
    (k : ∀ s'' : Shared, (∀ b ∈ fp, ∀ o, h'.get? b = some o → s''.heap.get? b = some o) → hs.StaysIn s''.heap → kap (.send .none) s'') :
    gY hs fp toks n s₀ (.ref T) { s₁ with heap := h', toks := tk' } kap :=
  ⟨⟨p, c, T, tp, tc, htok, rfl, (N' _ (.head _)).1⟩, hsn.step fun b o hb e => kept b o (fun q => hb (q ▸ hL)) e, k⟩
end Mine

end
section
open PySem PySem.W PySem.Calls PyProof.Rows
open Sem (wp)
set_option linter.unusedVariables false
namespace Mine
section
variable {prog : Program} {w : World} {A : Around} {E : Value → Shared → Prop} {s : Shared} {env : Env} {h₀ : Heap} {Q : Flow → Shared → Prop} {body : List Stmt}

/-- a for over the generator's tokens -/
def GenAtLoop (prog : Program) (w : World) (A : Around) (h₀ : Heap) (env : Env) (body : List Stmt) (Q : Flow → Shared → Prop) (E : Value → Shared → Prop) (xv : Value) (s : Shared) : Prop :=
  ∃ (a g sz : Nat) (fp : List Addr) (toks : List (Nat × Str)) (m : Str → Option Value) (news : List (Addr × Obj)) (J : Nat → (Str → Option Value) → List (Addr × Obj) → Prop),
    xv = .ref a ∧ GenSt prog w A h₀ a g sz fp toks 0 s ∧ h₀.NoLimit ∧ A.depth < recursionLimit ∧ AllBare s.gens ∧ env.locals ∉ fp ∧ a ∉ fp ∧ a ≠ env.locals ∧ (∀ b ∈ fp, h₀.get? b = none) ∧ h₀.get? a = none ∧
    (∀ q ∈ news, q.1 ∉ fp ∧ q.1 ≠ a) ∧ Fr h₀ env.locals s.heap m ∧ News h₀ env.locals s.heap news ∧ J 0 m news ∧
    (∀ i p c tp tc m₁ news₁ own h tk gs, toks[i]? = some (p, c) → news₁.map (·.1) = news.map (·.1) → OwnOff own (news.map (·.1)) → J i m₁ news₁ →
      Fr h₀ env.locals h (fun y => if y = "ch" then some (.str c tc) else if y = "pos" then some (.int (p : Nat) tp) else m₁ y) → News h₀ env.locals h (news₁ ++ own) → AllBare gs →
      wpAny (model prog w) A (execs body env) (InvPostN h₀ env.locals (J (i + 1)) own (news.map (·.1)) { s with heap := h, toks := tk, gens := gs } Q) E { s with heap := h, toks := tk, gens := gs }) ∧
    (∀ m₁ news₁ h tk gs, J toks.length m₁ news₁ → Fr h₀ env.locals h m₁ → News h₀ env.locals h news₁ → AllBare gs → Q .next { s with heap := h, toks := tk, gens := gs })

theorem For_gen {iter : Expr} {p1 p2 pt pos : Pos} {k : Nat} (hh : A.handled = none) (hk1 : env.kindOf "pos" = some .local) (hk2 : env.kindOf "ch" = some .local)
    (hp : (env.scope.kind == .class || (env.scope.kind == .module && env.locals != env.globals)) = false)
    (h : wpAny (model prog w) A (eval iter env) (fun xv s₁ => GenAtLoop prog w A h₀ env body Q E xv s₁) E s)
    (hs : ∀ x, foldedSetIterable iter env x = pure x) (hE : PassesOwn (model prog w) A env E) :
    wpAny (model prog w) A (exec (.For (.Tuple [.Name "pos" p1, .Name "ch" p2] k pt) iter body [] pos) env) Q E s := by
  refine wpAny_For (wpAny_mono h (fun xv s₁ h₁ => ?_) fun _ _ e => e) hs
  obtain ⟨a, g, sz, fp, toks, m, news, J, rfl, G, hlim, hroom, hb, hLf, haf, haL, hfs, ha0, hnew, F, N, hJ, turn, done⟩ := h₁
  refine wpAny_pyIter_gen G.1 ?_
  refine codeAny_forLoop_any (R := fun r s' => match r with | .ok f => Q f s' | .error e => cameBackBy (model prog w) A env E e s')
    (fun kk s' => ∃ h' tk' gs m' news' i, s' = { s₁ with heap := h', toks := tk', gens := gs } ∧ GenSt prog w A h₀ a g sz fp toks i s' ∧ AllBare gs ∧ Fr h₀ env.locals h' m' ∧ News h₀ env.locals h' news' ∧ news'.map (·.1) = news.map (·.1) ∧ J i m' news' ∧ i ≤ toks.length ∧ kk = toks.length + 1 - i) ?_ (toks.length + 1)
    ⟨s₁.heap, s₁.toks, s₁.gens, m, news, 0, rfl, G, hb, F, N, rfl, hJ, Nat.zero_le _, rfl⟩
  rintro kk s' ⟨h', tk', gs, m', news', i, rfl, G', hb', F', N', hadr, hJ', hi, rfl⟩
  have hnew' : ∀ q ∈ news', q.1 ∉ fp ∧ q.1 ≠ a := by
    intro q hq
    have h1 : q.1 ∈ news'.map (·.1) := List.mem_map_of_mem hq
    rw [hadr] at h1
    obtain ⟨r, hr, e⟩ := List.mem_map.mp h1
    exact e ▸ hnew r hr
  by_cases hlt : i < toks.length
  · refine G'.item hlt F'.keep hlim hh hroom haf hb' fun T p c tp tc h₁ tk₁ gs₁ htok hT hkeep G₁ hb₁ => ?_
    dsimp only at hkeep ⊢
    have go : wpAny (model prog w) A (letOwnedTupleGo (.Tuple [.Name "pos" p1, .Name "ch" p2] k pt) (.ref a) (.ref T)) (fun _ s₁' => s₁' = { s₁ with heap := h₁, toks := tk₁, gens := gs₁ }) (fun _ _ => False) { s₁ with heap := h₁, toks := tk₁, gens := gs₁ } := by
      obtain ⟨o, nm, qn, hoa, hoc, hod, _⟩ := G₁.1
      unfold letOwnedTupleGo
      refine wpAny_bind (wpAny_load hoa ?_)
      rw [hoc, hod]
      exact wpAny_pure rfl
    refine wpAny_mono go (fun _ s₂ e => ?_) fun _ _ e => e.elim
    subst e
    have hT' : h₁.IsTuple T #[.int (p : Nat) tp, .str c tc] := ⟨_, hT, rfl, _, rfl⟩
    refine wpAny_assign_Tuple hh hT' rfl rfl fun h₃ hx₃ => ?_
    replace hx₃ : Heap.ExtBut h₁.objs.size h₁ h₃ := hx₃
    have old₃ : ∀ b o, h₁.get? b = some o → h₃.get? b = some o := fun b o e => hx₃ b o (Nat.ne_of_lt (Heap.lt_size e)) e
    have F₃ : Fr h₀ env.locals h₃ m' := ⟨F'.ns.at' fun o e => old₃ _ o (hkeep _ o hLf e), fun b o e => old₃ b o (hkeep b o (fun hm => by rw [hfs b hm] at e; cases e) (F'.keep b o e)), F'.above⟩
    have N₃ : News h₀ env.locals h₃ news' := fun q hq => ⟨old₃ _ _ (hkeep _ _ (hnew' q hq).1 (N' q hq).1), (N' q hq).2⟩
    have No : News h₀ env.locals h₃ (ownOf h₀ (a :: fp) h₃) := news_ownOf (fun hm => by rcases List.mem_cons.mp hm with e | hm; exact haL e.symm; exact hLf hm)
    show wpAny _ _ (do holding [Value.str c tc] (assign (.Name "pos" p1) env (.int (p : Nat) tp)); do holding [] (assign (.Name "ch" p2) env (.str c tc)); pure ()) _ _ _
    refine wpAny_bind (wpAny_holding (wpAny_assign_Name (wpAny_storeName_local hk1 F₃.ns (fun h₄ hn₄ hs₄ => ?_) hp)))
    refine wpAny_bind (wpAny_holding (wpAny_assign_Name (wpAny_storeName_local hk2 hn₄ (fun h₅ hn₅ hs₅ => wpAny_pure ?_) hp)))
    have F₅ := (F₃.set hn₄ hs₄).set hn₅ hs₅
    have N₅ := (N₃.set hs₄).set hs₅
    have No₅ := (No.set hs₄).set hs₅
    replace hs₄ : Heap.SameBut env.locals h₃ h₄ := hs₄
    replace hs₅ : Heap.SameBut env.locals h₄ h₅ := hs₅
    have hoff : OwnOff (ownOf h₀ (a :: fp) h₃) (news.map (·.1)) := by
      intro q hq b hbm e
      obtain ⟨r, hr, rfl⟩ := List.mem_map.mp hbm
      have hqm := ownOf_sub q hq
      rw [e] at hqm
      rcases List.mem_cons.mp hqm with e1 | e1
      · exact (hnew r hr).2 e1
      · exact (hnew r hr).1 e1
    refine wpAny_passesOwn hE (wpAny_mono (turn i p c tp tc m' news' _ h₅ _ gs₁ htok hadr hoff hJ' F₅ (fun q hq => (List.mem_append.mp hq).elim (N₅ q) (No₅ q)) hb₁) (fun f s₃ hf => ?_) fun _ _ e => e)
    have fin : InvEndN h₀ env.locals (J (i + 1)) (ownOf h₀ (a :: fp) h₃) (news.map (·.1)) { s₁ with heap := h₅, toks := tk₁ + 1 + 1, gens := gs₁ } s₃ → ∃ mm, mm < toks.length + 1 - i ∧ ∃ h' tk' gs m' news' i, s₃ = { s₁ with heap := h', toks := tk', gens := gs } ∧ GenSt prog w A h₀ a g sz fp toks i s₃ ∧ AllBare gs ∧ Fr h₀ env.locals h' m' ∧ News h₀ env.locals h' news' ∧ news'.map (·.1) = news.map (·.1) ∧ J i m' news' ∧ i ≤ toks.length ∧ mm = toks.length + 1 - i := by
      rintro ⟨h₆, tk₆, m₆, news₆, nx, rfl, F₆, N₆, hnx, hown, ha, hj⟩
      refine ⟨toks.length + 1 - (i + 1), by omega, h₆, tk₆, gs₁, m₆, nx, i + 1, rfl, ?_, hb₁, F₆, (fun q hq => N₆ q (hnx q hq)), ha, hj, hlt, rfl⟩
      have up : ∀ b ∈ a :: fp, ∀ o, h₁.get? b = some o → h₆.get? b = some o := by
        intro b hbm o e
        have hb0 : h₀.get? b = none := by
          rcases List.mem_cons.mp hbm with e1 | e1
          · exact e1 ▸ ha0
          · exact hfs b e1
        exact (N₆ _ (hown _ (mem_ownOf hbm hb0 (old₃ b o e)))).1
      exact G₁.frame (fun o e => up a (List.mem_cons_self ..) o e) (fun b hbm o e => up b (List.mem_cons_of_mem _ hbm) o e) (fun e => absurd e (Nat.succ_ne_zero i))
    cases f with
    | ret v => exact hf
    | brk => exact hf
    | next => exact fin hf
    | cont => exact fin hf
  · have hin : i = toks.length := by omega
    subst hin
    refine G'.done F'.keep hlim hh hroom hfs hb' fun h₁ tk₁ gs₁ hkeep hb₁ => wpAny_execs_nil ?_
    dsimp only at hkeep ⊢
    refine done m' news' h₁ tk₁ gs₁ hJ' ⟨F'.ns.at' fun o e => hkeep _ o hLf e, fun b o e => hkeep b o (fun hm => by rw [hfs b hm] at e; cases e) (F'.keep b o e), F'.above⟩ (fun q hq => ⟨hkeep _ _ (hnew' q hq).1 (N' q hq).1, (N' q hq).2⟩) hb₁

theorem genAt_mk {La g : Nat} {toks : List (Nat × Str)} {m : Str → Option Value} {news : List (Addr × Obj)} (J : Nat → (Str → Option Value) → List (Addr × Obj) → Prop)
    (F : Fr h₀ env.locals s.heap m) (N : News h₀ env.locals s.heap news) (hlt : env.locals < La) (hltn : ∀ p ∈ news, p.1 < La) (G : GenSt prog w A h₀ (La + 1) g (La + 2) [La, La + 2, La + 3] toks 0 s)
    (hlim : h₀.NoLimit) (hroom : A.depth < recursionLimit) (hb : AllBare s.gens) (hJ : J 0 m news)
    (turn : ∀ i p c tp tc m₁ news₁ own h tk gs, toks[i]? = some (p, c) → news₁.map (·.1) = news.map (·.1) → OwnOff own (news.map (·.1)) → J i m₁ news₁ →
      Fr h₀ env.locals h (fun y => if y = "ch" then some (.str c tc) else if y = "pos" then some (.int (p : Nat) tp) else m₁ y) → News h₀ env.locals h (news₁ ++ own) → AllBare gs →
      wpAny (model prog w) A (execs body env) (InvPostN h₀ env.locals (J (i + 1)) own (news.map (·.1)) { s with heap := h, toks := tk, gens := gs } Q) E { s with heap := h, toks := tk, gens := gs })
    (done : ∀ m₁ news₁ h tk gs, J toks.length m₁ news₁ → Fr h₀ env.locals h m₁ → News h₀ env.locals h news₁ → AllBare gs → Q .next { s with heap := h, toks := tk, gens := gs }) :
    GenAtLoop prog w A h₀ env body Q E (.ref (La + 1)) s := by
  have hL0 : h₀.objs.size ≤ La := Nat.le_trans F.above (Nat.le_of_lt hlt)
  have h3 : ∀ b : Nat, b ∈ [La, La + 2, La + 3] → (@Eq Nat b La ∨ @Eq Nat b (La + 2) ∨ @Eq Nat b (La + 3)) := fun b hb => by simpa using hb
  refine ⟨La + 1, g, La + 2, _, toks, m, news, J, rfl, G, hlim, hroom, hb, fun hm => ?_, fun hm => ?_, fun e => ?_, fun b hbm => ?_, ?_, fun q hq => ⟨fun hm => ?_, fun e => ?_⟩, F, N, hJ, turn, done⟩
  · have := h3 _ hm
    have hlt' : @LT.lt Nat _ env.locals La := hlt
    omega
  · have := h3 _ hm; omega
  · have hlt' : @LT.lt Nat _ env.locals La := hlt
    have e' : @Eq Nat (La + 1) env.locals := e
    omega
  · exact Heap.get?_none_of_le (by have := h3 _ hbm; have h0 : @LE.le Nat _ h₀.objs.size La := hL0; show @LE.le Nat _ h₀.objs.size b; omega)
  · exact Heap.get?_none_of_le (Nat.le_succ_of_le hL0)
  · have := h3 _ hm
    have hq' : @LT.lt Nat _ q.1 La := hltn q hq
    omega
  · have hq' : @LT.lt Nat _ q.1 La := hltn q hq
    have e' : @Eq Nat q.1 (La + 1) := e
    omega
end
end Mine

end
section
open PySem PySem.W PySem.Calls PyProof.Rows
set_option linter.unusedVariables false
namespace Mine
/-- as Fn, for a def that makes generators: gens may grow, all bare -/
def FnG (prog : Program) (w : World) (K : Frag) (p : Program) (f : Addr) (need : Nat) (vs : List Value) (P : Value → Prop) : Prop :=
  ∀ (loose : List Str) (mean : ExcName → Option Value) (mg mb : Str → Option Value) (dp un : Nat) (gd : Option (List Code)) (cn : Str) (cs : PySem.Scope) (a : Addr) (ccd : Value) (cl : List (Str × Addr)) (outer : List Env) (A₀ : Around) (base h₀ : Heap) (L : Addr) (m : Str → Option Value) (news : List (Addr × Obj)) (s : Shared) (Q E : Value → Shared → Prop),
    Below A₀ base outer h₀ → Fr h₀ L s.heap m → K.In h₀ → News h₀ L s.heap news → Top p loose mean mg mb h₀ → cs.kind = .function → AllBare s.gens →
    dp + need < recursionLimit → un + 8 * need < cLine →
    (∀ (v : Value) (h' : Heap) (tk' : Nat) (gs : Array GenState), P v → Fr h₀ L h' m → News h₀ L h' news → AllBare gs → Q v { s with heap := h', toks := tk', gens := gs }) →
      wpAny (model prog w) (ktrTop dp un gd cn cs L a ccd cl outer) (call (.ref f) vs) Q E s
theorem FnG.use {prog : Program} {w : World} {K : Frag} {p : Program} {f : Addr} {need : Nat} {vs : List Value} {P : Value → Prop} (C : FnG prog w K p f need vs P)
    {loose : List Str} {mean : ExcName → Option Value} {mg mb : Str → Option Value} {dp un : Nat} {gd : Option (List Code)} {cn : Str} {cs : PySem.Scope} {a : Addr} {ccd : Value} {cl : List (Str × Addr)} {outer : List Env} {A₀ : Around} {base h₀ : Heap} {L : Addr} {m : Str → Option Value} {news : List (Addr × Obj)} {s : Shared} {Q E : Value → Shared → Prop}
    (B : Below A₀ base outer h₀) (F : Fr h₀ L s.heap m) (X : K.In h₀) (N : News h₀ L s.heap news) (T : Top p loose mean mg mb h₀) (hk : cs.kind = .function) (hb : AllBare s.gens)
    (hd : dp + need < recursionLimit) (hu : un + 8 * need < cLine)
    (ret : ∀ (v : Value) (h' : Heap) (tk' : Nat) (gs : Array GenState), P v → Fr h₀ L h' m → News h₀ L h' news → AllBare gs → Q v { s with heap := h', toks := tk', gens := gs }) :
    wpAny (model prog w) (ktrTop dp un gd cn cs L a ccd cl outer) (call (.ref f) vs) Q E s :=
  C _ _ _ _ _ _ _ _ _ _ _ _ _ _ _ _ _ _ _ _ _ _ B F X N T hk hb hd hu ret

def stripStep (x : Str) (st : Int × Option Int × List Str) (tok : Nat × Str) : Int × Option Int × List Str :=
  if tok.2 == Str.ofString "\"" then (match st.2.1 with
    | none => (st.1, some (tok.1 : Int), st.2.2)
    | some o => ((tok.1 : Int) + 1, none, if st.1 != o then st.2.2 ++ [Txt.slice x (some st.1) (some o)] else st.2.2)) else st
def stripQ (x : Str) : Str :=
  if Txt.contains x (Str.ofString "\"") then
    let st := (tokList 0 false x.cps.toList).foldl (stripStep x) (0, none, [])
    Txt.join (Str.ofString "") (if st.1 < x.length then st.2.2 ++ [Txt.slice x (some st.1) none] else st.2.2)
  else x
def optV : Option Int → Tok → Value
  | none, _ => .none
  | some i, t => .int i t

theorem tok_lt : ∀ (cs : List Nat) (i : Nat) (esc : Bool), (esc = true → 1 ≤ i) → ∀ q ∈ tokList i esc cs, q.1 < i + cs.length
  | [], i, false, _, q, hq => by simp [tokList] at hq
  | [], i, true, h, q, hq => by
    have := h rfl
    simp [tokList] at hq
    subst hq
    simp only [List.length_nil]
    omega
  | c :: r, i, esc, h, q, hq => by
    rw [tokList_cons, List.mem_append] at hq
    rcases hq with hq | hq
    · have : q.1 = i := by
        unfold tokAt at hq
        split at hq
        · simp at hq; rw [hq]
        · split at hq
          · simp at hq
          · simp at hq; rw [hq]
      rw [this, List.length_cons]
      omega
    · have := tok_lt r (i + 1) _ (fun _ => Nat.le_add_left 1 i) q hq
      rw [List.length_cons]
      omega
theorem tok_len : ∀ (cs : List Nat) (i : Nat) (esc : Bool), (tokList i esc cs).length ≤ cs.length + (if esc then 1 else 0)
  | [], i, false => by simp [tokList]
  | [], i, true => by simp [tokList]
  | c :: r, i, esc => by
    rw [tokList_cons, List.length_append]
    have := tok_len r (i + 1) (escNext esc c)
    cases esc with
    | true => simp [tokAt, escNext] at this ⊢; omega
    | false =>
      by_cases h9 : c = 92
      · subst h9; simp [tokAt, escNext] at this ⊢; omega
      · have e1 : (c == 92) = false := by simpa using h9
        simp [tokAt, escNext, h9, e1] at this ⊢; omega

theorem push_text {g' h : Heap} {L R : Addr} {l : List (Str × Tok)} {y : Str} {tt : Tok} {n : Nat} {rest : List (Addr × Obj)} (N : News g' L h ((R, listOf ((strValues l).toArray.push (.str y tt)) n) :: rest)) :
    ∃ l', News g' L h ((R, listOf (strValues l').toArray n) :: rest) ∧ l'.map (·.1) = l.map (·.1) ++ [y] ∧ l'.length = l.length + 1 ∧ ∀ q ∈ l', q ∈ l ∨ q.1 = y := by
  refine ⟨l ++ [(y, tt)], ?_, by simp, by simp, fun q hq => ?_⟩
  · have e : (strValues l).toArray.push (.str y tt) = (strValues (l ++ [(y, tt)])).toArray := by simp [strValues]
    rw [← e]
    exact N
  · rcases List.mem_append.mp hq with hq | hq
    · exact .inl hq
    · exact .inr (by rw [List.mem_singleton.mp hq])
theorem push_size {l : List (Str × Tok)} (h : l.length ≤ 1000) : (strValues l).toArray.size ≤ sizeLine := by
  simp [strValues]
  have := sizeLine_eq
  omega

theorem join_ok {texts : List Str} (h : ∀ y ∈ texts, y.length ≤ 1000) (hn : texts.length ≤ 1001) : JoinOk (Str.ofString "") texts = true := by
  unfold JoinOk
  rw [StrLaws.joinTotal]
  have h1 : (texts.map (·.length)).sum ≤ texts.length * 1000 := by
    clear hn
    induction texts with
    | nil => simp
    | cons y r ih =>
      have := ih fun z hz => h z (List.mem_cons_of_mem _ hz)
      have := h y (List.mem_cons_self ..)
      simp only [List.map_cons, List.sum_cons, List.length_cons]
      omega
  have h2 : (Str.ofString "").length = 0 := by decide
  rw [h2]
  have := sizeLine_eq
  simp only [Builtin.Str.tooLong, Bool.not_eq_true', decide_eq_false_iff_not]
  omega

def checkStep (st : Option Int) (tok : Nat × Str) : Option Int := match st with
  | none => none
  | some o => if tok.2 == Str.ofString "(" then some (o + 1) else if tok.2 == Str.ofString ")" then (if o - 1 < 0 then none else some (o - 1)) else some o
def checkP (x : Str) : Bool := match (tokList 0 false (stripQ x).cps.toList).foldl checkStep (some 0) with
  | some o => o == 0
  | none => false
theorem check_none : ∀ l : List (Nat × Str), l.foldl checkStep none = none
  | [] => rfl
  | _ :: r => check_none r
end Mine

end
section
open PySem PySem.W PySem.Calls PyProof.Rows
open Sem (wp)
set_option linter.unusedVariables false
set_option maxRecDepth 100000
set_option maxHeartbeats 4000000
namespace Mine
theorem gen_make (w : World) (x : Str) (t : Tok)
    (loose : List Str) (mean : ExcName → Option Value) (mg mb : Str → Option Value) (dp un : Nat) (gd : Option (List Code)) (cn : Str) (cs : PySem.Scope) (a : Addr) (ccd : Value) (cl : List (Str × Addr)) (outer : List Env) (A₀ : Around) (base h₀ : Heap) (L : Addr) (m : Str → Option Value) (news : List (Addr × Obj)) (s : Shared) (Q E : Value → Shared → Prop)
    (B : Below A₀ base outer h₀) (F : Fr h₀ L s.heap m) (X : (Mine.hd.heap_39 w.params).In h₀) (N : News h₀ L s.heap news) (T : Top Mine.hd.view_39 loose mean mg mb h₀) (hk : cs.kind = .function)
    (hd9 : dp + 1 < recursionLimit) (hu9 : un + 8 < cLine)
    (hret : ∀ (L' : Addr) (h' : Heap) (tk' : Nat) (c : Code), Fr h₀ L h' m → News h₀ L h' news → L < L' → (∀ p ∈ news, p.1 < L') → h'.objs.size = L' + 2 → (∀ b o, s.heap.get? b = some o → h'.get? b = some o) →
      (∀ A' : Around, A'.handled = none → GenSt PySem.Challenge.rw_rw0063_01.row.prog w A' h₀ (L' + 1) s.gens.size (L' + 2) [L', L' + 2, L' + 3] (tokList 0 false x.cps.toList) 0 { s with heap := h', toks := tk', gens := s.gens.push (.fresh c) }) →
      Q (.ref (L' + 1)) { s with heap := h', toks := tk', gens := s.gens.push (.fresh c) }) :
    wpAny (model PySem.Challenge.rw_rw0063_01.row.prog w) (ktrTop dp un gd cn cs L a ccd cl outer) (call (.ref 21) [.str x t]) Q E s := by
  revert X; k_fill; intro X
  refine wpAny_call ?_
  refine' code_gen ?k1 ?k2 ?k3 ?k4 ?k5 ?k6 ?k7 ?k8 ?_ ?c1 ?c2 ?c3 ?c4
  case k1 => exact F
  case k2 => exact X
  case k3 => exact T
  case k4 => k_is
  case k5 => k_is
  case k6 => ktr_room
  case k7 => exact rfl
  case k8 => exact locs rfl
  case c1 => exact rfl
  case c2 => exact rfl
  case c3 => exact rfl
  case c4 => decide
  intro h₁ hns hz hkeep
  have hLs : L < s.heap.objs.size := F.ns.lt
  have hL0 : h₀.objs.size ≤ s.heap.objs.size := Nat.le_trans F.above (Nat.le_of_lt hLs)
  refine hret s.heap.objs.size _ _ _ ?_ ?_ hLs (fun p hp => Heap.lt_size (N p hp).1) (by rw [Heap.size_push, hz]) (fun b o e => Heap.get?_push_of_some _ (hkeep b o e)) (fun A' hA' => ?_)
  · exact ⟨F.ns.at' fun o e => Heap.get?_push_of_some _ (hkeep _ o e), fun b o e => Heap.get?_push_of_some _ (hkeep b o (F.keep b o e)), F.above⟩
  · exact fun p hp => ⟨Heap.get?_push_of_some _ (hkeep _ _ (N p hp).1), (N p hp).2⟩
  refine GenSt.start ⟨_, _, _, by show (h₁.push _).get? (s.heap.objs.size + 1) = _; rw [← hz]; exact Heap.get?_push_size _ rfl, rfl, rfl, rfl⟩ (by show (h₁.push _).objs.size = _; rw [Heap.size_push, hz]) (Array.getElem?_push_size ..) fun s'' hal hz'' hs'' => ?_
  have F₁ : Fr h₀ s.heap.objs.size s''.heap _ := ⟨hns.at' fun o e => hal _ (by simp) o (Heap.get?_push_of_some _ e), hs'', hL0⟩
  obtain ⟨all, Nall, hall⟩ := all_news h₀ s''.heap s.heap.objs.size
  have hallz : ∀ p ∈ all, p.1 < s.heap.objs.size + 2 := fun p hp => hz'' ▸ Heap.lt_size (Nall p hp).1
  clear hal hns hkeep hret F N hz
  generalize s.heap.objs.size = L' at *
  clear hs''
  refine seg_func ?_
  refine seg_stmt (wpAny_Assign_Name (wpAny_Constant_int (wpAny_storeName_local rfl F₁.ns (fun h₂ hn₂ hs₂ => ⟨rfl, ?_⟩) rfl)) rfl)
  have F₂ := F₁.set hn₂ hs₂
  have N₂ := Nall.set hs₂
  have z₂ : h₂.objs.size = L' + 2 := hs₂.1.trans hz''
  have k₂ : ∀ b o, b ≠ L' → s''.heap.get? b = some o → h₂.get? b = some o := fun b o hb e => (hs₂.2 b hb).trans e
  clear hs₂ hn₂ Nall
  refine seg_stmt (wpAny_Assign_Name (Constant_bool (wpAny_storeName_local rfl F₂.ns (fun h₃ hn₃ hs₃ => ⟨rfl, ?_⟩) rfl)) rfl)
  have F₃ := F₂.set hn₃ hs₃
  have N₃ := N₂.set hs₃
  have z₃ : h₃.objs.size = L' + 2 := hs₃.1.trans z₂
  have k₃ : ∀ b o, b ≠ L' → s''.heap.get? b = some o → h₃.get? b = some o := fun b o hb e => (hs₃.2 b hb).trans (k₂ b o hb e)
  clear hs₃ hn₃ F₂ N₂ z₂ k₂ F₁ hall hallz
  refine seg_execs_cons ?_
  refine seg_For ?_
  k_steps
  refine call_enum_at z₃ fun h₄ hen hit hz₄ hk₄ => ?_
  replace hk₄ : ∀ b o, h₃.get? b = some o → h₄.get? b = some o := hk₄
  refine wpAny_pyIter_enum (e := L' + 3) (it := L' + 2) (i := 0) (old := .none) hen ?_
  obtain ⟨St, D, hst⟩ := draws_str (prog := PySem.Challenge.rw_rw0063_01.row.prog) (w := w) hit
  have W := fun (A'' : Around) (hA'' : A''.handled = none) => (WalksT.enumerateD (it := L' + 2) (D A''.in1 hA'') (L' + 3) (Nat.succ_ne_self _) (fun hm => Nat.succ_ne_self _ (List.mem_singleton.mp hm)) (List.mem_singleton.mpr rfl)).toU
  have F₄ : Fr h₀ L' h₄ _ := ⟨F₃.ns.at' fun o e => hk₄ _ o e, fun b o e => hk₄ b o (F₃.keep b o e), F₃.above⟩
  intro p
  have hnone : ∀ b : Nat, L' ≤ b → h₀.get? b = none := fun b hb => Heap.get?_none_of_le (Nat.le_trans hL0 hb)
  refine gen_loop (t := t) (by exact hA') W ?hPt rfl rfl rfl rfl ?hwr ?hL ?hfw ?turn ?fin x.cps.size 0 false _ _ _ (Nat.sub_zero _) (Nat.zero_le _) ?htok (Nat.le_refl _) ?hloc ?hsince
  case hPt => rintro i vals ⟨tp, y, ⟨c, u, hc, rfl⟩, rfl⟩; exact ⟨tp, c, u, hc, rfl⟩
  case hwr =>
    intro b hb
    have hb' : b = L' + 3 ∨ b = L' + 2 := by simpa using hb
    rcases hb' with rfl | rfl
    · exact ⟨by simp, fun e => absurd e (by show ¬ (L' + 3 = L'); omega), hnone _ (by omega)⟩
    · exact ⟨by simp, fun e => absurd e (by show ¬ (L' + 2 = L'); omega), hnone _ (by omega)⟩
  case hL => exact List.mem_cons_self ..
  case hfw =>
    intro b hb
    have hb' : b = L' + 3 ∨ b = L' + 2 := by simpa using hb
    rcases hb' with rfl | rfl
    · exact ⟨by simp, fun e => absurd e (by show ¬ (L' + 3 = L'); omega)⟩
    · exact ⟨by simp, fun e => absurd e (by show ¬ (L' + 2 = L'); omega)⟩
  case htok => simp
  case hloc => exact ⟨⟨_, F₄, rfl, ⟨_, rfl⟩, rfl⟩, ⟨_, hen⟩, hst⟩
  case hsince => exact ⟨h₄, _, rfl, fun b o hb e => hk₄ b o (k₃ b o (fun q => hb (q ▸ List.mem_cons_self ..)) e)⟩
  case turn =>
    intro i esc c n s₀ s₁ m₁ tp tc hc F₁ ha hpo hch hes hst₁ hsn knone ksome
    replace D := D A' hA'
    clear F₄ hst hen hit hz₄ hk₄ N₃ F₃ z₃ k₃ hz''
    replace F₁ : Fr h₀ L' s₁.heap m₁ := F₁
    obtain ⟨all, Nall, hall⟩ := all_news h₀ s₁.heap L'
    have F₂ := fr_ovr F₁ [("escape", .bool esc), ("ch", .str ⟨#[c]⟩ tc), ("pos", .int (i : Nat) tp), ("addr", .str x t)] (by simp only [List.forall_mem_cons]; exact ⟨hes, hch, hpo, ha, by simp⟩)
    clear F₁
    refine seg_execs_cons (seg_If ?_)
    k_steps
    have kept0 : ∀ h' m' news', Fr h₀ L' h' m' → News h₀ L' h' news' → (∀ p ∈ all, p ∈ news') → ∀ b o, b ≠ L' → s₁.heap.get? b = some o → h'.get? b = some o := fun h' m' news' F' N' sub => all_kept F₂ hall F' N' sub
    cases esc with
    | true =>
      obtain ⟨n', rfl, htok, kgo⟩ := ksome _ rfl
      refine seg_yield1 rfl rfl rfl ?_ rfl rfl
      k_steps
      with_reducible rename (∀ s'', Seg _ _ _ _ _ _ _ _ _ _ → _) => hkap
      with_reducible rename Fr h₀ L' _ _ => F₃
      with_reducible rename News h₀ L' _ _ => N₃
      have kept := kept0 _ _ _ F₃ N₃ fun q hq => List.mem_cons_of_mem _ hq
      refine gy_mk (s₁ := s₁) hsn kept N₃ (List.mem_cons_self ..) htok fun s₄ hal hs₄ => hkap s₄ ?_
      have F₄ : Fr h₀ L' s₄.heap _ := ⟨F₃.ns.at' fun o e => hal _ (List.mem_cons_self ..) o e, hs₄, hL0⟩
      have hst₄ : (∃ old, IsEnum s₄.heap (L' + 3) (L' + 2) ((i + 1 : Nat) : Int) old) ∧ St (i + 1) s₄.heap := by
        obtain ⟨⟨old, he⟩, hst2⟩ := hst₁
        exact ⟨⟨old, hal _ (by simp) _ (kept _ _ (by show ¬ (L' + 3 = L'); omega) he)⟩, D.frame _ _ _ hst2 fun b hb o e => by
          rw [List.mem_singleton.mp hb] at e ⊢
          exact hal _ (by simp) _ (kept _ _ (by show ¬ (L' + 2 = L'); omega) e)⟩
      refine seg_stmt (wpAny_Assign_Name (Constant_bool (wpAny_storeName_local rfl F₄.ns (fun h₅ hn₅ hs₅ => ⟨rfl, ?_⟩) rfl)) rfl)
      have F₅ := F₄.set hn₅ hs₅
      refine seg_execs_nil (seg_again rfl (kgo s₄ _ ⟨h₅, _, rfl, fun b o hb e => (hs₅.2 b fun q => hb (q ▸ List.mem_cons_self ..)).trans e⟩ ⟨⟨_, F₅, rfl, ⟨_, rfl⟩, rfl⟩, ?_⟩))
      obtain ⟨⟨old, he⟩, hst2⟩ := hst₄
      exact ⟨⟨old, (hs₅.2 _ (by show ¬ (L' + 3 = L'); omega)).trans he⟩, D.frame _ _ _ hst2 fun b hb o e => by
        rw [List.mem_singleton.mp hb] at e ⊢
        exact (hs₅.2 _ (by show ¬ (L' + 2 = L'); omega)).trans e⟩
    | false =>
      refine seg_execs_cons (seg_If ?_)
      k_steps
      have bq : ((⟨#[c]⟩ : Str) == Str.ofString "\\") = (c == 92) := by
        by_cases h9 : c = 92
        · subst h9; decide
        · have e1 : (c == 92) = false := by simpa using h9
          rw [e1]
          exact beq_eq_false_iff_ne.mpr fun e => h9 (by have e2 := congrArg (fun y : Str => y.cps.toList) e; simpa [show (Str.ofString "\\") = ⟨#[92]⟩ from by decide +kernel] using e2)
      rw [bq]
      by_cases h9 : c = 92
      · subst h9
        refine seg_stmt (wpAny_Assign_Name (Constant_bool (wpAny_storeName_local rfl F₂.ns (fun h₅ hn₅ hs₅ => ⟨rfl, ?_⟩) rfl)) rfl)
        have F₅ := F₂.set hn₅ hs₅
        refine seg_execs_nil (seg_execs_nil (seg_again rfl (knone rfl _ (hsn.step fun b o hb e => (hs₅.2 b fun q => hb (q ▸ List.mem_cons_self ..)).trans e) ⟨⟨_, F₅, rfl, ⟨_, rfl⟩, rfl⟩, ?_⟩)))
        obtain ⟨⟨old, he⟩, hst2⟩ := hst₁
        exact ⟨⟨old, (hs₅.2 _ (by show ¬ (L' + 3 = L'); omega)).trans he⟩, D.frame _ _ _ hst2 fun b hb o e => by
          rw [List.mem_singleton.mp hb] at e ⊢
          exact (hs₅.2 _ (by show ¬ (L' + 2 = L'); omega)).trans e⟩
      · have e1 : (c == 92) = false := by simpa using h9
        rw [e1]
        obtain ⟨n', rfl, htok, kgo⟩ := ksome (i, ⟨#[c]⟩) (by simp [tokAt, h9])
        refine seg_yield1 rfl rfl rfl ?_ rfl rfl
        k_steps
        with_reducible rename (∀ s'', Seg _ _ _ _ _ _ _ _ _ _ → _) => hkap
        with_reducible rename Fr h₀ L' _ _ => F₃
        with_reducible rename News h₀ L' _ _ => N₃
        have kept := kept0 _ _ _ F₃ N₃ fun q hq => List.mem_cons_of_mem _ hq
        refine gy_mk (s₁ := s₁) hsn kept N₃ (List.mem_cons_self ..) htok fun s₄ hal hs₄ => hkap s₄ ?_
        have F₄ : Fr h₀ L' s₄.heap _ := ⟨F₃.ns.at' fun o e => hal _ (List.mem_cons_self ..) o e, hs₄, hL0⟩
        refine seg_execs_nil (seg_execs_nil (seg_again rfl (kgo s₄ _ (Since.refl _ _) ⟨⟨_, F₄, rfl, ⟨_, rfl⟩, by show _ = some (Value.bool (c == 92)); rw [e1]; rfl⟩, ?_⟩)))
        obtain ⟨⟨old, he⟩, hst2⟩ := hst₁
        exact ⟨⟨old, hal _ (by simp) _ (kept _ _ (by show ¬ (L' + 3 = L'); omega) he)⟩, D.frame _ _ _ hst2 fun b hb o e => by
          rw [List.mem_singleton.mp hb] at e ⊢
          exact hal _ (by simp) _ (kept _ _ (by show ¬ (L' + 2 = L'); omega) e)⟩
  case fin =>
    intro esc n s₀ s₁ hloc hsn htk hn
    clear F₄ hst hen hit hz₄ hk₄ N₃ F₃ z₃ k₃ hz'' D W
    obtain ⟨⟨m₁, F₁, ha, ⟨tp, hpo⟩, hes⟩, _⟩ := hloc
    replace F₁ : Fr h₀ L' s₁.heap m₁ := F₁
    obtain ⟨all, Nall, hall⟩ := all_news h₀ s₁.heap L'
    have F₂ := fr_ovr F₁ [("escape", .bool esc), ("pos", .int ((x.cps.size - 1 : Nat) : Int) tp), ("addr", .str x t)] (by simp only [List.forall_mem_cons]; exact ⟨hes, hpo, ha, by simp⟩)
    clear F₁
    have kept0 : ∀ h' m' news', Fr h₀ L' h' m' → News h₀ L' h' news' → (∀ p ∈ all, p ∈ news') → ∀ b o, b ≠ L' → s₁.heap.get? b = some o → h'.get? b = some o := fun h' m' news' F' N' sub => all_kept F₂ hall F' N' sub
    refine seg_leaf (.ok .next) ?_
    refine seg_execs_cons (seg_If ?_)
    k_steps
    have hlen := congrArg List.length htk
    rw [List.length_drop] at hlen
    cases esc with
    | false =>
      have h0 : n = 0 := by simp [tokList] at hlen; omega
      subst h0
      refine seg_execs_nil ?_
      exact seg_end (.ok (.ret .none)) ⟨rfl, rfl, hsn⟩
    | true =>
      have h1 : n = 1 := by simp [tokList] at hlen; omega
      subst h1
      refine seg_yield1 rfl rfl rfl ?_ rfl rfl
      k_steps
      with_reducible rename (∀ s'', Seg _ _ _ _ _ _ _ _ _ _ → _) => hkap
      with_reducible rename Fr h₀ L' _ _ => F₃
      with_reducible rename News h₀ L' _ _ => N₃
      have kept := kept0 _ _ _ F₃ N₃ fun q hq => List.mem_cons_of_mem _ hq
      have htok : (tokList 0 false x.cps.toList)[(tokList 0 false x.cps.toList).length - 1 - 0]? = some (x.cps.size - 1, Str.ofString "\\") := by
        have e0 : (tokList x.cps.size true []) = [(x.cps.size - 1, Str.ofString "\\")] := by rw [show Str.ofString "\\" = ⟨#[92]⟩ from by decide +kernel]; rfl
        rw [e0] at htk
        have e1 := congrArg (fun l => l[0]?) htk
        simp only [List.getElem?_drop] at e1
        simpa using e1.symm
      refine gy_mk (s₁ := s₁) hsn kept N₃ (List.mem_cons_self ..) htok fun s₄ hal hs₄ => hkap s₄ ?_
      refine seg_execs_nil (seg_execs_nil ?_)
      exact seg_end (.ok (.ret .none)) ⟨rfl, rfl, Since.refl _ _⟩
end Mine

end
section
open PySem PySem.W PySem.Calls PyProof.Rows
set_option linter.unusedVariables false
set_option maxRecDepth 100000
set_option maxHeartbeats 4000000
namespace Mine
theorem strip_fn (w : World) (x : Str) (t : Tok) (hx : x.length ≤ 1000) :
   FnG PySem.Challenge.rw_rw0063_01.row.prog w (Mine.hd.heap_39 w.params) Mine.hd.view_39 28 3 [.str x t] (fun v => ∃ t', v = .str (stripQ x) t') := by
  k_fill
  unfold FnG
  intro loose mean mg mb dp un gd cn cs aa ccd cl outer A₀ base h₀ L m news s Q E B F X N T hk hb hd9 hu9 hret
  refine wpAny_call ?_
  refine' code_def ?k1 ?k2 ?k3 ?k4 ?k5 ?kA ?kF ?kK ?k6 ?k7 ?k8 ?k9 ?kB ?_ ?c2 ?c3 ?c4 ?c5
  case kA => exact rfl
  case kF => exact rfl
  case kK => assumption
  case k1 => exact B
  case k2 => exact F
  case k3 => exact X
  case k4 => exact N
  case k5 => exact T
  case k6 => k_is
  case k7 => k_is
  case k8 => ktr_room
  case k9 => exact BindsTo.of_eq rfl
  case c5 => decide
  case kB => exact locs rfl
  case c2 => exact rfl
  case c3 => exact rfl
  case c4 => exact rfl
  intro g' L' h' FG F' N' B' X' T'
  dsimp only
  k_fold
  k_steps
  · rename Fr h₀ L _ m => kF
    rename News h₀ L _ _ => kN
    rename (Builtin.Str.occurrences x (Str.ofString "\"") 0 x.length 1).isEmpty = true => hcont
    have hQ : stripQ x = x := by
      unfold stripQ
      rw [if_neg (by unfold Txt.contains; rw [hcont]; simp)]
    exact hret _ _ _ _ ⟨t, by rw [hQ]⟩ kF kN hb
  · refine For_gen (h₀ := g') rfl rfl rfl rfl ?_ (fun _ => rfl) (by passes_own)
    k_steps
    with_reducible rename News g' L' _ _ => N1
    with_reducible rename Fr g' L' _ _ => F1
    with_reducible rename (∀ p ∈ news, p.1 < _) => hl1
    rename (Builtin.Str.occurrences x (Str.ofString "\"") 0 x.length 1).isEmpty = false => hcont
    refine gen_make w x t _ _ _ _ _ _ _ _ _ _ _ _ _ _ _ _ _ _ _ _ _ _ B' F1 X' N1 T' rfl ?_ ?_ ?_
    · ktr_room
    · ktr_units
    intro La h1 tk1 c1 F2 N2 hlt hltn hz hkeep G
    clear F1 N1
    refine genAt_mk (fun i m nx => ∃ R l n, (∃ t1, m "start" = some (.int ((tokList 0 false x.cps.toList).take i |>.foldl (stripStep x) (0, none, [])).1 t1)) ∧
      (∃ t2, m "open_pos" = some (optV ((tokList 0 false x.cps.toList).take i |>.foldl (stripStep x) (0, none, [])).2.1 t2)) ∧ m "result" = some (.ref R) ∧ m "addr" = some (.str x t) ∧
      nx = (R, listOf (strValues l).toArray n) :: news ∧ l.map (·.1) = ((tokList 0 false x.cps.toList).take i |>.foldl (stripStep x) (0, none, [])).2.2 ∧
      (0 ≤ ((tokList 0 false x.cps.toList).take i |>.foldl (stripStep x) (0, none, [])).1 ∧ ((tokList 0 false x.cps.toList).take i |>.foldl (stripStep x) (0, none, [])).1 ≤ x.length) ∧
      (∀ o ∈ ((tokList 0 false x.cps.toList).take i |>.foldl (stripStep x) (0, none, [])).2.1, 0 ≤ o ∧ o < x.length) ∧ l.length ≤ i ∧ (∀ q ∈ l, q.1.length ≤ x.length) ∧ ∀ q ∈ news, q.1 ≠ R) F2 N2 hlt hltn (G _ rfl) T'.nolimit ?_ ?_ ?_ ?_ ?_
    · ktr_room
    · exact AllBare.push hb rfl
    · exact ⟨_, [], _, ⟨_, rfl⟩, ⟨0, rfl⟩, rfl, rfl, rfl, rfl, ⟨Int.le_refl _, by simp⟩, (fun o h => by cases h), Nat.le_refl _, (fun q h => by cases h), fun q hq => Nat.ne_of_lt (hl1 q hq)⟩
    · intro i p c tp tc m₁ news₁ own h tk gs htok hadr hoff hJ F3 N3 hbs
      replace F3 : Fr g' L' h _ := F3
      replace N3 : News g' L' h _ := N3
      obtain ⟨R, l, n, ⟨t1, e1⟩, ⟨t2, e2⟩, e3, e4, rfl, e5, e6, e7, e8, e9, e10⟩ := hJ
      have ht : (tokList 0 false x.cps.toList).take (i + 1) = (tokList 0 false x.cps.toList).take i ++ [(p, c)] := by rw [List.take_add_one, htok]; rfl
      have hst : ((tokList 0 false x.cps.toList).take (i + 1)).foldl (stripStep x) (0, none, []) = stripStep x (((tokList 0 false x.cps.toList).take i).foldl (stripStep x) (0, none, [])) (p, c) := by rw [ht, List.foldl_append]; rfl
      rw [hst]
      have hpl : p < x.length := by
        have := tok_lt x.cps.toList 0 false (by simp) (p, c) (List.mem_of_getElem? htok)
        simpa [Str.length] using this
      have hil : i < x.length := by
        have h1 := tok_len x.cps.toList 0 false
        have h2 := (List.getElem?_eq_some_iff.mp htok).1
        simp at h1
        simp only [Str.length]
        omega
      generalize ((tokList 0 false x.cps.toList).take i).foldl (stripStep x) (0, none, []) = st at *
      obtain ⟨start, op, res⟩ := st
      dsimp only at e1 e2 e5 e6 e7
      have F4 := fr_ovr F3 [("ch", .str c tc), ("pos", .int (p : Nat) tp), ("start", .int start t1), ("open_pos", optV op t2), ("result", .ref R), ("addr", .str x t)] (by simp only [List.forall_mem_cons]; exact ⟨rfl, rfl, e1, e2, e3, e4, by simp⟩)
      clear F3 F2 N2 e1 e2 e3 e4 ht hst
      have hR := (List.cons.inj hadr).1
      dsimp only at hR
      have hne : ∀ q ∈ news ++ own, q.1 ≠ R := by
        intro q hq
        rcases List.mem_append.mp hq with hq | hq
        · exact e10 q hq
        · rw [hR]; exact hoff q hq _ (List.mem_cons_self ..)
      have sub1 : ∀ {o : Obj}, ∀ q ∈ (R, o) :: news, q ∈ (R, o) :: news ++ own := fun q hq => List.mem_append_left _ hq
      have sub2 : ∀ {o : Obj}, ∀ q ∈ own, q ∈ (R, o) :: news ++ own := fun q hq => List.mem_append_right _ hq
      cases op with
      | none =>
        dsimp only [optV] at F4
        k_steps
        · with_reducible rename Fr g' L' _ _ => F5
          with_reducible rename News g' L' _ _ => N5
          with_reducible rename (c == _) = true => hc
          have hS : stripStep x (start, none, res) (p, c) = (start, some (p : Int), res) := by simp only [stripStep, hc, if_true]
          refine ⟨_, _, _, _, _, rfl, F5, N5, sub1, sub2, hadr, R, l, n, ?_⟩
          rw [hS]
          exact ⟨⟨_, rfl⟩, ⟨_, rfl⟩, rfl, rfl, rfl, e5, e6, (fun o ho => by cases ho; exact ⟨Int.natCast_nonneg _, by exact_mod_cast hpl⟩), by omega, e9, e10⟩
        · with_reducible rename (c == _) = false => hc
          have hS : stripStep x (start, none, res) (p, c) = (start, none, res) := by simp only [stripStep, hc, Bool.false_eq_true, if_false]
          refine ⟨_, _, _, _, _, rfl, F4, N3, sub1, sub2, hadr, R, l, n, ?_⟩
          rw [hS]
          exact ⟨⟨_, rfl⟩, ⟨0, rfl⟩, rfl, rfl, rfl, e5, e6, e7, by omega, e9, e10⟩
      | some o =>
        have e7' := e7 o rfl
        dsimp only [optV] at F4
        k_steps
        · with_reducible rename Fr g' L' _ _ => F5
          with_reducible rename News g' L' _ _ => N5
          with_reducible rename (c == _) = true => hc
          with_reducible rename start ≠ o => hso
          with_reducible rename (Txt.slice x (some start) (some o)).length ≤ x.length => hsl
          refine append_K F5 N5 (Upd.head hne) (fun h6 F6 N6 => ?_) (push_size (by omega))
          k_steps
          with_reducible rename Fr g' L' _ _ => F7
          with_reducible rename News g' L' _ _ => N7
          have hS : stripStep x (start, some o, res) (p, c) = ((p : Int) + 1, none, res ++ [Txt.slice x (some start) (some o)]) := by simp only [stripStep, hc, if_true]; rw [if_pos (by simpa using hso)]
          obtain ⟨l', N8, hl1, hl2, hl3⟩ := push_text N7
          refine ⟨_, _, _, _, _, rfl, F7, N8, sub1, sub2, hadr, R, l', n + 1, ?_⟩
          rw [hS]
          refine ⟨⟨_, rfl⟩, ⟨0, rfl⟩, rfl, rfl, rfl, by rw [hl1, e5], ⟨by dsimp only; omega, by dsimp only; omega⟩, (fun o ho => by cases ho), by omega, fun q hq => ?_, e10⟩
          rcases hl3 q hq with hq | hq
          · exact e9 q hq
          · rw [hq]; exact hsl
        · with_reducible rename Fr g' L' _ _ => F7
          with_reducible rename News g' L' _ _ => N7
          with_reducible rename (c == _) = true => hc
          with_reducible rename start = o => hso
          have hS : stripStep x (start, some o, res) (p, c) = ((p : Int) + 1, none, res) := by simp only [stripStep, hc, if_true]; rw [if_neg (by simpa using hso)]
          refine ⟨_, _, _, _, _, rfl, F7, N7, sub1, sub2, hadr, R, l, n, ?_⟩
          rw [hS]
          exact ⟨⟨_, rfl⟩, ⟨0, rfl⟩, rfl, rfl, rfl, e5, ⟨by dsimp only; omega, by dsimp only; omega⟩, (fun o ho => by cases ho), by omega, e9, e10⟩
        · with_reducible rename (c == _) = false => hc
          have hS : stripStep x (start, some o, res) (p, c) = (start, some o, res) := by simp only [stripStep, hc, Bool.false_eq_true, if_false]
          refine ⟨_, _, _, _, _, rfl, F4, N3, sub1, sub2, hadr, R, l, n, ?_⟩
          rw [hS]
          exact ⟨⟨_, rfl⟩, ⟨_, rfl⟩, rfl, rfl, rfl, e5, e6, e7, by omega, e9, e10⟩
    · intro m₁ news₁ h tk gs hJ F3 N3 hbs
      replace F3 : Fr g' L' h _ := F3
      replace N3 : News g' L' h _ := N3
      rw [List.take_length] at hJ
      obtain ⟨R, l, n, ⟨t1, e1⟩, ⟨t2, e2⟩, e3, e4, rfl, e5, e6, e7, e8, e9, e10⟩ := hJ
      have hlen := tok_len x.cps.toList 0 false
      have hQ : stripQ x = Txt.join (Str.ofString "") (if ((tokList 0 false x.cps.toList).foldl (stripStep x) (0, none, [])).1 < x.length then ((tokList 0 false x.cps.toList).foldl (stripStep x) (0, none, [])).2.2 ++ [Txt.slice x (some ((tokList 0 false x.cps.toList).foldl (stripStep x) (0, none, [])).1) none] else ((tokList 0 false x.cps.toList).foldl (stripStep x) (0, none, [])).2.2) := by
        unfold stripQ
        rw [if_pos (by unfold Txt.contains; rw [hcont]; rfl)]
      generalize (tokList 0 false x.cps.toList).foldl (stripStep x) (0, none, []) = st at *
      obtain ⟨start, op, res⟩ := st
      dsimp only at e1 e2 e5 e6 e7 hQ
      have F4 := fr_ovr F3 [("start", .int start t1), ("result", .ref R), ("addr", .str x t)] (by simp only [List.forall_mem_cons]; exact ⟨e1, e3, e4, by simp⟩)
      clear F3 F2 N2 e1 e2 e3 e4
      have hll : l.length ≤ 1000 := by
        simp only [Bool.false_eq_true, if_false, Nat.add_zero, Array.length_toList] at hlen
        simp only [Str.length] at hx
        omega
      k_steps
      · with_reducible rename Fr g' L' _ _ => F5
        with_reducible rename (Txt.slice x (some start) none).length ≤ x.length => hsl
        with_reducible rename start < _ => hst
        rename News g' L' h _ => N5
        rename News g' L' _ ((R, _) :: news) => N6
        refine append_K F5 N6 (Upd.head e10) (fun h6 F6 N6 => ?_) (push_size (by omega))
        obtain ⟨l', N8, hl1, hl2, hl3⟩ := push_text N6
        clear N6 N5
        k_steps
        have htx : ∀ y ∈ res ++ [Txt.slice x (some start) none], y.length ≤ 1000 := by
          intro y hy
          rcases List.mem_append.mp hy with hy | hy
          · rw [← e5] at hy
            obtain ⟨q, hq, rfl⟩ := List.mem_map.mp hy
            exact Nat.le_trans (e9 q hq) hx
          · rw [List.mem_singleton.mp hy]; exact Nat.le_trans hsl hx
        have hrl : res.length = l.length := by rw [← e5, List.length_map]
        refine SC.join (News.isList N8 (.head _)) (hl1.trans (by rw [e5])) (join_ok htx (by rw [List.length_append, hrl]; simp; omega)) ?_
        intro t' k
        k_steps
        rename Fr h₀ L _ m => kF
        rename News h₀ L _ _ => kN
        rw [if_pos hst] at hQ
        exact hret _ _ _ _ ⟨t', by rw [hQ]⟩ kF (fun q hq => kN q (List.mem_cons_of_mem _ hq)) hbs
      · rename ¬ start < _ => hst
        have htx : ∀ y ∈ res, y.length ≤ 1000 := by
          intro y hy
          rw [← e5] at hy
          obtain ⟨q, hq, rfl⟩ := List.mem_map.mp hy
          exact Nat.le_trans (e9 q hq) hx
        have hrl : res.length = l.length := by rw [← e5, List.length_map]
        refine SC.join (News.isList N3 (.head _)) e5 (join_ok htx (by omega)) ?_
        intro t' k
        k_steps
        rename Fr h₀ L _ m => kF
        rename News h₀ L _ _ => kN
        rw [if_neg hst] at hQ
        exact hret _ _ _ _ ⟨t', by rw [hQ]⟩ kF (fun q hq => kN q (List.mem_cons_of_mem _ hq)) hbs
end Mine

end
section
open PySem PySem.W PySem.Calls PyProof.Rows
set_option linter.unusedVariables false
set_option maxRecDepth 100000
set_option maxHeartbeats 4000000
namespace Mine
local macro_rules | `(tactic| walk_at "call ref") => `(tactic| (k_here; (with_reducible show wpAny _ _ (call (Value.ref 28) _) _ _ _); k_dflt (refine' FnG.use (strip_fn _ _ _ ?hx) ?k1 ?k2 ?k3 ?k4 ?k5 ?kK ?kb ?kd ?ku ?_; (case k1 => k_asm); (case k2 => k_asm); (case k3 => k_asm); (case k4 => k_asm); (case k5 => k_asm); (case kK => first | exact rfl | assumption); (case kb => (dsimp only; assumption)); (case kd => ktr_room); (case ku => ktr_units); (case hx => assumption)); intro v9 h9 tk9 gs9 hv9 F9 N9 hb9; obtain ⟨t9, e9⟩ := hv9; subst e9; (try dsimp only); (try k_fold)))
theorem check_fn (w : World) (x : Str) (t : Tok) (hx : x.length ≤ 1000) :
   FnG PySem.Challenge.rw_rw0063_01.row.prog w (Mine.hd.heap_39 w.params) Mine.hd.view_39 35 5 [.str x t] (fun v => v = .bool (checkP x)) := by
  k_fill
  unfold FnG
  intro loose mean mg mb dp un gd cn cs aa ccd cl outer A₀ base h₀ L m news s Q E B F X N T hk hb hd9 hu9 hret
  refine wpAny_call ?_
  refine' code_def ?k1 ?k2 ?k3 ?k4 ?k5 ?kA ?kF ?kK ?k6 ?k7 ?k8 ?k9 ?kB ?_ ?c2 ?c3 ?c4 ?c5
  case kA => exact rfl
  case kF => exact rfl
  case kK => assumption
  case k1 => exact B
  case k2 => exact F
  case k3 => exact X
  case k4 => exact N
  case k5 => exact T
  case k6 => k_is
  case k7 => k_is
  case k8 => ktr_room
  case k9 => exact BindsTo.of_eq rfl
  case c5 => decide
  case kB => exact locs rfl
  case c2 => exact rfl
  case c3 => exact rfl
  case c4 => exact rfl
  intro g' L' h' FG F' N' B' X' T'
  dsimp only
  k_fold
  k_steps
  rename AllBare _ => hb2
  refine For_gen (h₀ := g') rfl rfl rfl rfl ?_ (fun _ => rfl) (by passes_own)
  k_steps
  with_reducible rename News g' L' _ _ => N1
  with_reducible rename Fr g' L' _ _ => F1
  refine gen_make w (stripQ x) _ _ _ _ _ _ _ _ _ _ _ _ _ _ _ _ _ _ _ _ _ _ _ B' F1 X' N1 T' rfl ?_ ?_ ?_
  · ktr_room
  · ktr_units
  intro La h1 tk1 c1 F2 N2 hlt hltn hz hkeep G
  clear F1 N1
  have hP : checkP x = match (tokList 0 false (stripQ x).cps.toList).foldl checkStep (some 0) with
    | some o => o == 0
    | none => false := rfl
  generalize tokList 0 false (stripQ x).cps.toList = toks at *
  refine genAt_mk (fun i m nx => ∃ o, (toks.take i).foldl checkStep (some 0) = some o ∧ (∃ t1, m "opens" = some (.int o t1)) ∧ 0 ≤ o ∧ nx = news) F2 N2 hlt hltn (G _ rfl) T'.nolimit ?_ ?_ ?_ ?_ ?_
  · ktr_room
  · exact AllBare.push hb2 rfl
  · exact ⟨0, rfl, ⟨_, rfl⟩, Int.le_refl _, rfl⟩
  · intro i p c tp tc m₁ news₁ own h tk gs htok hadr hoff hJ F3 N3 hbs
    replace F3 : Fr g' L' h _ := F3
    replace N3 : News g' L' h _ := N3
    obtain ⟨o, e1, ⟨t1, e2⟩, e3, rfl⟩ := hJ
    have hst : (toks.take (i + 1)).foldl checkStep (some 0) = checkStep (some o) (p, c) := by rw [List.take_add_one, htok, List.foldl_append, e1]; rfl
    have F4 := fr_ovr F3 [("ch", .str c tc), ("pos", .int (p : Nat) tp), ("opens", .int o t1)] (by simp only [List.forall_mem_cons]; exact ⟨rfl, rfl, e2, by simp⟩)
    have sub1 : ∀ q ∈ news₁, q ∈ news₁ ++ own := fun q hq => List.mem_append_left _ hq
    have sub2 : ∀ q ∈ own, q ∈ news₁ ++ own := fun q hq => List.mem_append_right _ hq
    clear F3 F2 N2 e2
    k_steps
    · with_reducible rename Fr g' L' _ _ => F5
      with_reducible rename News g' L' _ _ => N5
      with_reducible rename (c == Str.ofString "(") = true => hc
      refine ⟨_, _, _, _, _, rfl, F5, N5, sub1, sub2, hadr, o + 1, ?_, ⟨_, rfl⟩, by omega, rfl⟩
      rw [hst]; simp only [checkStep, hc, if_true]
    · rename Fr h₀ L _ m => kF
      rename News h₀ L _ _ => kN
      with_reducible rename (c == Str.ofString "(") = false => hc
      with_reducible rename (c == Str.ofString ")") = true => hc2
      rename o - 1 < 0 => ho
      have hall : toks.foldl checkStep (some 0) = none := by
        rw [← List.take_append_drop (i + 1) toks, List.foldl_append, hst]
        have : checkStep (some o) (p, c) = none := by simp only [checkStep, hc, hc2, if_true, Bool.false_eq_true, if_false]; rw [if_pos ho]
        rw [this]; exact check_none _
      exact hret _ _ _ _ (by rw [hP, hall]) kF (fun q hq => kN q (List.mem_append_left _ hq)) hbs
    · with_reducible rename Fr g' L' _ _ => F5
      with_reducible rename News g' L' _ _ => N5
      with_reducible rename (c == Str.ofString "(") = false => hc
      with_reducible rename (c == Str.ofString ")") = true => hc2
      rename ¬ o - 1 < 0 => ho
      refine ⟨_, _, _, _, _, rfl, F5, N5, sub1, sub2, hadr, o - 1, ?_, ⟨_, rfl⟩, by omega, rfl⟩
      rw [hst]; simp only [checkStep, hc, hc2, if_true, Bool.false_eq_true, if_false]; rw [if_neg ho]
    · with_reducible rename (c == Str.ofString "(") = false => hc
      with_reducible rename (c == Str.ofString ")") = false => hc2
      refine ⟨_, _, _, _, _, rfl, F4, N3, sub1, sub2, hadr, o, ?_, ⟨_, rfl⟩, e3, rfl⟩
      rw [hst]; simp only [checkStep, hc, hc2, Bool.false_eq_true, if_false]
  · intro m₁ news₁ h tk gs hJ F3 N3 hbs
    replace F3 : Fr g' L' h _ := F3
    replace N3 : News g' L' h _ := N3
    rw [List.take_length] at hJ
    obtain ⟨o, e1, ⟨t1, e2⟩, e3, rfl⟩ := hJ
    have F4 := fr_ovr F3 [("opens", .int o t1)] (by simp only [List.forall_mem_cons]; exact ⟨e2, by simp⟩)
    clear F3 F2 N2 e2
    k_steps
    rename Fr h₀ L _ m => kF
    rename News h₀ L _ _ => kN
    exact hret _ _ _ _ (by rw [hP, e1]) kF kN hbs
end Mine

end
section
open PySem PySem.W PySem.Calls PyProof.Rows
set_option linter.unusedVariables false
namespace Mine
/-- a turn's end: the ledger may be another one, but for the iterator's own -/
def FreePost (h₀ : Heap) (L : Addr) (J : (Str → Option Value) → List (Addr × Obj) → Prop) (own : List (Addr × Obj)) (I : Addr) (s₁ : Shared) (Q : Flow → Shared → Prop) (f : Flow) (s₂ : Shared) : Prop :=
  match f with
  | .ret v => Q (.ret v) s₂
  | .brk => Q .next s₂
  | _ => ∃ h' tk m' news' nx, s₂ = { s₁ with heap := h', toks := tk } ∧ Fr h₀ L h' m' ∧ News h₀ L h' news' ∧ (∀ p ∈ nx, p ∈ news') ∧ (∀ p ∈ own, p ∈ news') ∧ (∀ p ∈ nx, p.1 ≠ I) ∧ J m' nx

section
variable {prog : Program} {w : World} {A : Around} {E : Value → Shared → Prop} {s : Shared} {env : Env} {h₀ : Heap} {x : Str} {body : List Stmt} {Q : Flow → Shared → Prop}

theorem loop_free {I : Addr} {fp : List Addr} {n : Nat} {P : Nat → Value → Prop} {St : Nat → Heap → Prop} {m₀ : Str → Option Value} {news : List (Addr × Obj)} (J : Nat → (Str → Option Value) → List (Addr × Obj) → Prop)
    (W : Walks prog w A I fp [I] n P St) (hlive : ∀ i h, St i h → ∃ o, h.get? I = some o) (hIf : I ∈ fp) (hLf : env.locals ∉ fp) (hI0 : h₀.get? I = none) (hfp : ∀ q ∈ news, q.1 ≠ I) (hst : St 0 s.heap) (F : Fr h₀ env.locals s.heap m₀) (N : News h₀ env.locals s.heap news) (hj : J 0 m₀ news)
    (turn : ∀ i v m₁ news₁ h tk own, i < n → P i v → (∃ o, (I, o) ∈ own) → (∀ p ∈ own, p.1 ∈ fp) → (∀ p ∈ news₁, p.1 ≠ I) → J i m₁ news₁ → Fr h₀ env.locals h (fun y => if y = x then some v else m₁ y) → News h₀ env.locals h (news₁ ++ own) →
      wpAny (model prog w) A (execs body env) (FreePost h₀ env.locals (J (i + 1)) own I { s with heap := h, toks := tk } Q) E { s with heap := h, toks := tk })
    (done : ∀ m₁ news₁ h tk, J n m₁ news₁ → (∀ p ∈ news₁, p.1 ≠ I) → Fr h₀ env.locals h m₁ → News h₀ env.locals h news₁ → Q .next { s with heap := h, toks := tk }) :
    LoopAtV prog w A h₀ env x body Q E (.ref I) s := by
  refine ⟨I, fp, [I], n, P, St, m₀, news, J, rfl, W, hLf, fun b hb => by rw [List.mem_singleton.mp hb]; exact hI0, fun p hp hm => hfp p hp (List.mem_singleton.mp hm), hst, F, N, hj, ?_, ?_⟩
  · rintro i v m₁ news₁ s₁ own ⟨hh', tk', rfl⟩ hin hP hJ hoff hsub _ hall hst₁ F₁ N₁
    obtain ⟨oI, hoI⟩ := hlive _ _ hst₁
    have N₂ : News h₀ env.locals hh' (news₁ ++ own) := fun p hp => N₁ p ((List.mem_append.mp hp).elim (fun h => List.mem_append.mpr (.inr h)) fun h => List.mem_append.mpr (.inl h))
    refine wpAny_mono (turn i v m₁ news₁ hh' tk' own hin hP ⟨oI, hall I hIf hI0 oI hoI⟩ hsub (fun p hp e => hoff p hp (List.mem_singleton.mpr e)) hJ F₁ N₂) (fun f s₂ p => ?_) fun _ _ e => e
    have fin : (∃ h' tk m' news' nx, s₂ = { s with heap := h', toks := tk } ∧ Fr h₀ env.locals h' m' ∧ News h₀ env.locals h' news' ∧ (∀ p ∈ nx, p ∈ news') ∧ (∀ p ∈ own, p ∈ news') ∧ (∀ p ∈ nx, p.1 ≠ I) ∧ J (i + 1) m' nx) → LoopStepU h₀ env.locals [I] own (J (i + 1)) { s with heap := hh', toks := tk' } .next s₂ := by
      rintro ⟨h', tk, m', news', nx, e, F', N', hn, ho, ha, hm⟩
      exact ⟨rfl, h', tk, m', nx, e, F', fun p hp => N' p ((List.mem_append.mp hp).elim (ho p) (hn p)), fun p hp hq => ha p hp (List.mem_singleton.mp hq), hm⟩
    cases f with
    | ret v => exact .ret p
    | brk => exact .brk p
    | next => exact .next (fin p)
    | cont => exact .cont (fin p)
  · exact fun h' tk m' news' F' N' hoff hJ => done m' news' h' tk hJ (fun p hp e => hoff p hp (List.mem_singleton.mpr e)) F' N'

/-- a for over a text's signs -/
theorem iter_text {xt : Str} {tx : Tok} {m₀ : Str → Option Value} {news : List (Addr × Obj)} (J : Nat → (Str → Option Value) → List (Addr × Obj) → Prop)
    (hh : A.handled = none) (F : Fr h₀ env.locals s.heap m₀) (N : News h₀ env.locals s.heap news) (hj : J 0 m₀ news)
    (turn : ∀ i c u m₁ news₁ h tk own I, xt.cps[i]? = some c → (∃ o, (I, o) ∈ own) → (∀ p ∈ own, p.1 = I) → (∀ p ∈ news₁, p.1 ≠ I) → J i m₁ news₁ → Fr h₀ env.locals h (fun y => if y = x then some (.str ⟨#[c]⟩ u) else m₁ y) → News h₀ env.locals h (news₁ ++ own) →
      wpAny (model prog w) A (execs body env) (FreePost h₀ env.locals (J (i + 1)) own I { s with heap := h, toks := tk } Q) E { s with heap := h, toks := tk })
    (done : ∀ m₁ news₁ h tk, J xt.cps.size m₁ news₁ → Fr h₀ env.locals h m₁ → News h₀ env.locals h news₁ → Q .next { s with heap := h, toks := tk }) :
    wpAny (model prog w) A (pyIter (.str xt tx)) (fun it s₂ => LoopAtV prog w A h₀ env x body Q E it s₂) E s := by
  refine wpAny_pyIter_strU ?_
  have hIL : env.locals ≠ s.heap.objs.size := Nat.ne_of_lt F.ns.lt
  have main : ∀ ty, Walks prog w A s.heap.objs.size [s.heap.objs.size] [s.heap.objs.size] xt.cps.size (SignAt xt) (fun i h => h.IsStrIter s.heap.objs.size ty xt tx i) →
      LoopAtV prog w A h₀ env x body Q E (.ref s.heap.objs.size) { s with heap := s.heap.push { cls := .type ty, data := .fields #[.str xt tx, .int 0 0] } } := by
    intro ty W
    refine loop_free J W (fun i h st => let ⟨o, ho, _⟩ := st; ⟨o, ho⟩) (List.mem_singleton.mpr rfl) (fun hm => hIL (List.mem_singleton.mp hm)) (next_is_new F) (fun q hq => Nat.ne_of_lt (Heap.lt_size (N q hq).1)) ⟨_, Heap.get?_push_size _ rfl, rfl, rfl⟩ (F.push _) (fun p hp => ⟨Heap.get?_push_of_some _ (N p hp).1, (N p hp).2⟩) hj ?_ (fun m₁ news₁ h tk a _ b c => done m₁ news₁ h tk a b c)
    rintro i v m₁ news₁ h tk own hi ⟨c, u, hc, rfl⟩ hI hsub hoff hJ F₁ N₁
    exact turn i c u m₁ news₁ h tk own _ hc hI (fun p hp => List.mem_singleton.mp (hsub p hp)) hoff hJ F₁ N₁
  cases ha : xt.cps.all (· < 128)
  · rw [show strIterType xt = "str_iterator" from by simp [strIterType, ha]]
    exact main _ (Walks.strWide hh _ xt tx)
  · rw [show strIterType xt = "str_ascii_iterator" from by simp [strIterType, ha]]
    exact main _ (Walks.strAscii hh _ xt tx)

/-- a for over range(n) -/
theorem iter_range {r : Addr} {a₀ b₀ : Int} {t₀ u₀ v₀ : Tok} {n : Nat} {m₀ : Str → Option Value} {news : List (Addr × Obj)} (J : Nat → (Str → Option Value) → List (Addr × Obj) → Prop)
    (hh : A.handled = none) (hr : IsRange s.heap r a₀ b₀ 1 t₀ u₀ v₀) (hsmall : Builtin.Range.small a₀ b₀ 1 = true) (hn : Builtin.Range.rangeSize a₀ b₀ 1 = (n : Int)) (F : Fr h₀ env.locals s.heap m₀) (N : News h₀ env.locals s.heap news) (hj : J 0 m₀ news)
    (turn : ∀ i t m₁ news₁ h tk own I, i < n → (∃ o, (I, o) ∈ own) → (∀ p ∈ own, p.1 = I) → (∀ p ∈ news₁, p.1 ≠ I) → J i m₁ news₁ → Fr h₀ env.locals h (fun y => if y = x then some (.int (a₀ + (i : Nat)) t) else m₁ y) → News h₀ env.locals h (news₁ ++ own) →
      wpAny (model prog w) A (execs body env) (FreePost h₀ env.locals (J (i + 1)) own I { s with heap := h, toks := tk } Q) E { s with heap := h, toks := tk })
    (done : ∀ m₁ news₁ h tk, J n m₁ news₁ → Fr h₀ env.locals h m₁ → News h₀ env.locals h news₁ → Q .next { s with heap := h, toks := tk }) :
    wpAny (model prog w) A (pyIter (.ref r)) (fun it s₂ => LoopAtV prog w A h₀ env x body Q E it s₂) E s := by
  refine wpAny_pyIter_range hr hsmall ?_
  have hIL : env.locals ≠ s.heap.objs.size := Nat.ne_of_lt F.ns.lt
  have W : Walks prog w A s.heap.objs.size [s.heap.objs.size] [s.heap.objs.size] n (fun i v => i < n ∧ ∃ t, v = .int (a₀ + i * 1) t)
      (fun i h => IsRangeIter h s.heap.objs.size (a₀ + (i : Nat) * 1) ((n : Int) - (i : Nat)) 1) := (Walks.range hh _ a₀ 1 n).bound
  refine loop_free J W (fun i h st => ⟨_, st⟩) (List.mem_singleton.mpr rfl) (fun hm => hIL (List.mem_singleton.mp hm)) (next_is_new F) (fun q hq => Nat.ne_of_lt (Heap.lt_size (N q hq).1)) (by show IsRangeIter _ _ _ _ _; rw [hn]; simpa using Heap.get?_push_size _ rfl) (F.push _) (fun p hp => ⟨Heap.get?_push_of_some _ (N p hp).1, (N p hp).2⟩) hj ?_ (fun m₁ news₁ h tk a _ b c => done m₁ news₁ h tk a b c)
  rintro i v m₁ news₁ h tk own hi ⟨_, t, rfl⟩ hI hsub hoff hJ F₁ N₁
  rw [Int.mul_one] at F₁
  exact turn i t m₁ news₁ h tk own _ hi hI (fun p hp => List.mem_singleton.mp (hsub p hp)) hoff hJ F₁ N₁

/-- a for over a made list, which stands apart -/
theorem iter_list {l : Addr} {vs : List Value} {m₀ : Str → Option Value} {news : List (Addr × Obj)} (J : Nat → (Str → Option Value) → List (Addr × Obj) → Prop)
    (hh : A.handled = none) (hl : s.heap.IsList l vs.toArray) (hlL : env.locals ≠ l) (F : Fr h₀ env.locals s.heap m₀) (N : News h₀ env.locals s.heap news) (hj : J 0 m₀ news)
    (turn : ∀ i v m₁ news₁ h tk own I, vs[i]? = some v → (∃ o, (I, o) ∈ own) → (∀ p ∈ own, p.1 = I ∨ p.1 = l) → (∀ p ∈ news₁, p.1 ≠ I) → J i m₁ news₁ → Fr h₀ env.locals h (fun y => if y = x then some v else m₁ y) → News h₀ env.locals h (news₁ ++ own) →
      wpAny (model prog w) A (execs body env) (FreePost h₀ env.locals (J (i + 1)) own I { s with heap := h, toks := tk } Q) E { s with heap := h, toks := tk })
    (done : ∀ m₁ news₁ h tk, J vs.length m₁ news₁ → Fr h₀ env.locals h m₁ → News h₀ env.locals h news₁ → Q .next { s with heap := h, toks := tk }) :
    wpAny (model prog w) A (pyIter (.ref l)) (fun it s₂ => LoopAtV prog w A h₀ env x body Q E it s₂) E s := by
  refine wpAny_pyIter_list hl ?_
  have hIL : env.locals ≠ s.heap.objs.size := Nat.ne_of_lt F.ns.lt
  have hne : l ≠ s.heap.objs.size := let ⟨o, ho, _⟩ := hl; Nat.ne_of_lt (Heap.lt_size ho)
  have W := Walks.list (prog := prog) (w := w) hh s.heap.objs.size l hne vs.toArray
  have hlen : vs.toArray.size = vs.length := by simp
  rw [hlen] at W
  refine loop_free J W (fun i h st => let ⟨o, ho, _⟩ := st.1; ⟨o, ho⟩) (List.mem_cons_self ..) (fun hm => by rcases List.mem_cons.mp hm with e | hm; exact hIL e; exact hlL (List.mem_singleton.mp hm)) (next_is_new F) (fun q hq => Nat.ne_of_lt (Heap.lt_size (N q hq).1)) ⟨⟨_, Heap.get?_push_size _ rfl, rfl, rfl⟩, hl.at fun o e => Heap.get?_push_of_some _ e⟩ (F.push _) (fun p hp => ⟨Heap.get?_push_of_some _ (N p hp).1, (N p hp).2⟩) hj ?_ (fun m₁ news₁ h tk a _ b c => done m₁ news₁ h tk a b c)
  intro i v m₁ news₁ h tk own hi hP hI hsub hoff hJ F₁ N₁
  exact turn i v m₁ news₁ h tk own _ (by simpa using hP) hI (fun p hp => by rcases List.mem_cons.mp (hsub p hp) with e | hm; exact .inl e; exact .inr (List.mem_singleton.mp hm)) hoff hJ F₁ N₁
end
end Mine

end
section
open PySem PySem.W PySem.Calls PyProof.Rows
open Builtin Builtin.Str
set_option linter.unusedVariables false
namespace Mine
def find4 (x y : Str) (i j : Int) : Int := match occurrences x y (fromIndex x.length i) (min (fromIndex x.length j) x.length) 1 with | k :: _ => (k : Int) | [] => -1
def ellFind (got : Str) (e : Int) : List Str → Int → Bool
  | [], _ => true
  | w :: r, st => if find4 got w st e < 0 then false else ellFind got e r (find4 got w st e + w.length)
def ell3 (got : Str) (ws : List Str) (st en : Int) : Bool := if st > en then false else ellFind got en ws st
def ell2 (got : Str) (ws : List Str) (st : Int) : Bool :=
  if (ws.getLastD Str.empty).length = 0 then ell3 got ws st got.length
  else if Txt.endswith got (ws.getLastD Str.empty) then ell3 got ws.dropLast st (got.length - (ws.getLastD Str.empty).length) else false
def ellM (want got : Str) : Bool :=
  if Txt.contains want (Str.ofString "...") then
    let ws := Txt.split want (Str.ofString "...")
    if (ws.headD Str.empty).length = 0 then ell2 got ws 0
    else if Txt.startswith got (ws.headD Str.empty) then ell2 got ws.tail (ws.headD Str.empty).length else false
  else want == got
theorem gives_find4 (x y : Str) (i j : Int) (t u v z : Tok) : Gives («str.find» ⟨[.str x t, .str y u, .int i v, .int j z], []⟩) (.int (find4 x y i j)) := by
  show Gives (match occurrences x y (fromIndex x.length i) (min (fromIndex x.length j) x.length) 1 with | k :: _ => retInt k | [] => (do rule "str.find.not-found"; retInt (-1))) _
  unfold find4
  cases occurrences x y (fromIndex x.length i) (min (fromIndex x.length j) x.length) 1 with
  | nil => exact .rule (.of_eq rfl)
  | cons k _ => exact .of_eq rfl
theorem call_find4 {prog : Program} {w : World} {A : Around} {E : Value → Shared → Prop} {s : Shared} {x y : Str} {t u v z : Tok} {i j : Int} {Q : Value → Shared → Prop} (hq : Q (.int (find4 x y i j) s.toks) { s with toks := s.toks + 1 }) : wpAny (model prog w) A (call (.builtin "str.find") [.str x t, .str y u, .int i v, .int j z]) Q E s :=
  call_gives F.slot_str_find (typeIs_str _ _ _) F.entry_str_find (F.args_str_find_4 _ _ _ _) (gives_find4 x y i j t u v z) hq
end Mine

end
section
open PySem PySem.W PySem.Calls PyProof.Rows
set_option linter.unusedVariables false
namespace Mine
def Held (p : Prop) : Prop := p
@[irreducible] def S (l : List Nat) : Str := ⟨l.toArray⟩
theorem S_def (l : List Nat) : S l = ⟨l.toArray⟩ := by unfold S; rfl
theorem S_len (l : List Nat) : (S l).length = l.length := by simp [S, Str.length]
theorem S_beq (a b : List Nat) : (S a == S b) = decide (a = b) := by
  by_cases h : a = b
  · subst h; simp
  · have : S a ≠ S b := fun e => h (by simpa [S] using e)
    simp [h, this]
theorem S_of (x : Str) : S x.cps.toList = x := by cases x; simp [S]
theorem slice_drop (l : List Nat) (i : Nat) (h : i ≤ l.length) : Txt.slice (S l) (some (i : Int)) none = S (l.drop i) := by
  rw [slice_from_eq (b := ((S l).length : Int)) (by omega) (by rw [S_len]; omega) rfl, S_len]
  rw [S_def, S_def]
  simp
  exact List.take_of_length_le (by simp)
theorem slice_take (l : List Nat) (i : Nat) (h : i ≤ l.length) : Txt.slice (S l) none (some (i : Int)) = S (l.take i) := by
  have := slice_closes_toL (x := S l) (j := (i : Int)) (by omega) (by rw [S_len]; omega)
  rw [eq_of_beq this]
  rw [S_def, S_def]
  simp
theorem slice_cut (l : List Nat) (k : Nat) (hk : 1 ≤ k) (h : k ≤ l.length) : Txt.slice (S l) none (some (-(k : Int))) = S (l.take (l.length - k)) := by
  rw [slice_to_neg (by omega), S_len]
  have e : max 0 ((l.length : Int) + -(k : Int)) = ((l.length - k : Nat) : Int) := by omega
  rw [e, slice_take l _ (by omega)]
theorem slice_all (x : Str) : Txt.slice x none none = x := by
  unfold Txt.slice
  rw [if_pos]
  have : (sliceRange 0 (x.length : Int) 1).length = x.length := by unfold sliceRange; simp; split <;> simp_all <;> omega
  simp [Builtin.Str.strSliceIndices, this]
theorem item_at (l : List Nat) (i : Nat) (h : i < l.length) : Txt.item (S l) (i : Int) = S [l[i]] := by
  rw [item_meets (n := l[i]) (by omega)]
  · rw [S_def]
  · simp [S, h]
theorem item_neg (l : List Nat) (k : Nat) (h0 : 1 ≤ k) (h : k ≤ l.length) : Txt.item (S l) (-(k : Int)) = S [l[l.length - k]] := by
  have := item_closes_neg (x := S l) (i := -(k : Int)) (j := ((l.length - k : Nat) : Int)) (by omega) (by rw [S_len]; omega) (by rw [S_len]; omega)
  rw [eq_of_beq this]
  have e : (S l).cps.getD (((l.length - k : Nat) : Int)).toNat 0 = l[l.length - k] := by
    simp [S]
    rw [List.getElem?_eq_getElem (by omega)]; rfl
  rw [e, S_def]

/-- the common start taken off -/
def tp : List Nat → List Nat → List Nat × List Nat
  | a :: as, b :: bs => if a = b then tp as bs else (a :: as, b :: bs)
  | as, bs => (as, bs)
theorem tp_nil_left (b : List Nat) : tp [] b = ([], b) := by cases b <;> rfl
theorem tp_nil_right (a : List Nat) : tp a [] = (a, []) := by cases a <;> rfl
theorem tp_drop_same {a b : List Nat} {i : Nat} (ha : i < a.length) (hb : i < b.length) (h : a[i] = b[i]) : tp (a.drop i) (b.drop i) = tp (a.drop (i + 1)) (b.drop (i + 1)) := by
  rw [List.drop_eq_getElem_cons ha, List.drop_eq_getElem_cons hb]
  simp only [tp]
  rw [if_pos h]
theorem tp_drop_other {a b : List Nat} {i : Nat} (ha : i < a.length) (hb : i < b.length) (h : ¬ a[i] = b[i]) : tp (a.drop i) (b.drop i) = (a.drop i, b.drop i) := by
  rw [List.drop_eq_getElem_cons ha, List.drop_eq_getElem_cons hb]
  simp only [tp]
  rw [if_neg h]
theorem tp_drop_left {a b : List Nat} {i : Nat} (ha : a.length ≤ i) : tp (a.drop i) (b.drop i) = (a.drop i, b.drop i) := by
  rw [List.drop_eq_nil_of_le ha]; exact tp_nil_left _
theorem tp_drop_right {a b : List Nat} {i : Nat} (hb : b.length ≤ i) : tp (a.drop i) (b.drop i) = (a.drop i, b.drop i) := by
  rw [List.drop_eq_nil_of_le hb]; exact tp_nil_right _

def substS (a b : Str) : Int := if (a == b) = true then 0 else if (Txt.lower a == Txt.lower b) = true then 1 else 2
def substC (a b : Nat) : Int := substS (S [a]) (S [b])
/-- one row of the table -/
def rowRun (c : Nat) : List Nat → List Int → Int → Int → Int → List Int × Int × Int
  | p :: ps, o :: os, dist, res, mn =>
    let r := min (min res o + 2) (dist + substC c p)
    let q := rowRun c ps os o r (if r < mn then r else mn)
    (r :: q.1, q.2)
  | _, _, _, res, mn => ([], res, mn)
def levRows (mx : Int) (p : List Nat) : List Nat → Nat → List Int → Int → Int
  | [], _, _, res => res
  | c :: q, bi, row, _ =>
    let r := rowRun c p row ((bi : Int) * 2) ((bi : Int) * 2) 9223372036854775807
    if r.2.2 > mx then mx + 1 else levRows mx p q (bi + 1) r.1 r.2.1
theorem rowRun_zero (c : Nat) (p : List Nat) (row : List Int) (d r m : Int) : rowRun c p row d r m = (row.take 0 ++ (rowRun c (p.drop 0) (row.drop 0) d r m).1, (rowRun c (p.drop 0) (row.drop 0) d r m).2) := rfl
theorem levRows_at {mx : Int} {p q : List Nat} {j : Nat} (hj : j < q.length) {row : List Int} {res : Int} : levRows mx p (q.drop j) j row res = if (rowRun q[j] p row ((j : Int) * 2) ((j : Int) * 2) 9223372036854775807).2.2 > mx then mx + 1 else levRows mx p (q.drop (j + 1)) (j + 1) (rowRun q[j] p row ((j : Int) * 2) ((j : Int) * 2) 9223372036854775807).1 (rowRun q[j] p row ((j : Int) * 2) ((j : Int) * 2) 9223372036854775807).2.1 := by
  rw [List.drop_eq_getElem_cons hj]; rfl
def row0 (n : Nat) : List Int := (List.range n).map fun (k : Nat) => (2 + 2 * k : Int)
def levT (p q : List Nat) (mx : Int) : Int :=
  if p.length = 0 ∨ q.length = 0 then 2 * ((p.length : Int) + q.length)
  else if p.length > 40 ∨ q.length > 40 then mx + 1
  else if q.length < p.length then (if ((p.length : Int) - q.length) * 2 > mx then mx + 1 else levRows mx q p 0 (row0 q.length) 0)
  else (if ((q.length : Int) - p.length) * 2 > mx then mx + 1 else levRows mx p q 0 (row0 p.length) 0)
theorem levT_a {p q : List Nat} {mx : Int} (h : p.length = 0 ∨ q.length = 0) : levT p q mx = 2 * ((p.length : Int) + q.length) := by unfold levT; rw [if_pos h]
theorem levT_b {p q : List Nat} {mx : Int} (h : 1 ≤ p.length ∧ 1 ≤ q.length) (h2 : p.length > 40 ∨ q.length > 40) : levT p q mx = mx + 1 := by
  have h1 : ¬ (p.length = 0 ∨ q.length = 0) := by omega
  unfold levT; rw [if_neg h1, if_pos h2]
theorem levT_c {p q : List Nat} {mx : Int} (h : 1 ≤ p.length ∧ 1 ≤ q.length) (h2 : p.length ≤ 40 ∧ q.length ≤ 40) (h3 : q.length < p.length) : levT p q mx = if ((p.length : Int) - q.length) * 2 > mx then mx + 1 else levRows mx q p 0 (row0 q.length) 0 := by
  have h1 : ¬ (p.length = 0 ∨ q.length = 0) := by omega
  have h4 : ¬ (p.length > 40 ∨ q.length > 40) := by omega
  unfold levT; rw [if_neg h1, if_neg h4, if_pos h3]
theorem levT_d {p q : List Nat} {mx : Int} (h : 1 ≤ p.length ∧ 1 ≤ q.length) (h2 : p.length ≤ 40 ∧ q.length ≤ 40) (h3 : ¬ q.length < p.length) : levT p q mx = if ((q.length : Int) - p.length) * 2 > mx then mx + 1 else levRows mx p q 0 (row0 p.length) 0 := by
  have h1 : ¬ (p.length = 0 ∨ q.length = 0) := by omega
  have h4 : ¬ (p.length > 40 ∨ q.length > 40) := by omega
  unfold levT; rw [if_neg h1, if_neg h4, if_neg h3]
def trim (a b : List Nat) : List Nat × List Nat :=
  let r := tp (tp a b).1.reverse (tp a b).2.reverse
  (r.1.reverse, r.2.reverse)
def levM (a b : List Nat) (mx : Int) : Int := if a = b then 0 else levT (trim a b).1 (trim a b).2 mx

theorem rev_cut (l : List Nat) (k : Nat) : (l.reverse.drop k).reverse = l.take (l.length - k) := by rw [List.drop_reverse, List.reverse_reverse]

section
variable {prog : Program} {w : World} {A : Around} {E : Value → Shared → Prop} {Q : Flow → Shared → Prop} {s : Shared} {env : Env} {h₀ : Heap}
def WhileOut (h₀ : Heap) (L : Addr) (s : Shared) (D : (Str → Option Value) → List (Addr × Obj) → Prop) (s₃ : Shared) : Prop :=
  ∃ h' tk m₂ news₂, s₃ = { s with heap := h', toks := tk } ∧ Fr h₀ L h' m₂ ∧ News h₀ L h' news₂ ∧ D m₂ news₂
theorem While_out {test : Expr} {body : List Stmt} {pos : Pos} {m : Str → Option Value} {news : List (Addr × Obj)} (J : Nat → (Str → Option Value) → List (Addr × Obj) → Prop) (D : (Str → Option Value) → List (Addr × Obj) → Prop) {n₀ : Nat}
    (F : Fr h₀ env.locals s.heap m) (N : News h₀ env.locals s.heap news) (hJ : J n₀ m news)
    (turn : ∀ n m₁ news₁ h₁ tk₁, Fr h₀ env.locals h₁ m₁ → News h₀ env.locals h₁ news₁ → J n m₁ news₁ →
      wpAny (model prog w) A (isTrue test env (eval test env)) (fun b s₂ =>
        if b = true then wpAny (model prog w) A (execs body env) (WhileStep h₀ env.locals s J n) E s₂ else WhileOut h₀ env.locals s D s₂) E { s with heap := h₁, toks := tk₁ })
    (done : ∀ m₁ news₁ h tk, D m₁ news₁ → Fr h₀ env.locals h m₁ → News h₀ env.locals h news₁ → Q .next { s with heap := h, toks := tk })
    (hE : PassesOwn (model prog w) A env E := by passes_own) :
    wpAny (model prog w) A (exec (.While test body [] pos) env) Q E s := by
  refine While_inv J F N hJ (fun n m₁ news₁ h₁ tk₁ F₁ N₁ J₁ => ?_) hE
  refine wpAny_mono (turn n m₁ news₁ h₁ tk₁ F₁ N₁ J₁) (fun b s₂ h₂ => ?_) (fun _ _ e => e)
  cases b with
  | true => simpa using h₂
  | false =>
    simp only [Bool.false_eq_true, if_false] at h₂ ⊢
    obtain ⟨h', tk, m₂, news₂, rfl, F₂, N₂, hD⟩ := h₂
    exact done m₂ news₂ h' tk hD F₂ N₂
end
end Mine

end
section
open PySem PySem.W PySem.Calls PyProof.Rows
set_option linter.unusedVariables false
set_option maxRecDepth 100000
namespace Mine
/-- a list of ints, with their tokens -/
def iv (l : List (Int × Tok)) : List Value := l.map fun q => .int q.1 q.2
theorem iv_len (l : List (Int × Tok)) : (iv l).length = l.length := by simp [iv]
theorem iv_get {l : List (Int × Tok)} {i : Nat} (h : i < l.length) : (iv l)[i]? = some (Value.int l[i].1 l[i].2) := by simp [iv, h]
theorem iv_set (l : List (Int × Tok)) (i : Nat) (x : Int) (t : Tok) : (iv l).set i (Value.int x t) = iv (l.set i (x, t)) := by simp [iv, List.map_set]
theorem iv_of : ∀ (vs : List Value) (f : Nat → Int), (∀ j v, vs[j]? = some v → ∃ t, v = Value.int (f j) t) → ∃ ls, vs = iv ls ∧ ls.map (·.1) = (List.range vs.length).map f
  | [], f, _ => ⟨[], rfl, rfl⟩
  | v :: r, f, h => by
    obtain ⟨t, rfl⟩ := h 0 v rfl
    obtain ⟨ls, e1, e2⟩ := iv_of r (fun j => f (j + 1)) (fun j v hv => h (j + 1) v (by simpa using hv))
    refine ⟨(f 0, t) :: ls, by rw [e1]; rfl, ?_⟩
    rw [List.map_cons, e2, List.length_cons, List.range_succ_eq_map, List.map_cons, List.map_map]
    rfl
theorem size2 (n : Nat) : Builtin.Range.rangeSize 2 (2 * ((n : Int) + 1)) 2 = (n : Int) := by
  unfold Builtin.Range.rangeSize
  rw [if_pos (by decide)]
  split <;> omega
theorem small_gen (a b c z : Int) (hz : Builtin.Range.rangeSize a b c = z) (hc : c > 0) (ha : -1000000 ≤ a ∧ a ≤ 1000000) (hb : -1000000 ≤ b ∧ b ≤ 1000000) (hc2 : c ≤ 1000000) (hz1 : 0 ≤ z) (hz2 : z ≤ 1000000) : Builtin.Range.small a b c = true := by
  unfold Builtin.Range.small
  rw [hz]
  simp only [Builtin.Range.rangeFitsLong, Bool.and_eq_true, Bool.or_eq_true, decide_eq_true_eq, beq_iff_eq, hc, if_true]
  omega
section
variable {prog : Program} {w : World} {A : Around} {E : Value → Shared → Prop} {s : Shared} {h₀ : Heap} {L r : Addr} {m : Str → Option Value} {news : List (Addr × Obj)}
theorem list_range2 {t₀ u₀ v₀ : Tok} {n : Nat} {b : Int} {Q : Value → Shared → Prop} (hh : A.handled = none) (F : Fr h₀ L s.heap m) (N : News h₀ L s.heap news) (hb : b = 2 * ((n : Int) + 1)) (hr : IsRange s.heap r 2 b 2 t₀ u₀ v₀) (hn : n ≤ 1000)
    (h : ∀ D ls c h' tk, ls.map (·.1) = row0 n → Fr h₀ L h' m → News h₀ L h' ((D, listOf (iv ls).toArray c) :: news) → (∀ p ∈ news, p.1 < D) → Q (.ref D) { s with heap := h', toks := tk }) :
    wpAny (model prog w) A (call (.type "list") [.ref r]) Q E s := by
  subst hb
  have hsmall : Builtin.Range.small 2 (2 * ((n : Int) + 1)) 2 = true := by
    exact small_gen _ _ _ _ (size2 n) (by decide) (by omega) (by omega) (by omega) (by omega) (by omega)
  refine call_list_range hh hr hsmall (size2 n) (Nat.le_trans hn (by decide)) fun h' tk acc c hk hD hI => ?_
  obtain ⟨ls, e1, e2⟩ := iv_of acc.toList (fun j => 2 + 2 * (j : Int)) (fun j v hj => by
    obtain ⟨t, e⟩ := hI.2 j v (by rw [← hj, Array.getElem?_toList])
    exact ⟨t, by rw [e, Int.mul_comm]⟩)
  have hD' : h'.get? s.heap.objs.size = some (listOf (iv ls).toArray c) := by
    rw [← e1, Array.toArray_toList]
    exact hD
  refine h _ ls c h' tk ?_ (F.keeps hk) (news_pushed F N hk hD' rfl) (fun p hp => Heap.lt_size (N p hp).1)
  rw [e2, Array.length_toList, hI.1]
  rfl

end
theorem rowRun_step {c : Nat} {p : List Nat} {l : List Int} {dist res mn d' r m' : Int} {i : Nat} (hi : i < p.length) (hl : l.length = p.length) (hd : l[i]! = d') (hr : r = min (min res l[i]! + 2) (dist + substC c p[i])) (hm : m' = if r < mn then r else mn) :
    (l.take i ++ (rowRun c (p.drop i) (l.drop i) dist res mn).1, (rowRun c (p.drop i) (l.drop i) dist res mn).2) = ((l.set i r).take (i + 1) ++ (rowRun c (p.drop (i + 1)) ((l.set i r).drop (i + 1)) d' r m').1, (rowRun c (p.drop (i + 1)) ((l.set i r).drop (i + 1)) d' r m').2) := by
  have hil : i < l.length := by omega
  have e1 : l[i]! = l[i] := by simp [hil]
  rw [e1] at hd hr
  have e2 : (l.set i r).take (i + 1) = l.take i ++ [r] := by
    rw [List.take_add_one, List.take_set_of_le (Nat.le_refl i)]
    simp [hil]
  have e3 : (l.set i r).drop (i + 1) = l.drop (i + 1) := List.drop_set_of_lt (Nat.lt_succ_self i)
  rw [e2, e3, List.drop_eq_getElem_cons hi, List.drop_eq_getElem_cons hil]
  simp only [rowRun]
  rw [← hr, ← hm, hd]
  simp
theorem rowRun_end {c : Nat} {p : List Nat} {l : List Int} {dist res mn : Int} (hl : l.length = p.length) :
    (l.take p.length ++ (rowRun c (p.drop p.length) (l.drop p.length) dist res mn).1, (rowRun c (p.drop p.length) (l.drop p.length) dist res mn).2) = (l, res, mn) := by
  rw [List.drop_length, ← hl, List.take_length, List.drop_length]
  simp [rowRun]
section
variable {prog : Program} {w : World} {A : Around} {E : Value → Shared → Prop} {s : Shared} {h₀ : Heap} {L r : Addr} {m : Str → Option Value} {news : List (Addr × Obj)}
/-- this object is a list of these ints -/
def IsIv (o : Obj) (ls : List (Int × Tok)) : Prop := o.cls = .type "list" ∧ ∃ n, o.data = .seq (iv ls).toArray n
theorem IsIv.at {h : Heap} {R : Addr} {o : Obj} {ls : List (Int × Tok)} (x : IsIv o ls) (N : News h₀ L h news) (hm : (R, o) ∈ news) : h.IsList R (iv ls).toArray :=
  ⟨o, (N _ hm).1, x.1, x.2⟩
theorem get_row {value slice : Expr} {R : Addr} {o : Obj} {ls : List (Int × Tok)} {k : Nat} {u : Tok} {Q : Value → Shared → Prop} (N : News h₀ L s.heap news) (hm : (R, o) ∈ news) (x : IsIv o ls) (hk : k < ls.length) (hl : ls.length ≤ 1000)
    (h : Q (.int ls[k].1 ls[k].2) s) (hs : subscripted slice false (.ref R) (.int (k : Int) u) = operate [.ref R, .int (k : Int) u] (getItem (.ref R) (.int (k : Int) u))) (hg : ∀ r, letTemporaryGo value (.ref R) r = pure ()) :
    wpAny (model prog w) A (subscriptTail value slice (.ref R) (.int (k : Int) u)) Q E s :=
  item_list (x.at N hm) (by omega) (by omega) (by simpa using iv_get hk) h hs hg
theorem set_row {R : Addr} {o : Obj} {rest : List (Addr × Obj)} {ls : List (Int × Tok)} {k : Nat} {u t : Tok} {x : Int} {Q : Unit → Shared → Prop} (F : Fr h₀ L s.heap m) (N : News h₀ L s.heap ((R, o) :: rest)) (hap : ∀ p ∈ rest, p.1 ≠ R) (ho : IsIv o ls) (hk : k < ls.length) (hl : ls.length ≤ 1000)
    (h : ∀ h' o', IsIv o' (ls.set k (x, t)) → Fr h₀ L h' m → News h₀ L h' ((R, o') :: rest) → Q () { s with heap := h' }) :
    wpAny (model prog w) A (setItem (.ref R) (.int (k : Int) u) (.int x t)) Q E s := by
  refine wpAny_setItem_list (ho.at N (.head _)) (by omega) (by omega) (by simp [iv_len]; omega) fun h' hl' hs => ?_
  obtain ⟨o', g1, g2, n', g3⟩ := hl'
  refine h h' o' ⟨g2, n', ?_⟩ (F.change hs (N _ (.head _)).2.1 (N _ (.head _)).2.2) (N.setHead hap hs g1)
  rw [g3]
  simp [iv_set]
end
end Mine

end
section
open PySem PySem.W PySem.Calls PyProof.Rows
set_option linter.unusedVariables false
namespace Mine
theorem execs_app (env : Env) : ∀ (a b : List Stmt), execs (a ++ b) env = (execs a env >>= fun f => match f with | .next => execs b env | f => pure f)
  | [], b => rfl
  | st :: a, b => by
    show (exec st env >>= _) = ((exec st env >>= _) >>= _)
    rw [bind_assoc]
    congr 1
    funext f
    cases f with
    | next => exact execs_app env a b
    | _ => rfl
theorem cutN {M : Model} {A : Around} {E : Value → Shared → Prop} {Q : Flow → Shared → Prop} {s : Shared} {env : Env} (k : Nat) {l : List Stmt} (Mid : Shared → Prop)
    (h1 : wpAny M A (execs (l.take k) env) (fun f s' => f = .next ∧ Held (Mid s')) E s) (h2 : ∀ s', Mid s' → wpAny M A (execs (l.drop k) env) Q E s') : wpAny M A (execs l env) Q E s := by
  rw [← List.take_append_drop k l, execs_app]
  exact wpAny_bind (wpAny_mono h1 (fun f s' h => by obtain ⟨rfl, h⟩ := h; exact h2 s' h) (fun _ _ e => e))
end Mine

end
section
open PySem PySem.W PySem.Calls PyProof.Rows
set_option linter.unusedVariables false
namespace Mine
section
variable {prog : Program} {w : World} {A : Around} {E : Value → Shared → Prop} {s : Shared} {env : Env} {h₀ : Heap} {target : Expr} {body : List Stmt} {Q : Flow → Shared → Prop}
/-- a for over a made tuple, its items unpacked -/
theorem turns_tup {ax : Addr} {vs : List Value} {m₀ : Str → Option Value} {news : List (Addr × Obj)} (J : Nat → (Str → Option Value) → List (Addr × Obj) → Prop)
    (hh : A.handled = none) (hl : s.heap.IsTuple ax vs.toArray) (hlL : env.locals ≠ ax) (F : Fr h₀ env.locals s.heap m₀) (N : News h₀ env.locals s.heap news) (hj : J 0 m₀ news)
    (turn : ∀ i v m₁ news₁ h tk own I, vs[i]? = some v → (∀ p ∈ own, p.1 = I ∨ p.1 = ax) → (∀ p ∈ news₁, p.1 ≠ I) → J i m₁ news₁ → Fr h₀ env.locals h m₁ → News h₀ env.locals h (news₁ ++ own) →
      wpAny (model prog w) A (assign target env v) (fun _ s₃ => wpAny (model prog w) A (execs body env) (FreePost h₀ env.locals (J (i + 1)) own I { s with heap := h, toks := tk } Q) E s₃) E { s with heap := h, toks := tk })
    (done : ∀ m₁ news₁ h tk, J vs.length m₁ news₁ → Fr h₀ env.locals h m₁ → News h₀ env.locals h news₁ → Q .next { s with heap := h, toks := tk }) :
    wpAny (model prog w) A (pyIter (.ref ax)) (fun it s₂ => TurnsAt prog w A h₀ env target body Q E it s₂) E s := by
  refine wpAny_pyIter_tuple hl ?_
  have hIL : env.locals ≠ s.heap.objs.size := Nat.ne_of_lt F.ns.lt
  have hne : ax ≠ s.heap.objs.size := let ⟨o, ho, _⟩ := hl; Nat.ne_of_lt (Heap.lt_size ho)
  have W := Walks.tuple (prog := prog) (w := w) hh s.heap.objs.size ax hne vs.toArray
  have hlen : vs.toArray.size = vs.length := by simp
  rw [hlen] at W
  refine ⟨s.heap.objs.size, _, _, _, _, _, _, m₀, news, J, rfl, KTurns.ofWalks W (fun i v s Q E st q => letGo_tupleiter st.1 q), ?_, ?_, ?_, ⟨⟨_, Heap.get?_push_size _ rfl, rfl, rfl⟩, hl.push _⟩, F.push _, (fun p hp => ⟨Heap.get?_push_of_some _ (N p hp).1, (N p hp).2⟩), hj, ?_, ?_⟩
  · intro hm
    rcases List.mem_cons.mp hm with e | hm
    · exact hIL e
    · exact hlL (List.mem_singleton.mp hm)
  · intro b hb
    rw [List.mem_singleton.mp hb]
    exact next_is_new F
  · intro p hp hm
    exact Nat.ne_of_lt (Heap.lt_size (N p hp).1) (List.mem_singleton.mp hm)
  · intro i v m₁ news₁ h₁ tk₁ own hi hP hJ hnw hsub _ hall hst F₁ N₁
    have N₂ : News h₀ env.locals h₁ (news₁ ++ own) := fun p hp => N₁ p ((List.mem_append.mp hp).elim (fun h => List.mem_append.mpr (.inr h)) fun h => List.mem_append.mpr (.inl h))
    have hno : ∀ p ∈ news₁, p.1 ≠ s.heap.objs.size := fun p hp e => hnw p hp (List.mem_singleton.mpr e)
    have hown : ∀ p ∈ own, p.1 = s.heap.objs.size ∨ p.1 = ax := fun p hp => by
      rcases List.mem_cons.mp (hsub p hp) with e | hm
      · exact .inl e
      · exact .inr (List.mem_singleton.mp hm)
    refine wpAny_mono (turn i v m₁ news₁ h₁ tk₁ own _ (by simpa using hP) hown hno hJ F₁ N₂) (fun _ s₃ h₃ => wpAny_mono h₃ (fun f s₂ p => ?_) fun _ _ e => e) fun _ _ e => e
    have fin : (∃ h' tk m' news' nx, s₂ = { s with heap := h', toks := tk } ∧ Fr h₀ env.locals h' m' ∧ News h₀ env.locals h' news' ∧ (∀ p ∈ nx, p ∈ news') ∧ (∀ p ∈ own, p ∈ news') ∧ (∀ p ∈ nx, p.1 ≠ s.heap.objs.size) ∧ J (i + 1) m' nx) → LoopStepU h₀ env.locals [s.heap.objs.size] own (J (i + 1)) { s with heap := h₁, toks := tk₁ } .next s₂ := by
      rintro ⟨h', tk, m', news', nx, e, F', N', hn, ho, ha, hm⟩
      exact ⟨rfl, h', tk, m', nx, e, F', fun p hp => N' p ((List.mem_append.mp hp).elim (ho p) (hn p)), fun p hp hq => ha p hp (List.mem_singleton.mp hq), hm⟩
    cases f with
    | ret v => exact .ret p
    | brk => exact .brk p
    | next => exact .next (fin p)
    | cont => exact .cont (fin p)
  · intro h' tk m' news' F' N' _ hJ
    exact done m' news' h' tk hJ F' N'
end
end Mine

end
section
open PySem PySem.W PySem.Calls PyProof.Rows
set_option linter.unusedVariables false
set_option maxRecDepth 100000
namespace Mine
/-- a frame at work -/
structure Cx where
  prog : Program
  w : World
  A : Around
  env : Env
  g : Heap
  s₁ : Shared
  K : Frag
  keep : Bool
abbrev Tys := List (Str × (Value → Prop))
abbrev Led := List (Addr × Obj)
abbrev noE : Value → Shared → Prop := fun _ _ => False
def Has (m : Str → Option Value) (Γ : Tys) : Prop := ∀ q ∈ Γ, ∃ v, m q.1 = some v ∧ q.2 v
/-- the state: the names' kinds and values, the ledger -/
def St (c : Cx) (Γ : Tys) (N : Led) (s : Shared) : Prop :=
  ∃ h tk gs m, s = { c.s₁ with heap := h, toks := tk, gens := gs } ∧ (c.keep = false → AllBare gs) ∧ (c.keep = true → gs = c.s₁.gens) ∧ Fr c.g c.env.locals h m ∧ News c.g c.env.locals h N ∧ Has m Γ
def IsL (n : Nat) (l : List Nat) : Value → Prop := fun v => (∃ t, v = .str (S l) t) ∧ l.length ≤ n
def IsI (i : Int) : Value → Prop := fun v => ∃ t, v = .int i t
def IsK (n k : Nat) : Value → Prop := fun v => (∃ t, v = .int (k : Int) t) ∧ k ≤ n
def IsB (b : Bool) : Value → Prop := fun v => v = .bool b
def IsV (x : Value) : Value → Prop := fun v => v = x
/-- evaluating e gives a value with P, and leaves the rest -/
def Ev (c : Cx) (Γ : Tys) (e : Expr) (P : Value → Prop) : Prop := ∀ N s, St c Γ N s → wpAny (model c.prog c.w) c.A (eval e c.env) (fun v s' => P v ∧ St c Γ N s') noE s
/-- a call of f with vs -/
def Cn (c : Cx) (f : Value) (vs : List Value) (P : Value → Prop) : Prop := ∀ Γ N s, St c Γ N s → wpAny (model c.prog c.w) c.A (call f vs) (fun v s' => P v ∧ St c Γ N s') noE s
/-- a test -/
def Tr (c : Cx) (Γ : Tys) (e : Expr) (b : Bool) : Prop := ∀ N s, St c Γ N s → wpAny (model c.prog c.w) c.A (isTrue e c.env (eval e c.env)) (fun b' s' => b' = b ∧ St c Γ N s') noE s
/-- a statement, a block that goes on -/
def Ex (c : Cx) (Γ : Tys) (N : Led) (st : Stmt) (Γ' : Tys) (N' : Led) : Prop := ∀ s, St c Γ N s → wpAny (model c.prog c.w) c.A (exec st c.env) (fun f s' => f = .next ∧ St c Γ' N' s') noE s
def Xs (c : Cx) (Γ : Tys) (N : Led) (l : List Stmt) (Γ' : Tys) (N' : Led) : Prop := ∀ s, St c Γ N s → wpAny (model c.prog c.w) c.A (execs l c.env) (fun f s' => f = .next ∧ St c Γ' N' s') noE s
/-- a def of the text, callable by its name -/
def Gl (c : Cx) (x : Str) (f : Value) : Prop := ∀ p s m (Q : Value → Shared → Prop) E, Fr c.g c.env.locals s.heap m → Q f s → wpAny (model c.prog c.w) c.A (eval (.Name x p) c.env) Q E s
def Fc (c : Cx) (x : Str) (f : Value) : Prop := Gl c x f ∧ keepIn c.K f = true ∧ c.K.In c.g
variable {c : Cx} {Γ Γ₁ Γ' : Tys} {N N₁ N' : Led}

theorem wp_then {α : Type} {M : Model} {A : Around} {t : Sem α} {Q Q' : α → Shared → Prop} {E : Value → Shared → Prop} {s : Shared} (h : wpAny M A t Q noE s) (k : ∀ v s', Q v s' → Q' v s') : wpAny M A t Q' E s := wpAny_mono h k (fun _ _ e => e.elim)
theorem St.toks {s : Shared} (h : St c Γ N s) (k : Nat) : St c Γ N { s with toks := k } := by
  obtain ⟨h', tk, gs, m, rfl, r⟩ := h
  exact ⟨h', k, gs, m, rfl, r⟩
theorem St.weak {s : Shared} (h : St c Γ N s) (hs : ∀ q ∈ Γ', q ∈ Γ) : St c Γ' N s := by
  obtain ⟨h', tk, gs, m, e, a, g, b, d, H⟩ := h
  exact ⟨h', tk, gs, m, e, a, g, b, d, fun q hq => H q (hs q hq)⟩
theorem St.led {s : Shared} (h : St c Γ N s) (hs : ∀ q ∈ N', q ∈ N) : St c Γ N' s := by
  obtain ⟨h', tk, gs, m, e, a, g, b, d, H⟩ := h
  exact ⟨h', tk, gs, m, e, a, g, b, fun q hq => d q (hs q hq), H⟩
theorem Ev.mono {e : Expr} {P P' : Value → Prop} (h : Ev c Γ e P) (k : ∀ v, P v → P' v) : Ev c Γ e P' := fun N s hs => wp_then (h N s hs) fun v s' hv => ⟨k v hv.1, hv.2⟩

theorem Ev.name {x : Str} {p : Pos} {P : Value → Prop} (h : (x, P) ∈ Γ) (hf : c.env.scope.kind = .function) (hk : c.env.kindOf x = some .local) (hd : (x == ("__debug__" : Str)) = false) : Ev c Γ (.Name x p) P := by
  rintro N s ⟨h', tk, gs, m, rfl, hb, g, F, Nn, H⟩
  obtain ⟨v, hv, hP⟩ := H _ h
  exact wpAny_Name (wpAny_loadName_local hf hk F.ns hv ⟨hP, h', tk, gs, m, rfl, hb, g, F, Nn, H⟩) hd
theorem Ev.lit {x : Str} {k : Nat} {p : Pos} {n : Nat} {l : List Nat} (hx : x = S l) (hl : l.length = n) : Ev c Γ (.Constant (.str x) k p) (IsL n l) := by
  intro N s hs
  refine Calls.Constant_str ⟨⟨⟨_, by rw [hx]⟩, Nat.le_of_eq hl⟩, hs.toks _⟩
theorem Ev.int {i : Int} {k : Nat} {p : Pos} : Ev c Γ (.Constant (.int i) k p) (IsI i) := fun N s hs => wpAny_Constant_int ⟨⟨_, rfl⟩, hs.toks _⟩
theorem Ev.bool {b : Bool} {k : Nat} {p : Pos} : Ev c Γ (.Constant (.bool b) k p) (IsB b) := fun N s hs => Constant_bool ⟨rfl, hs⟩
theorem Ev.bin {a b : Expr} {o : Operator} {p : Pos} {P P' R : Value → Prop} (ha : Ev c Γ a P) (hb : Ev c Γ b P')
    (hop : ∀ v v', P v → P' v' → ∀ N s, St c Γ N s → wpAny (model c.prog c.w) c.A (binaryOp o v v') (fun v s' => R v ∧ St c Γ N s') noE s) : Ev c Γ (.BinOp a o b p) R := by
  intro N s hs
  refine wpAny_BinOp (wp_then (ha N s hs) fun v s₁ h₁ => wp_then (hb N s₁ h₁.2) fun v' s₂ h₂ => hop v v' h₁.1 h₂.1 N s₂ h₂.2)
theorem IsL.fits {n m : Nat} {l j : List Nat} (h : l.length ≤ n) (h' : j.length ≤ m) (hs : Nat.ble (n + m) 1000000 = true) : (S l).length + (S j).length ≤ sizeLine := by
  have := Nat.le_of_ble_eq_true hs
  rw [S_len, S_len, sizeLine_eq]; omega
theorem S_cat (a b : List Nat) : S a ++ S b = S (a ++ b) := by
  show Str.append _ _ = _
  simp [S, Str.append]
theorem Ev.add {a b : Expr} {p : Pos} {n m : Nat} {l j : List Nat} (ha : Ev c Γ a (IsL n l)) (hb : Ev c Γ b (IsL m j)) (hs : Nat.ble (n + m) 1000000 = true) : Ev c Γ (.BinOp a .Add b p) (IsL (n + m) (l ++ j)) := by
  refine Ev.bin ha hb ?_
  rintro v v' ⟨⟨t, rfl⟩, hl⟩ ⟨⟨t', rfl⟩, hj⟩ N s hst
  exact SB.add (fun t'' k => ⟨⟨⟨t'', by rw [S_cat]⟩, by rw [List.length_append]; omega⟩, hst.toks _⟩) (IsL.fits hl hj hs)
theorem Ev.cmp {a b : Expr} {o : CmpOp} {p : Pos} {P P' : Value → Prop} {r : Bool} (ha : Ev c Γ a P) (hb : Ev c Γ b P')
    (hop : ∀ v v', P v → P' v' → ∀ s Q E, Q (.bool r) s → wpAny (model c.prog c.w) c.A (compareOp o v v') Q E s) (hm : behindInMarks o b = false) : Ev c Γ (.Compare a [o] [b] p) (IsB r) := by
  intro N s hs
  refine wpAny_Compare1 (wp_then (ha N s hs) fun v s₁ h₁ => wp_then (hb N s₁ h₁.2) fun v' s₂ h₂ => hop v v' h₁.1 h₂.1 _ _ _ ⟨rfl, h₂.2⟩) hm
theorem Tr.cmp {a b : Expr} {o : CmpOp} {p : Pos} {P P' : Value → Prop} {r : Bool} (ha : Ev c Γ a P) (hb : Ev c Γ b P')
    (hop : ∀ v v', P v → P' v' → ∀ s Q E, Q (.bool r) s → wpAny (model c.prog c.w) c.A (compareOp o v v') Q E s) (hm : behindInMarks o b = false) : Tr c Γ (.Compare a [o] [b] p) r := by
  intro N s hs
  exact wpAny_isTrue_Compare1 (wp_then (ha N s hs) fun v s₁ h₁ => wp_then (hb N s₁ h₁.2) fun v' s₂ h₂ => hop v v' h₁.1 h₂.1 _ _ _ (wpAny_truthy_bool ⟨rfl, h₂.2⟩)) hm
theorem Tr.plain {e : Expr} {b : Bool} (h : Ev c Γ e (IsB b)) (he : isTrue e c.env (eval e c.env) = (do let v ← eval e c.env; standAt e.pos; holding [v] (truthy v))) : Tr c Γ e b := fun N s hs =>
  isTrue_plain (wp_then (h N s hs) fun v s₁ h₁ => by rw [show v = .bool b from h₁.1]; exact wpAny_truthy_bool ⟨rfl, h₁.2⟩) he
theorem Tr.or2 {a b : Expr} {p : Pos} (ha : Tr c Γ a false) {r : Bool} (hb : Tr c Γ b r) : Tr c Γ (.BoolOp .Or [a, b] p) r := fun N s hs =>
  isTrue_or (wp_then (ha N s hs) fun v s₁ h₁ => by
    rw [h₁.1]
    exact isTrue_or (wp_then (hb N s₁ h₁.2) fun v s₂ h₂ => by
      rw [h₂.1]
      cases r with
      | true => exact ⟨rfl, h₂.2⟩
      | false => exact isTrue_or_nil ⟨rfl, h₂.2⟩))
theorem op_isnot {a b r : Bool} (hr : (a != b) = r) : ∀ v v', IsB a v → IsB b v' → ∀ s Q E, Q (.bool r) s → wpAny (model c.prog c.w) c.A (compareOp .IsNot v v') Q E s := by
  rintro v v' rfl rfl s Q E h; subst hr; exact isnot_bool h
theorem op_ne {a b : Int} {r : Bool} (hr : (a != b) = r) : ∀ v v', IsI a v → IsI b v' → ∀ s Q E, Q (.bool r) s → wpAny (model c.prog c.w) c.A (compareOp .NotEq v v') Q E s := by
  rintro v v' ⟨t, rfl⟩ ⟨t', rfl⟩ s Q E h; subst hr; exact ne_int h
theorem op_eq {a b : Int} {r : Bool} (hr : (a == b) = r) : ∀ v v', IsI a v → IsI b v' → ∀ s Q E, Q (.bool r) s → wpAny (model c.prog c.w) c.A (compareOp .Eq v v') Q E s := by
  rintro v v' ⟨t, rfl⟩ ⟨t', rfl⟩ s Q E h; subst hr; exact eq_int h
theorem op_isnot_int : ∀ v v', IsV (.type "int") v → IsV (.type "int") v' → ∀ s Q E, Q (.bool false) s → wpAny (model c.prog c.w) c.A (compareOp .IsNot v v') Q E s := by
  rintro v v' rfl rfl s Q E h; exact isnot_type_same h
theorem op_eq_str {a b : List Nat} {n m : Nat} {r : Bool} (hr : decide (a = b) = r) : ∀ v v', IsL n a v → IsL m b v' → ∀ s Q E, Q (.bool r) s → wpAny (model c.prog c.w) c.A (compareOp .Eq v v') Q E s := by
  rintro v v' ⟨⟨t, rfl⟩, _⟩ ⟨⟨t', rfl⟩, _⟩ s Q E h
  subst hr
  refine eq_str ?_
  rw [S_beq]; exact h


theorem St.fr {s : Shared} (h : St c Γ N s) : ∃ m, Fr c.g c.env.locals s.heap m := by
  obtain ⟨h', tk, gs, m, rfl, hb, g, F, r⟩ := h
  exact ⟨m, F⟩
theorem Ev.gl {x : Str} {p : Pos} {f : Value} (h : Gl c x f) : Ev c Γ (.Name x p) (IsV f) := fun N s hs => let ⟨m, F⟩ := hs.fr; h p s m _ _ F ⟨rfl, hs⟩
/-- arguments -/
def AllP : List (Value → Prop) → List Value → Prop
  | [], [] => True
  | P :: Ps, v :: vs => P v ∧ AllP Ps vs
  | _, _ => False
theorem lenP0 : ∀ {vs : List Value}, AllP [] vs → vs = []
  | [], _ => rfl
theorem lenP1 {P : Value → Prop} : ∀ {vs : List Value}, AllP [P] vs → ∃ v, vs = [v]
  | [v], _ => ⟨v, rfl⟩
theorem lenP2 {P P' : Value → Prop} : ∀ {vs : List Value}, AllP [P, P'] vs → ∃ v v', vs = [v, v']
  | v :: vs, h => let ⟨v', e⟩ := lenP1 (P := P') h.2; ⟨v, v', e ▸ rfl⟩
theorem lenP3 {P P' P'' : Value → Prop} : ∀ {vs : List Value}, AllP [P, P', P''] vs → ∃ v v' v'', vs = [v, v', v'']
  | v :: vs, h => let ⟨v', v'', e⟩ := lenP2 (P := P') (P' := P'') h.2; ⟨v, v', v'', e ▸ rfl⟩
def EvA (c : Cx) (Γ : Tys) (es : List Expr) (Ps : List (Value → Prop)) : Prop := ∀ p N s, St c Γ N s → wpAny (model c.prog c.w) c.A (spliced (backTo p (starEach es c.env))) (fun vs s' => AllP Ps vs ∧ St c Γ N s') noE s
theorem EvA.nil : EvA c Γ [] [] := fun p N s hs => Calls.spliced_nil ⟨trivial, hs⟩
theorem EvA.cons {e : Expr} {es : List Expr} {P : Value → Prop} {Ps : List (Value → Prop)} (h : Ev c Γ e P) (hr : EvA c Γ es Ps) (h1 : starEach (e :: es) c.env = (false, eval e c.env) :: starEach es c.env) : EvA c Γ (e :: es) (P :: Ps) := by
  intro p N s hs
  rw [h1]
  exact Calls.spliced_cons (wp_then (h N s hs) fun v s₁ h₁ => wp_then (hr p N s₁ h₁.2) fun vs s₂ h₂ => ⟨⟨h₁.1, h₂.1⟩, h₂.2⟩)
/-- a call that hands back new objects -/
def CnN (c : Cx) (f : Value) (vs : List Value) (P : Value → Led → Prop) : Prop := ∀ Γ N s, St c Γ N s → wpAny (model c.prog c.w) c.A (call f vs) (fun v s' => ∃ own, P v own ∧ (∀ p ∈ own, ∀ q ∈ N, q.1 < p.1) ∧ St c Γ (own ++ N) s') noE s
def EvN (c : Cx) (Γ : Tys) (e : Expr) (P : Value → Led → Prop) : Prop := ∀ N s, St c Γ N s → wpAny (model c.prog c.w) c.A (eval e c.env) (fun v s' => ∃ own, P v own ∧ (∀ p ∈ own, ∀ q ∈ N, q.1 < p.1) ∧ St c Γ (own ++ N) s') noE s
theorem EvN.call {x : Str} {p p2 : Pos} {e : Expr} {es : List Expr} {f : Value} {Ps : List (Value → Prop)} {R : Value → Led → Prop} (hf : Fc c x f) (ha : EvA c Γ (e :: es) Ps) (hc : ∀ vs, AllP Ps vs → CnN c f vs R)
    (h1 : starEach (e :: es) c.env = (false, eval e c.env) :: starEach es c.env) (h2 : (backTo p2 (starEach es c.env)).any (·.1) = false)
    (he : eval (.Call (.Name x p) (e :: es) [] p2) c.env = (do callWith p2 (← eval (.Name x p) c.env) [] (backTo p2 (starEach (e :: es) c.env)) (backToKw p2 (keywordEach [] c.env)))) : EvN c Γ (.Call (.Name x p) (e :: es) [] p2) R := by
  intro N s hs
  obtain ⟨m, F⟩ := hs.fr
  refine Call_ (hf.1 p s m _ _ F ?_) he
  refine callWith_K hf.2.2 hf.2.1 ?_ h1 h2
  refine wp_then (ha p2 N s hs) fun vs s₂ h₂ => ⟨?_, hc vs h₂.1 Γ N s₂ h₂.2⟩
  obtain ⟨m₂, F₂⟩ := h₂.2.fr
  exact hf.2.2.keeps F₂.keep
theorem Ev.call {x : Str} {p p2 : Pos} {e : Expr} {es : List Expr} {f : Value} {Ps : List (Value → Prop)} {R : Value → Prop} (hf : Fc c x f) (ha : EvA c Γ (e :: es) Ps) (hc : ∀ vs, AllP Ps vs → Cn c f vs R)
    (h1 : starEach (e :: es) c.env = (false, eval e c.env) :: starEach es c.env) (h2 : (backTo p2 (starEach es c.env)).any (·.1) = false)
    (he : eval (.Call (.Name x p) (e :: es) [] p2) c.env = (do callWith p2 (← eval (.Name x p) c.env) [] (backTo p2 (starEach (e :: es) c.env)) (backToKw p2 (keywordEach [] c.env)))) : Ev c Γ (.Call (.Name x p) (e :: es) [] p2) R := by
  intro N s hs
  obtain ⟨m, F⟩ := hs.fr
  refine Call_ (hf.1 p s m _ _ F ?_) he
  refine callWith_K hf.2.2 hf.2.1 ?_ h1 h2
  refine wp_then (ha p2 N s hs) fun vs s₂ h₂ => ⟨?_, hc vs h₂.1 Γ N s₂ h₂.2⟩
  obtain ⟨m₂, F₂⟩ := h₂.2.fr
  exact hf.2.2.keeps F₂.keep
theorem Ev.fun1 {x : Str} {T : String} {p p2 : Pos} {e : Expr} {P R : Value → Prop} (hf : Gl c x (.builtin T)) (ha : Ev c Γ e P) (hc : ∀ v, P v → Cn c (.builtin T) [v] R)
    (h1 : starEach [e] c.env = (false, eval e c.env) :: starEach [] c.env)
    (he : eval (.Call (.Name x p) [e] [] p2) c.env = (do callWith p2 (← eval (.Name x p) c.env) [] (backTo p2 (starEach [e] c.env)) (backToKw p2 (keywordEach [] c.env)))) : Ev c Γ (.Call (.Name x p) [e] [] p2) R := by
  intro N s hs
  obtain ⟨m, F⟩ := hs.fr
  refine Call_ (hf p s m _ _ F ?_) he
  refine PyProof.Rows.callWith_builtin1 ?_ h1
  refine wp_then (EvA.cons ha EvA.nil h1 p2 N s hs) fun vs s₂ h₂ => ?_
  have hv := h₂.1
  obtain ⟨v, rfl⟩ := lenP1 hv
  exact hc v hv.1 Γ N s₂ h₂.2
theorem cn_type_int {i : Int} : ∀ v, IsI i v → Cn c (.type "type") [v] (IsV (.type "int")) := by
  rintro v ⟨t, rfl⟩ Γ N s hs
  exact call_type_of (typeIs_int s i t) (by rfl) ⟨rfl, hs⟩
theorem cn_len {n : Nat} {l : List Nat} (h : Nat.ble n 1000000 = true) : ∀ v, IsL n l v → Cn c (.builtin "len") [v] (IsK n l.length) := by
  rintro v ⟨⟨t, rfl⟩, hl⟩ Γ N s hs
  have := Nat.le_of_ble_eq_true h
  refine P.len_str (by rw [S_len]; omega) ⟨⟨⟨_, by rw [S_len]⟩, hl⟩, hs.toks _⟩

/-- what a contract asks of the frame -/
def Fnc (c : Cx) (p : Program) (n : Nat) : Prop :=
  ∃ (loose : List Str) (mean : ExcName → Option Value) (mg mb : Str → Option Value) (dp un : Nat) (gd : Option (List Code)) (cn : Str) (cs : PySem.Scope) (a : Addr) (ccd : Value) (cl : List (Str × Addr)) (outer : List Env) (A₀ : Around) (base : Heap),
    c.A = ktrTop dp un gd cn cs c.env.locals a ccd cl outer ∧ Below A₀ base outer c.g ∧ c.K.In c.g ∧ Top p loose mean mg mb c.g ∧ cs.kind = .function ∧ dp + n < recursionLimit ∧ un + 8 * n < cLine
theorem cnN_fn {p : Program} {f : Addr} {need n : Nat} {vs : List Value} {P : Value → Led → Prop} (C : Fn c.prog c.w c.K p f need vs P) (X : Fnc c p n) (hn : Nat.ble need n = true) : CnN c (.ref f) vs P := by
  intro Γ N s hs
  have hn := Nat.le_of_ble_eq_true hn
  obtain ⟨loose, mean, mg, mb, dp, un, gd, cn, cs, a, ccd, cl, outer, A₀, base, hA, B, X, T, hk, hd, hu⟩ := X
  obtain ⟨h', tk, gs, m, rfl, hb, g, F, Nn, H⟩ := hs
  rw [hA]
  exact C.use B F X Nn T hk (by omega) (by omega) fun v own h'' tk'' hP F' N' hl => ⟨own, hP, hl, h'', tk'', gs, m, rfl, hb, g, F', N', H⟩
theorem cn_fn {p : Program} {f : Addr} {need n : Nat} {vs : List Value} {P : Value → Led → Prop} {R : Value → Prop} (C : Fn c.prog c.w c.K p f need vs P) (X : Fnc c p n) (hn : Nat.ble need n = true) (hR : ∀ v own, P v own → R v) : Cn c (.ref f) vs R := fun Γ N s hs =>
  wp_then (cnN_fn C X hn Γ N s hs) fun v s' ⟨own, hP, _, h⟩ => ⟨hR v own hP, h.led fun q hq => List.mem_append_right _ hq⟩
theorem cn_fnG {p : Program} {f : Addr} {need n : Nat} {vs : List Value} {P : Value → Prop} (C : FnG c.prog c.w c.K p f need vs P) (X : Fnc c p n) (hn : Nat.ble need n = true) (hk0 : c.keep = false) : Cn c (.ref f) vs P := by
  intro Γ N s hs
  have hn := Nat.le_of_ble_eq_true hn
  obtain ⟨loose, mean, mg, mb, dp, un, gd, cn, cs, a, ccd, cl, outer, A₀, base, hA, B, X, T, hk, hd, hu⟩ := X
  obtain ⟨h', tk, gs, m, rfl, hb, g, F, Nn, H⟩ := hs
  rw [hA]
  exact C.use B F X Nn T hk (hb hk0) (by omega) (by omega) fun v h'' tk'' gs'' hP F' N' hb' => ⟨hP, h'', tk'', gs'', m, rfl, fun _ => hb', (fun q => by rw [hk0] at q; cases q), F', N', H⟩

/-- statements -/
theorem Xs.nil : Xs c Γ N [] Γ N := fun s hs => wpAny_execs_nil ⟨rfl, hs⟩
theorem Xs.cons {st : Stmt} {l : List Stmt} (h : Ex c Γ N st Γ₁ N₁) (hr : Xs c Γ₁ N₁ l Γ' N') : Xs c Γ N (st :: l) Γ' N' := fun s hs =>
  wpAny_execs_cons (wp_then (h s hs) fun f s₁ h₁ => by rw [h₁.1]; exact hr s₁ h₁.2)
theorem Ex.weak {st : Stmt} (h : Ex c Γ N st Γ₁ N') (hs : ∀ q ∈ Γ', q ∈ Γ₁) : Ex c Γ N st Γ' N' := fun s h' => wp_then (h s h') fun f s₁ h₁ => ⟨h₁.1, h₁.2.weak hs⟩
theorem Ex.if0 {t : Expr} {body orelse : List Stmt} {p : Pos} (ht : Tr c Γ t false) (h : Xs c Γ N orelse Γ' N') : Ex c Γ N (.If t body orelse p) Γ' N' := fun s hs =>
  wpAny_If (wp_then (ht N s hs) fun b s₁ h₁ => by rw [h₁.1]; exact h s₁ h₁.2)
theorem Ex.if1 {t : Expr} {body orelse : List Stmt} {p : Pos} (ht : Tr c Γ t true) (h : Xs c Γ N body Γ' N') : Ex c Γ N (.If t body orelse p) Γ' N' := fun s hs =>
  wpAny_If (wp_then (ht N s hs) fun b s₁ h₁ => by rw [h₁.1]; exact h s₁ h₁.2)
def fresh (x : Str) (Γ : Tys) : Bool := Γ.all fun q => q.1 != x
theorem fresh_ne {x : Str} {Γ : Tys} (h : fresh x Γ = true) : ∀ q ∈ Γ, q.1 ≠ x := fun q hq e => by
  have := List.all_eq_true.mp h q hq
  simp [e] at this
theorem St.set {x : Str} {P : Value → Prop} {v : Value} {s : Shared} (hs : St c Γ N s) (hP : P v) (hf : fresh x Γ = true) (hx : c.env.kindOf x = some .local) (hp : (c.env.scope.kind == .class || (c.env.scope.kind == .module && c.env.locals != c.env.globals)) = false) :
    wpAny (model c.prog c.w) c.A (storeName c.env x v) (fun _ s' => St c ((x, P) :: Γ) N s') noE s := by
  obtain ⟨h', tk, gs, m, rfl, hb, g, F, Nn, H⟩ := hs
  refine wpAny_storeName_local hx F.ns (fun h'' hn hsb => ⟨h'', _, gs, _, rfl, hb, g, F.set hn hsb, Nn.set hsb, ?_⟩) hp
  intro q hq
  rcases List.mem_cons.mp hq with rfl | hq
  · exact ⟨v, by simp, hP⟩
  · obtain ⟨u, hu, hPu⟩ := H q hq
    exact ⟨u, by simp only [if_neg (fresh_ne hf q hq)]; exact hu, hPu⟩
theorem Ex.assign {x : Str} {p p2 : Pos} {e : Expr} {P : Value → Prop} (he : Ev c Γ e P) (hsub : ∀ q ∈ Γ', q ∈ Γ) (hf : fresh x Γ' = true) (hx : c.env.kindOf x = some .local) (hp : (c.env.scope.kind == .class || (c.env.scope.kind == .module && c.env.locals != c.env.globals)) = false)
    (hs : swapsWith e (some (.Name x p)) p2.line c.env = pure false) : Ex c Γ N (.Assign [.Name x p] e p2) ((x, P) :: Γ') N := fun s h =>
  wpAny_Assign_Name (wp_then (he N s h) fun v s₁ h₁ => wp_then ((h₁.2.weak hsub).set h₁.1 hf hx hp) fun _ s₂ h₂ => ⟨rfl, h₂⟩) hs
/-- two names at once, from a tuple that stands in the ledger -/
theorem assign2 {x y : Str} {p1 p2 p3 : Pos} {k : Nat} {P P' : Value → Prop} {s : Shared} {T : Addr} {v v' : Value} (hs : St c Γ N s) (hm : (T, tupOf [v, v']) ∈ N) (hP : P v) (hP' : P' v') (hh : c.A.handled = none) (hf : fresh x Γ = true) (hf2 : fresh y ((x, P) :: Γ) = true)
    (hx : c.env.kindOf x = some .local) (hy : c.env.kindOf y = some .local) (hp : (c.env.scope.kind == .class || (c.env.scope.kind == .module && c.env.locals != c.env.globals)) = false) :
    wpAny (model c.prog c.w) c.A (assign (.Tuple [.Name x p1, .Name y p2] k p3) c.env (.ref T)) (fun _ s' => St c ((y, P') :: (x, P) :: Γ) N s') noE s := by
  obtain ⟨h', tk, gs, m, rfl, hb, g, F, Nn, H⟩ := hs
  refine unpackN_ F Nn (News.isTup Nn hm) hh rfl rfl fun h₁ F₁ N₁ => ?_
  have st : St c Γ N { c.s₁ with heap := h₁, toks := tk, gens := gs } := ⟨h₁, tk, gs, m, rfl, hb, g, F₁, N₁, H⟩
  refine assignInOrder_cons (assign_Name (wp_then (st.set hP hf hx hp) fun _ s₂ h₂ => ?_))
  exact assignInOrder_cons (assign_Name (wp_then (h₂.set hP' hf2 hy hp) fun _ s₃ h₃ => assignInOrder_nil h₃))
theorem Ex.unpack2 {x y : Str} {p1 p2 p3 p4 : Pos} {k : Nat} {e : Expr} {P P' : Value → Prop} {R : Value → Led → Prop} (he : EvN c Γ e R) (hR : ∀ v own, R v own → ∃ T a b, v = .ref T ∧ (T, tupOf [a, b]) ∈ own ∧ P a ∧ P' b) (hh : c.A.handled = none)
    (hsub : ∀ q ∈ Γ', q ∈ Γ) (hf : fresh x Γ' = true) (hf2 : fresh y ((x, P) :: Γ') = true)
    (hx : c.env.kindOf x = some .local) (hy : c.env.kindOf y = some .local) (hp : (c.env.scope.kind == .class || (c.env.scope.kind == .module && c.env.locals != c.env.globals)) = false)
    (hs : swapsWithSole [.Tuple [.Name x p1, .Name y p2] k p3] e p4.line c.env = pure false) (hw : swappedStores [.Tuple [.Name x p1, .Name y p2] k p3] e c.env = pure none) :
    Ex c Γ N (.Assign [.Tuple [.Name x p1, .Name y p2] k p3] e p4) ((y, P') :: (x, P) :: Γ') N := by
  intro s h
  refine Assign_Tuple (wp_then (he N s h) ?_) hs hw
  rintro v s₁ ⟨own, hv, _, h₁⟩
  obtain ⟨T, a, b, rfl, hm, ha, hb⟩ := hR v own hv
  exact wp_then (assign2 (h₁.weak hsub) (List.mem_append_left _ hm) ha hb hh hf hf2 hx hy hp) fun _ s₂ h₂ => ⟨rfl, h₂.led fun q hq => List.mem_append_right _ hq⟩

/-- two names at once, from a written pair -/
theorem Ex.swap2 {x y : Str} {p1 p2 p3 p4 p5 : Pos} {k k2 : Nat} {a b : Expr} {P P' : Value → Prop} (ha : EvA c Γ [a, b] [P, P']) (hh : c.A.handled = none)
    (hsub : ∀ q ∈ Γ', q ∈ Γ) (hf : fresh y Γ' = true) (hf2 : fresh x ((y, P') :: Γ') = true)
    (hx : c.env.kindOf x = some .local) (hy : c.env.kindOf y = some .local) (hp : (c.env.scope.kind == .class || (c.env.scope.kind == .module && c.env.locals != c.env.globals)) = false)
    (hs : swapsWithSole [.Tuple [.Name x p1, .Name y p2] k p3] (.Tuple [a, b] k2 p5) p4.line c.env = pure false) (hw : swappedStores [.Tuple [.Name x p1, .Name y p2] k p3] (.Tuple [a, b] k2 p5) c.env = pure (some [x, y])) :
    Ex c Γ N (.Assign [.Tuple [.Name x p1, .Name y p2] k p3] (.Tuple [a, b] k2 p5) p4) ((x, P) :: (y, P') :: Γ') N := by
  intro s h
  refine Assign_Tuple_swapped (names := [x, y]) (Tuple_ (wp_then (ha p5 N s h) ?_)) hs hw
  rintro vs s₁ ⟨hv, h₁⟩
  obtain ⟨v, v', rfl⟩ := lenP2 hv
  · skip
    obtain ⟨hv, hv', _⟩ := hv
    obtain ⟨h', tk, gs, m, rfl, hb, g, F, Nn, H⟩ := h₁
    refine kup_newTuple F Nn (fun D h₂ F₂ N₂ _ => ?_) (by rw [sizeLine_eq]; simp)
    refine unpackItemsN_ F₂ N₂ (News.isTup N₂ (.head _)) hh rfl fun h₃ F₃ N₃ => ?_
    have st : St c Γ N { c.s₁ with heap := h₃, toks := tk, gens := gs } := ⟨h₃, tk, gs, m, rfl, hb, g, F₃, fun q hq => N₃ q (List.mem_cons_of_mem _ hq), H⟩
    refine assignInOrder_cons (bindName_ (wp_then ((st.weak hsub).set hv' hf hy hp) fun _ s₂ h₂ => ?_))
    exact assignInOrder_cons (bindName_ (wp_then (h₂.set hv hf2 hx hp) fun _ s₃ h₃ => assignInOrder_nil ⟨rfl, h₃⟩))
/-- a tuple of pairs -/
def Pairs (own : Led) : List ((Value → Prop) × (Value → Prop)) → List Value → Prop
  | [], [] => True
  | r :: rs, v :: vs => (∃ D a b, v = .ref D ∧ (D, tupOf [a, b]) ∈ own ∧ r.1 a ∧ r.2 b) ∧ Pairs own rs vs
  | _, _ => False
theorem Pairs.mono {own own' : Led} (h : ∀ q ∈ own, q ∈ own') : ∀ {rs vs}, Pairs own rs vs → Pairs own' rs vs
  | [], [], x => x
  | [], _ :: _, x => x
  | _ :: _, [], x => x
  | r :: rs, v :: vs, ⟨⟨D, a, b, e, m, x, y⟩, z⟩ => ⟨⟨D, a, b, e, h _ m, x, y⟩, Pairs.mono h z⟩
theorem Pairs.at {own : Led} : ∀ {rs vs} {i : Nat} {v : Value}, Pairs own rs vs → vs[i]? = some v → ∃ r, rs[i]? = some r ∧ ∃ D a b, v = .ref D ∧ (D, tupOf [a, b]) ∈ own ∧ r.1 a ∧ r.2 b
  | [], [], i, v, _, e => by simp at e
  | [], _ :: _, _, _, x, _ => x.elim
  | _ :: _, [], _, _, x, _ => x.elim
  | r :: rs, u :: vs, 0, v, x, e => by
    simp at e; subst e
    exact ⟨r, rfl, x.1⟩
  | r :: rs, u :: vs, i + 1, v, x, e => by
    obtain ⟨r', h1, h2⟩ := Pairs.at x.2 (by simpa using e)
    exact ⟨r', by simpa using h1, h2⟩
def EvPs (c : Cx) (Γ : Tys) (es : List Expr) (rs : List ((Value → Prop) × (Value → Prop))) : Prop := ∀ p N s, St c Γ N s → wpAny (model c.prog c.w) c.A (spliced (backTo p (starEach es c.env))) (fun vs s' => ∃ own, Pairs own rs vs ∧ St c Γ (own ++ N) s') noE s
theorem EvPs.nil : EvPs c Γ [] [] := fun p N s hs => Calls.spliced_nil ⟨[], trivial, hs⟩
theorem EvPs.cons {a b : Expr} {k : Nat} {p2 : Pos} {es : List Expr} {P P' : Value → Prop} {rs : List ((Value → Prop) × (Value → Prop))} (h : EvA c Γ [a, b] [P, P']) (hr : EvPs c Γ es rs)
    (h1 : starEach (.Tuple [a, b] k p2 :: es) c.env = (false, eval (.Tuple [a, b] k p2) c.env) :: starEach es c.env) : EvPs c Γ (.Tuple [a, b] k p2 :: es) ((P, P') :: rs) := by
  intro p N s hs
  rw [h1]
  refine Calls.spliced_cons (Tuple_ (k := k) (wp_then (h p2 N s hs) ?_))
  rintro vs s₁ ⟨hv, h₁⟩
  obtain ⟨v, v', rfl⟩ := lenP2 hv
  · skip
    obtain ⟨hv, hv', _⟩ := hv
    obtain ⟨h', tk, gs, m, rfl, hb, g, F, Nn, H⟩ := h₁
    refine kup_newTuple F Nn (fun D h₂ F₂ N₂ _ => ?_) (by rw [sizeLine_eq]; simp)
    have st : St c Γ ((D, tupOf [v, v']) :: N) { c.s₁ with heap := h₂, toks := tk, gens := gs } := ⟨h₂, tk, gs, m, rfl, hb, g, F₂, N₂, H⟩
    refine wp_then (hr p _ _ st) ?_
    rintro us s₃ ⟨own, hps, h₃⟩
    refine ⟨own ++ [(D, tupOf [v, v'])], ⟨⟨D, v, v', rfl, by simp, hv, hv'⟩, hps.mono fun q hq => List.mem_append_left _ hq⟩, ?_⟩
    rw [List.append_assoc]; exact h₃
def Cx.kp (c : Cx) (gs : Array GenState) : Cx := { c with keep := true, s₁ := { c.s₁ with gens := gs } }
/-- a for over a written tuple of pairs -/
theorem Ex.forPairs {x y : Str} {p1 p2 p3 p4 p5 : Pos} {k k2 : Nat} {es : List Expr} {body : List Stmt} {rs : List ((Value → Prop) × (Value → Prop))} (he : EvPs c Γ es rs) (hh : c.A.handled = none)
    (hb : ∀ r ∈ rs, ∀ gs N, Xs (c.kp gs) ((y, r.2) :: (x, r.1) :: Γ) N body Γ N) (hl : Nat.ble rs.length 1000 = true)
    (hf : fresh x Γ = true) (hf2 : ∀ P, fresh y ((x, P) :: Γ) = true) (hx : c.env.kindOf x = some .local) (hy : c.env.kindOf y = some .local) (hp : (c.env.scope.kind == .class || (c.env.scope.kind == .module && c.env.locals != c.env.globals)) = false)
    (hfold : ∀ v, foldedSetIterable (.Tuple es k2 p5) c.env v = pure v) : Ex c Γ N (.For (.Tuple [.Name x p1, .Name y p2] k p3) (.Tuple es k2 p5) body [] p4) Γ N := by
  intro s hs
  obtain ⟨m0, F0⟩ := hs.fr
  refine For_turns (h₀ := c.g) F0 ?_ hfold PassesOwn.never
  refine Tuple_ (wp_then (he p5 N s hs) ?_)
  rintro vs s₁ ⟨own, hps, st⟩
  have hlen : vs.length ≤ 1000 := by
    have : ∀ {rs : List ((Value → Prop) × (Value → Prop))} {vs : List Value}, Pairs own rs vs → vs.length = rs.length := by
      intro rs
      induction rs with
      | nil => intro vs h; cases vs with
        | nil => rfl
        | cons v vs => exact h.elim
      | cons r rs ih => intro vs h; cases vs with
        | nil => exact h.elim
        | cons v vs => rw [List.length_cons, List.length_cons, ih h.2]
    rw [this hps]; exact Nat.le_of_ble_eq_true hl
  obtain ⟨h₁, tk₁, gs₁, m₁, rfl, hb₁, g₁, F₁, N₁, H₁⟩ := st
  refine kup_newTuple F₁ N₁ (fun D h₂ F₂ N₂ _ => ?_) (by rw [sizeLine_eq]; omega)
  have hD := N₂ _ (.head _)
  refine turns_tup (s := { c.s₁ with heap := h₂, toks := tk₁, gens := gs₁ }) (fun i m nx => nx = own ++ N ∧ Has m Γ) hh ⟨_, hD.1, rfl, _, rfl⟩ (fun e => hD.2.1 e.symm) F₂ (fun q hq => N₂ q (List.mem_cons_of_mem _ hq)) ⟨rfl, H₁⟩ ?_ ?_
  · rintro i v m₃ nx h₃ tk₃ own₂ I hv hown hno ⟨rfl, H₃⟩ F₃ N₃
    obtain ⟨r, hr, D', a, b, rfl, hm, ha, hb'⟩ := hps.at hv
    have st : St (c.kp gs₁) Γ (own ++ N ++ own₂) { c.s₁ with heap := h₃, toks := tk₃, gens := gs₁ } := ⟨h₃, tk₃, gs₁, m₃, rfl, (fun q => by cases q), fun _ => rfl, F₃, N₃, H₃⟩
    refine wp_then (assign2 (c := c.kp gs₁) st (List.mem_append_left _ (List.mem_append_left _ hm)) ha hb' hh hf (hf2 _) hx hy hp) fun _ s₄ h₄ => ?_
    refine wp_then (hb r (List.mem_of_getElem? hr) gs₁ _ s₄ h₄) fun f s₅ h₅ => ?_
    obtain ⟨rfl, h', tk, gs, m, rfl, hb, g, F, Nn, H⟩ := h₅
    obtain rfl := g rfl
    exact ⟨h', tk, m, _, own ++ N, rfl, F, Nn, fun q hq => List.mem_append_left _ hq, fun q hq => List.mem_append_right _ hq, hno, rfl, H⟩
  · rintro m₃ nx h₃ tk₃ ⟨rfl, H₃⟩ F₃ N₃
    exact ⟨rfl, h₃, tk₃, gs₁, m₃, rfl, hb₁, g₁, F₃, fun q hq => N₃ q (List.mem_append_right _ hq), H₃⟩
end Mine

end
section
open PySem PySem.W PySem.Calls PyProof.Rows
set_option linter.unusedVariables false
set_option maxRecDepth 100000
namespace Mine
variable {c : Cx} {Γ Γ₁ Γ' : Tys} {N N₁ N' : Led}
theorem op_gt {a b : Int} {r : Bool} (hr : decide (a > b) = r) : ∀ v v', IsI a v → IsI b v' → ∀ s Q E, Q (.bool r) s → wpAny (model c.prog c.w) c.A (compareOp .Gt v v') Q E s := by
  rintro v v' ⟨t, rfl⟩ ⟨t', rfl⟩ s Q E h; subst hr; exact gt_int h
theorem op_lt {a b : Int} {r : Bool} (hr : decide (a < b) = r) : ∀ v v', IsI a v → IsI b v' → ∀ s Q E, Q (.bool r) s → wpAny (model c.prog c.w) c.A (compareOp .Lt v v') Q E s := by
  rintro v v' ⟨t, rfl⟩ ⟨t', rfl⟩ s Q E h; subst hr; exact lt_int h
theorem Ev.and2 {a b : Expr} {p : Pos} {r r' : Bool} (ha : Ev c Γ a (IsB r)) (hb : Ev c Γ b (IsB r')) : Ev c Γ (.BoolOp .And [a, b] p) (IsB (r && r')) := fun N s hs =>
  BoolOp_and (wp_then (ha N s hs) fun v s₁ h₁ => by
    rw [show v = .bool r from h₁.1]
    refine wpAny_truthy_bool ?_
    cases r with
    | true => exact BoolOp_one (wp_then (hb N s₁ h₁.2) fun v s₂ h₂ => ⟨by rw [Bool.true_and]; exact h₂.1, h₂.2⟩)
    | false => exact ⟨rfl, h₁.2⟩)
theorem Ev.ifexp {a b d : Expr} {p : Pos} {r : Bool} {P : Value → Prop} (ht : Tr c Γ b r) (ha : r = true → Ev c Γ a P) (hd : r = false → Ev c Γ d P) : Ev c Γ (.IfExp b a d p) P := fun N s hs =>
  IfExp_ (wp_then (ht N s hs) fun v s₁ h₁ => by
    rw [h₁.1]
    cases r with
    | true => exact ha rfl N s₁ h₁.2
    | false => exact hd rfl N s₁ h₁.2)
theorem IsK.I {n k : Nat} : ∀ v, IsK n k v → IsI (k : Int) v := fun v h => h.1
/-- x[:e] -/
theorem Ev.sliceTo {a e : Expr} {p p2 : Pos} {n m k : Nat} {l : List Nat} (ha : Ev c Γ a (IsL n l)) (he : Ev c Γ e (IsK m k)) (hk : k ≤ l.length) (hn : Nat.ble n 1000000 = true)
    (hs : ∀ {x t r}, subscripted (.Slice none (some e) none p) false (.str x t) (.ref r) = operate [.ref r, .str x t] (getItem (.str x t) (.ref r)))
    (ht : ∀ {x t} r, letTemporaryGo a (.str x t) r = pure ()) : Ev c Γ (.Subscript a (.Slice none (some e) none p) p2) (IsL n (l.take k)) := by
  intro N s hs'
  refine Subscript_ (wp_then (ha N s hs') ?_)
  rintro v s₁ ⟨⟨⟨t, rfl⟩, hl⟩, h₁⟩
  refine wpAny_Slice (evalPart_none_step (evalPart_some_step (wp_then (he N s₁ h₁) ?_)))
  rintro v s₂ ⟨⟨⟨t', rfl⟩, hm⟩, h₂⟩
  refine evalPart_none_step ?_
  obtain ⟨h', tk, gs, m', rfl, hb, g, F, Nn, H⟩ := h₂
  have := Nat.le_of_ble_eq_true hn
  refine slice_strN_ns (s := { c.s₁ with heap := h', toks := tk, gens := gs }) F Nn (fun h₃ t₃ k₃ F₃ N₃ => ?_) hs ht (by rw [S_len, sizeLine_eq]; omega)
  refine ⟨⟨⟨t₃, by rw [slice_take l k hk]⟩, by rw [List.length_take]; omega⟩, h₃, k₃, gs, m', rfl, hb, g, F₃, N₃, H⟩
/-- x[e:] -/
theorem Ev.sliceFrom {a e : Expr} {p p2 : Pos} {n m k : Nat} {l : List Nat} (ha : Ev c Γ a (IsL n l)) (he : Ev c Γ e (IsK m k)) (hk : k ≤ l.length) (hn : Nat.ble n 1000000 = true)
    (hs : ∀ {x t r}, subscripted (.Slice (some e) none none p) false (.str x t) (.ref r) = operate [.ref r, .str x t] (getItem (.str x t) (.ref r)))
    (ht : ∀ {x t} r, letTemporaryGo a (.str x t) r = pure ()) : Ev c Γ (.Subscript a (.Slice (some e) none none p) p2) (IsL n (l.drop k)) := by
  intro N s hs'
  refine Subscript_ (wp_then (ha N s hs') ?_)
  rintro v s₁ ⟨⟨⟨t, rfl⟩, hl⟩, h₁⟩
  refine wpAny_Slice (evalPart_some_step (wp_then (he N s₁ h₁) ?_))
  rintro v s₂ ⟨⟨⟨t', rfl⟩, hm⟩, h₂⟩
  refine evalPart_none_step (evalPart_none_step ?_)
  obtain ⟨h', tk, gs, m', rfl, hb, g, F, Nn, H⟩ := h₂
  have := Nat.le_of_ble_eq_true hn
  refine slice_strN_sn (s := { c.s₁ with heap := h', toks := tk, gens := gs }) F Nn (fun h₃ t₃ k₃ F₃ N₃ => ?_) hs ht (by rw [S_len, sizeLine_eq]; omega)
  refine ⟨⟨⟨t₃, by rw [slice_drop l k hk]⟩, by rw [List.length_drop]; omega⟩, h₃, k₃, gs, m', rfl, hb, g, F₃, N₃, H⟩
theorem Ev.fdiv {a b : Expr} {p : Pos} {n m i j : Nat} (ha : Ev c Γ a (IsK n i)) (hb : Ev c Γ b (IsK m j)) (hj : j ≠ 0) (hn : (Nat.ble n 1000000 && Nat.ble m 1000000) = true) : Ev c Γ (.BinOp a .FloorDiv b p) (IsK n (i / j)) := by
  refine Ev.bin ha hb ?_
  rintro v v' ⟨⟨t, rfl⟩, hi⟩ ⟨⟨t', rfl⟩, hjm⟩ N s hst
  rw [Bool.and_eq_true] at hn
  have := Nat.le_of_ble_eq_true hn.1
  have := Nat.le_of_ble_eq_true hn.2
  refine floordiv_int (by omega) ⟨⟨⟨s.toks, ?_⟩, Nat.le_trans (Nat.div_le_self i j) hi⟩, hst.toks _⟩ (Or.inl (PyProof.noPylong_small (by omega)))
  rw [Int.fdiv_eq_ediv_of_nonneg _ (by omega)]; rfl
theorem Ev.mod {a b : Expr} {p : Pos} {n m i j : Nat} (ha : Ev c Γ a (IsK n i)) (hb : Ev c Γ b (IsK m j)) (hj : j ≠ 0) (hn : (Nat.ble n 1000000 && Nat.ble m 1000000) = true) : Ev c Γ (.BinOp a .Mod b p) (IsK n (i % j)) := by
  refine Ev.bin ha hb ?_
  rintro v v' ⟨⟨t, rfl⟩, hi⟩ ⟨⟨t', rfl⟩, hjm⟩ N s hst
  rw [Bool.and_eq_true] at hn
  have := Nat.le_of_ble_eq_true hn.1
  have := Nat.le_of_ble_eq_true hn.2
  refine mod_int' (by omega) ⟨⟨⟨s.toks, ?_⟩, Nat.le_trans (Nat.mod_le i j) hi⟩, hst.toks _⟩
  rw [Int.fmod_eq_emod_of_nonneg _ (by omega)]; rfl
theorem Ev.sub {a b : Expr} {p : Pos} {i j : Int} (ha : Ev c Γ a (IsI i)) (hb : Ev c Γ b (IsI j)) : Ev c Γ (.BinOp a .Sub b p) (IsI (i - j)) := by
  refine Ev.bin ha hb ?_
  rintro v v' ⟨t, rfl⟩ ⟨t', rfl⟩ N s hst
  exact sub_int ⟨⟨_, rfl⟩, hst.toks _⟩
theorem Ev.eqB {e : Expr} {r r' : Bool} (h : Ev c Γ e (IsB r)) (he : r = r') : Ev c Γ e (IsB r') := he ▸ h
end Mine

end
section
open PySem PySem.W PySem.Calls PyProof.Rows
set_option linter.unusedVariables false
set_option maxRecDepth 100000
namespace Mine
variable {c : Cx} {Γ Γ₁ Γ' : Tys} {N N₀ N₁ N' : Led}
/-- a block that hands back a value -/
def Rt (c : Cx) (N₀ : Led) (Γ : Tys) (N : Led) (l : List Stmt) (P : Value → Led → Prop) : Prop := ∀ s, St c Γ N s → wpAny (model c.prog c.w) c.A (execs l c.env) (fun f s' => ∃ v own, f = .ret v ∧ P v own ∧ (∀ p ∈ own, ∀ q ∈ N₀, q.1 < p.1) ∧ St c [] (own ++ N₀) s') noE s
theorem Rt.cons {st : Stmt} {l : List Stmt} {P : Value → Led → Prop} (h : Ex c Γ N st Γ₁ N₁) (hr : Rt c N₀ Γ₁ N₁ l P) : Rt c N₀ Γ N (st :: l) P := fun s hs =>
  wpAny_execs_cons (wp_then (h s hs) fun f s₁ h₁ => by rw [h₁.1]; exact hr s₁ h₁.2)
theorem Rt.ret {e : Expr} {p : Pos} {l : List Stmt} {R : Value → Prop} (he : Ev c Γ e R) (hs : ∀ q ∈ N₀, q ∈ N) : Rt c N₀ Γ N (.Return (some e) p :: l) (fun v own => R v ∧ own = []) := fun s h =>
  wpAny_execs_cons (wpAny_Return_some (wp_then (he N s h) fun v s₁ h₁ => ⟨v, [], rfl, ⟨h₁.1, rfl⟩, (fun _ q => nomatch q), (h₁.2.weak (Γ' := []) fun _ q => nomatch q).led hs⟩))
theorem Rt.retN {e : Expr} {p : Pos} {l : List Stmt} {R : Value → Led → Prop} (he : EvN c Γ e R) : Rt c N Γ N (.Return (some e) p :: l) R := fun s h =>
  wpAny_execs_cons (wpAny_Return_some (wp_then (he N s h) fun v s₁ ⟨own, hv, hl, h₁⟩ => ⟨v, own, rfl, hv, hl, h₁.weak (Γ' := []) fun _ q => nomatch q⟩))
theorem Rt.if1 {t : Expr} {body orelse : List Stmt} {p : Pos} {l : List Stmt} {P : Value → Led → Prop} (ht : Tr c Γ t true) (h : Rt c N₀ Γ N body P) : Rt c N₀ Γ N (.If t body orelse p :: l) P := fun s hs =>
  wpAny_execs_cons (wpAny_If (wp_then (ht N s hs) fun b s₁ h₁ => by
    rw [h₁.1]
    exact wp_then (h s₁ h₁.2) fun f s₂ ⟨v, own, hf, r⟩ => by subst hf; exact ⟨v, own, rfl, r⟩))
theorem Rt.mono {l : List Stmt} {P P' : Value → Led → Prop} (h : Rt c N₀ Γ N l P) (k : ∀ v own, P v own → P' v own) : Rt c N₀ Γ N l P' := fun s hs =>
  wp_then (h s hs) fun f s₁ ⟨v, own, hf, hp, r⟩ => ⟨v, own, hf, k v own hp, r⟩
/-- what a def's body may use -/
def Rm (c : Cx) (p : Program) (n : Nat) : Prop :=
  c.A.handled = none ∧ Fnc c p n ∧ c.K.In c.g ∧ (∀ x v, nsIn c.K mainGlobals x = some (some v) → c.env.kindOf x = some .globalImplicit → (x == ("__debug__" : Str)) = false → Gl c x v) ∧
    (∀ x v, nsIn c.K mainGlobals x = some none → bootBuiltins x = some v → x ≠ "__name__" → c.env.kindOf x = some .globalImplicit → (x == ("__debug__" : Str)) = false → Gl c x v)
theorem Rm.fc {p : Program} {n : Nat} (R : Rm c p n) {x : Str} {f : Value} (h : nsIn c.K mainGlobals x = some (some f)) (hk : c.env.kindOf x = some .globalImplicit) (hd : (x == ("__debug__" : Str)) = false) (hf : keepIn c.K f = true) : Fc c x f := ⟨R.2.2.2.1 x f h hk hd, hf, R.2.2.1⟩
theorem Fn.of_rt {prog : Program} {w : World} {K : Frag} {p : Program} {f : Addr} {n : Nat} {vs : List Value} {P : Value → Led → Prop}
    {name qual : Str} {params : Arguments} {body : List Stmt} {scope : PySem.Scope} {dV kV doc pm cdv ct oc : Value} {an od : Option Addr} {osl : Array (Option Value)} {binds : List (Str × Value)}
    (ho : K.lookup f = some ⟨oc, od, .func (fnOf name qual params body scope dV kV doc pm an cdv ct), osl⟩) (hcd : codeIn K cdv qual = true)
    (hbind : ∀ s, BindsTo s (fnOf name qual params body scope dV kV doc pm an cdv ct) ⟨vs, []⟩ binds) (hloc : ∀ y ∈ binds, scope.names.lookup y.1 = some .local) (Γ : Tys) (hΓ : Has (fun y => binds.reverse.lookup y) Γ)
    (hco : scope.isCoroutine = false) (hgen : scope.isGenerator = false) (hk : scope.kind = .function) (hcell : ∀ x ∈ scope.names, x.2 ≠ .cell)
    (hr : ∀ A L' g s, Rm ⟨prog, w, A, envOf qual scope L' f cdv, g, s, K, true⟩ p n → ∀ N, Rt ⟨prog, w, A, envOf qual scope L' f cdv, g, s, K, true⟩ N Γ N body P) : Fn prog w K p f (n + 1) vs P := by
  intro loose mean mg mb dp un gd cn cs a ccd cl outer A₀ base h₀ L m news s Q E B F X N T hkk hd hu ret
  refine wpAny_call ?_
  refine W.code_def (env := envX cn cs L a ccd cl) (outer := outer) B F X N T rfl rfl hkk ho hcd (by show dp < recursionLimit; omega) (hbind s) hloc ?_ hco hgen hk hcell
  intro g L' h₁ FG F' N' B' X' T'
  have T'' := topRead_of T'
  have R : Rm ⟨prog, w, (ktrTop dp un gd cn cs L a ccd cl outer).deeper (envOf qual scope L' f cdv), envOf qual scope L' f cdv, g, s, K, true⟩ p n :=
    ⟨rfl, ⟨loose, mean, mg, mb, dp + 1, un + 3, gd, qual, scope, f, cdv, [], envX cn cs L a ccd cl :: outer, _, base, rfl, B', X', T', hk, by omega, by omega⟩, X',
      fun x v e hx hdd pp s' m' Q' E' F₁ hq => nameX_K F₁ X' T'' e hq hk hx hdd, fun x v e hv hne hx hdd pp s' m' Q' E' F₁ hq => nameX_B F₁ X' T'' e hv hne hq hk hx hdd⟩
  refine wpAny_mono (hr _ _ _ _ R news { s with heap := h₁, toks := s.toks + binds.length } ⟨h₁, _, s.gens, _, rfl, (fun q => by cases q), fun _ => rfl, F', N', hΓ⟩) ?_ (fun _ _ e => e.elim)
  rintro fl s' ⟨v, own, rfl, hP, hl, h', tk', gs, m', rfl, _, hg, F₂, N₂, _⟩
  obtain rfl := hg rfl
  exact leaveK_ F₂ N₂ fun F₃ N₃ => ret v own h' tk' hP F₃ N₃ hl
theorem Rm.gint {p : Program} {n : Nat} (R : Rm c p n) {x : Str} {i : Int} {t : Tok} {pp : Pos} (h : nsIn c.K mainGlobals x = some (some (.int i t))) (hk : c.env.kindOf x = some .globalImplicit) (hd : (x == ("__debug__" : Str)) = false) : Ev c Γ (.Name x pp) (IsI i) :=
  Ev.mono (Ev.gl (R.2.2.2.1 x _ h hk hd)) fun v e => ⟨t, e⟩
/-- any text -/
def IsX (x : Str) : Value → Prop := fun v => ∃ t, v = .str x t
theorem IsL.X {n : Nat} {l : List Nat} : ∀ v, IsL n l v → IsX (S l) v := fun v h => h.1
theorem op_eq_X {x y : Str} {r : Bool} (hr : (x == y) = r) : ∀ v v', IsX x v → IsX y v' → ∀ s Q E, Q (.bool r) s → wpAny (model c.prog c.w) c.A (compareOp .Eq v v') Q E s := by
  rintro v v' ⟨t, rfl⟩ ⟨t', rfl⟩ s Q E h
  subst hr
  exact PyProof.Rows.eq_str h
/-- a method of a text, without arguments -/
theorem Ev.lower {a : Expr} {p p2 : Pos} {x : Str} {pl : Sem Bool} (ha : Ev c Γ a (IsX x)) (hl : x.length ≤ 1000)
    (he : eval (.Call (.Attribute a "lower" p) [] [] p2) c.env = (do
      let ov ← eval a c.env
      standAt p.atName
      let (f, first) ← holding [ov] (getMethod ov "lower" pl)
      callWith p2 f first (backTo p2 (starEach [] c.env)) [])) : Ev c Γ (.Call (.Attribute a "lower" p) [] [] p2) (IsX (Txt.lower x)) := by
  intro N s hs
  refine MethodCall_ (pl := pl) (wp_then (ha N s hs) ?_) he
  rintro v s₁ ⟨⟨t, rfl⟩, h₁⟩
  refine GM.lower (callWith_method0 ?_)
  exact SCL.lower (by have := sizeLine_eq; omega) fun _ => ⟨⟨_, rfl⟩, h₁.toks _⟩
end Mine

end
section
open PySem PySem.W PySem.Calls PyProof.Rows
set_option linter.unusedVariables false
set_option maxRecDepth 100000
namespace Mine
variable {c : Cx} {Γ Γ₁ Γ' : Tys} {N N₀ N₁ N' : Led} {Q : Flow → Shared → Prop}
/-- a block, by what is wanted behind it -/
def Bl (c : Cx) (Γ : Tys) (N : Led) (l : List Stmt) (Q : Flow → Shared → Prop) : Prop := ∀ s, St c Γ N s → wpAny (model c.prog c.w) c.A (execs l c.env) Q noE s
def RetP (c : Cx) (N₀ : Led) (P : Value → Led → Prop) : Flow → Shared → Prop := fun f s' => ∃ v own, f = .ret v ∧ P v own ∧ (∀ p ∈ own, ∀ q ∈ N₀, q.1 < p.1) ∧ St c [] (own ++ N₀) s'
theorem Rt.of {l : List Stmt} {P : Value → Led → Prop} (h : Bl c Γ N l (RetP c N₀ P)) : Rt c N₀ Γ N l P := h
theorem Bl.cons {st : Stmt} {l : List Stmt} (h : Ex c Γ N st Γ₁ N₁) (hr : Bl c Γ₁ N₁ l Q) : Bl c Γ N (st :: l) Q := fun s hs =>
  wpAny_execs_cons (wp_then (h s hs) fun f s₁ h₁ => by rw [h₁.1]; exact hr s₁ h₁.2)
theorem Bl.nil (h : ∀ s, St c Γ N s → Q .next s) : Bl c Γ N [] Q := fun s hs => wpAny_execs_nil (h s hs)
theorem Bl.ret {e : Expr} {p : Pos} {l : List Stmt} {P : Value → Led → Prop} {R : Value → Prop} (he : Ev c Γ e R) (hP : ∀ v, R v → P v []) (hs : ∀ q ∈ N₀, q ∈ N) : Bl c Γ N (.Return (some e) p :: l) (RetP c N₀ P) := fun s h =>
  wpAny_execs_cons (wpAny_Return_some (wp_then (he N s h) fun v s₁ h₁ => ⟨v, [], rfl, hP v h₁.1, (fun _ q => nomatch q), (h₁.2.weak (Γ' := []) fun _ q => nomatch q).led hs⟩))
theorem Bl.if1 {t : Expr} {body orelse : List Stmt} {p : Pos} {l : List Stmt} {P : Value → Led → Prop} (ht : Tr c Γ t true) (h : Bl c Γ N body (RetP c N₀ P)) : Bl c Γ N (.If t body orelse p :: l) (RetP c N₀ P) := Rt.if1 ht h
theorem Bl.if1r {t : Expr} {body orelse : List Stmt} {p : Pos} {l : List Stmt} (ht : Tr c Γ t true) (h : Bl c Γ N body (fun f s => ∃ v, f = .ret v ∧ Q f s)) : Bl c Γ N (.If t body orelse p :: l) Q := fun s hs =>
  wpAny_execs_cons (wpAny_If (wp_then (ht N s hs) fun b s₁ h₁ => by
    rw [h₁.1]
    exact wp_then (h s₁ h₁.2) fun f s₂ ⟨v, hf, r⟩ => by subst hf; exact r))
theorem Bl.weak {l : List Stmt} (hs : ∀ q ∈ Γ₁, q ∈ Γ) (h : Bl c Γ₁ N l Q) : Bl c Γ N l Q := fun s h' => h s (h'.weak hs)
theorem Bl.led {l : List Stmt} (hs : ∀ q ∈ N₁, q ∈ N) (h : Bl c Γ N₁ l Q) : Bl c Γ N l Q := fun s h' => h s (h'.led hs)
/-- tests -/
def TrA (c : Cx) (Γ : Tys) (o : BoolOp) (es : List Expr) (p : Pos) (r : Bool) : Prop := ∀ whole N s, St c Γ N s → wpAny (model c.prog c.w) c.A (isTrue (.BoolOp o es p) c.env whole) (fun b' s' => b' = r ∧ St c Γ N s') noE s
theorem Tr.of {o : BoolOp} {es : List Expr} {p : Pos} {r : Bool} (h : TrA c Γ o es p r) : Tr c Γ (.BoolOp o es p) r := h _
theorem TrA.and_nil {p : Pos} : TrA c Γ .And [] p true := fun whole N s hs => isTrue_and_nil ⟨rfl, hs⟩
theorem TrA.or_nil {p : Pos} : TrA c Γ .Or [] p false := fun whole N s hs => isTrue_or_nil ⟨rfl, hs⟩
theorem TrA.and {e : Expr} {es : List Expr} {p : Pos} {r r' : Bool} (h : Tr c Γ e r) (hr : r = true → TrA c Γ .And es p r') : TrA c Γ .And (e :: es) p (r && r') := fun whole N s hs =>
  isTrue_and (wp_then (h N s hs) fun b s₁ h₁ => by
    rw [h₁.1]
    cases r with
    | true => exact wp_then (hr rfl whole N s₁ h₁.2) fun b' s₂ h₂ => ⟨by rw [Bool.true_and]; exact h₂.1, h₂.2⟩
    | false => exact ⟨rfl, h₁.2⟩)
theorem TrA.or {e : Expr} {es : List Expr} {p : Pos} {r r' : Bool} (h : Tr c Γ e r) (hr : r = false → TrA c Γ .Or es p r') : TrA c Γ .Or (e :: es) p (r || r') := fun whole N s hs =>
  isTrue_or (wp_then (h N s hs) fun b s₁ h₁ => by
    rw [h₁.1]
    cases r with
    | false => exact wp_then (hr rfl whole N s₁ h₁.2) fun b' s₂ h₂ => ⟨by rw [Bool.false_or]; exact h₂.1, h₂.2⟩
    | true => exact ⟨rfl, h₁.2⟩)
theorem Tr.not {e : Expr} {p : Pos} {r : Bool} (h : Tr c Γ e r) : Tr c Γ (.UnaryOp .Not e p) (!r) := fun N s hs => isTrue_not (wp_then (h N s hs) fun b s₁ h₁ => ⟨by rw [h₁.1], h₁.2⟩)
theorem Tr.text {e : Expr} {n : Nat} {l : List Nat} {r : Bool} (h : Ev c Γ e (IsL n l)) (hn : Nat.ble n 1000000 = true) (hr : (l.length != 0) = r) (he : isTrue e c.env (eval e c.env) = (do let v ← eval e c.env; standAt e.pos; holding [v] (truthy v))) : Tr c Γ e r := fun N s hs =>
  isTrue_plain (wp_then (h N s hs) fun v s₁ h₁ => by
    obtain ⟨⟨⟨t, rfl⟩, hl⟩, h₂⟩ := h₁
    have := Nat.le_of_ble_eq_true hn
    refine SBL.truthy (by rw [S_len]; omega) ⟨?_, h₂.toks _⟩
    subst hr
    rw [S_len, Bool.eq_iff_iff]
    simp) he
/-- ints -/
theorem Ev.addI {a b : Expr} {p : Pos} {i j : Int} (ha : Ev c Γ a (IsI i)) (hb : Ev c Γ b (IsI j)) : Ev c Γ (.BinOp a .Add b p) (IsI (i + j)) := by
  refine Ev.bin ha hb ?_
  rintro v v' ⟨t, rfl⟩ ⟨t', rfl⟩ N s hst
  exact add_int ⟨⟨_, rfl⟩, hst.toks _⟩
theorem Ev.addK {a b : Expr} {p : Pos} {n m i j : Nat} (ha : Ev c Γ a (IsK n i)) (hb : Ev c Γ b (IsK m j)) : Ev c Γ (.BinOp a .Add b p) (IsK (n + m) (i + j)) := by
  refine Ev.bin ha hb ?_
  rintro v v' ⟨⟨t, rfl⟩, hi⟩ ⟨⟨t', rfl⟩, hj⟩ N s hst
  exact add_int ⟨⟨⟨s.toks, by rw [Int.natCast_add]⟩, Nat.add_le_add hi hj⟩, hst.toks _⟩
theorem Ev.subK {a b : Expr} {p : Pos} {n m i j : Nat} (ha : Ev c Γ a (IsK n i)) (hb : Ev c Γ b (IsK m j)) (hij : j ≤ i) : Ev c Γ (.BinOp a .Sub b p) (IsK n (i - j)) := by
  refine Ev.bin ha hb ?_
  rintro v v' ⟨⟨t, rfl⟩, hi⟩ ⟨⟨t', rfl⟩, hj⟩ N s hst
  exact sub_int ⟨⟨⟨s.toks, by rw [Int.ofNat_sub hij]⟩, Nat.le_trans (Nat.sub_le i j) hi⟩, hst.toks _⟩
theorem Ev.mulK {a b : Expr} {p : Pos} {n m i j : Nat} (ha : Ev c Γ a (IsK n i)) (hb : Ev c Γ b (IsK m j)) (hs : (Nat.ble n 100000 && Nat.ble m 100000) = true) : Ev c Γ (.BinOp a .Mult b p) (IsK (n * m) (i * j)) := by
  refine Ev.bin ha hb ?_
  rintro v v' ⟨⟨t, rfl⟩, hi⟩ ⟨⟨t', rfl⟩, hj⟩ N s hst
  rw [Bool.and_eq_true] at hs
  have h1 := Nat.le_of_ble_eq_true hs.1
  have h2 := Nat.le_of_ble_eq_true hs.2
  exact mul_int ⟨⟨⟨s.toks, by rw [Int.natCast_mul]⟩, Nat.mul_le_mul hi hj⟩, hst.toks _⟩ (IntMulOk.of_left (intBits_le_64 (by omega) (by omega)))
theorem Ev.intK {i : Nat} {k : Nat} {p : Pos} : Ev c Γ (.Constant (.int (i : Int)) k p) (IsK i i) := fun N s hs => wpAny_Constant_int ⟨⟨⟨_, rfl⟩, Nat.le_refl i⟩, hs.toks _⟩
theorem Ev.toK {e : Expr} {i n : Nat} (h : Ev c Γ e (IsI i)) (hk : i ≤ n) : Ev c Γ e (IsK n i) := Ev.mono h fun v h => ⟨h, hk⟩
theorem Ev.I {e : Expr} {i n : Nat} (h : Ev c Γ e (IsK n i)) : Ev c Γ e (IsI (i : Int)) := Ev.mono h IsK.I
theorem Ev.eqI {e : Expr} {i j : Int} (h : Ev c Γ e (IsI i)) (hij : i = j) : Ev c Γ e (IsI j) := hij ▸ h
/-- x op= e -/
theorem Ex.aug {x : Str} {p p2 : Pos} {o : Operator} {e : Expr} {P P' R : Value → Prop} (hm : (x, P) ∈ Γ) (he : Ev c Γ e P') (hop : ∀ v v', P v → P' v' → ∀ N s, St c Γ N s → wpAny (model c.prog c.w) c.A (inplaceOp o v v') (fun v s' => R v ∧ St c Γ N s') noE s)
    (hsub : ∀ q ∈ Γ', q ∈ Γ) (hf : fresh x Γ' = true) (hkf : c.env.scope.kind = .function) (hx : c.env.kindOf x = some .local) (hp : (c.env.scope.kind == .class || (c.env.scope.kind == .module && c.env.locals != c.env.globals)) = false) : Ex c Γ N (.AugAssign (.Name x p) o e p2) ((x, R) :: Γ') N := by
  intro s hs
  refine wpAny_AugAssign_Name ?_
  have hs0 := hs
  obtain ⟨h', tk, gs, m, rfl, hb, g, F, Nn, H⟩ := hs
  obtain ⟨v, hv, hP⟩ := H _ hm
  refine wpAny_loadName_local hkf hx F.ns hv ?_
  exact wp_then (he N _ hs0) fun v' s₂ h₂ => wp_then (hop v v' hP h₂.1 N s₂ h₂.2) fun r s₃ h₃ => wp_then ((h₃.2.weak hsub).set h₃.1 hf hx hp) fun _ s₄ h₄ => ⟨rfl, h₄⟩
theorem iop_addI {i j : Int} : ∀ v v', IsI i v → IsI j v' → ∀ N s, St c Γ N s → wpAny (model c.prog c.w) c.A (inplaceOp .Add v v') (fun v s' => IsI (i + j) v ∧ St c Γ N s') noE s := by
  rintro v v' ⟨t, rfl⟩ ⟨t', rfl⟩ N s hst; exact iadd_int ⟨⟨_, rfl⟩, hst.toks _⟩
theorem iop_subI {i j : Int} : ∀ v v', IsI i v → IsI j v' → ∀ N s, St c Γ N s → wpAny (model c.prog c.w) c.A (inplaceOp .Sub v v') (fun v s' => IsI (i - j) v ∧ St c Γ N s') noE s := by
  rintro v v' ⟨t, rfl⟩ ⟨t', rfl⟩ N s hst; exact isub_int ⟨⟨_, rfl⟩, hst.toks _⟩
/-- x[k], x[-k] -/
theorem Ev.item {a e : Expr} {p : Pos} {n k : Nat} {l : List Nat} (ha : Ev c Γ a (IsL n l)) (he : Ev c Γ e (IsI (k : Int))) (hk : k < l.length) (hn : Nat.ble n 1000000 = true)
    (hs : ∀ {x t i u}, subscripted e false (.str x t) (.int i u) = operate [.str x t, .int i u] (getItem (.str x t) (.int i u))) (ht : ∀ {x t} r, letTemporaryGo a (.str x t) r = pure ()) : Ev c Γ (.Subscript a e p) (IsL 1 [l[k]]) := by
  intro N s hs'
  refine Subscript_ (wp_then (ha N s hs') ?_)
  rintro v s₁ ⟨⟨⟨t, rfl⟩, hl⟩, h₁⟩
  refine wp_then (he N s₁ h₁) ?_
  rintro v s₂ ⟨⟨t', rfl⟩, h₂⟩
  have := Nat.le_of_ble_eq_true hn
  exact item_str (fitsSsize_of (N := 10000000) (by omega) (by omega) (by decide)) (by rw [S_len]; omega) (by rw [S_len]; omega) (fun _ => ⟨⟨⟨_, by rw [item_at l k hk]⟩, Nat.le_refl _⟩, h₂.toks _⟩) hs ht
theorem Ev.itemN {a e : Expr} {p : Pos} {n k : Nat} {l : List Nat} (ha : Ev c Γ a (IsL n l)) (he : Ev c Γ e (IsI (-(k : Int)))) (h0 : 1 ≤ k) (hk : k ≤ l.length) (hn : Nat.ble n 1000000 = true)
    (hs : ∀ {x t i u}, subscripted e false (.str x t) (.int i u) = operate [.str x t, .int i u] (getItem (.str x t) (.int i u))) (ht : ∀ {x t} r, letTemporaryGo a (.str x t) r = pure ()) : Ev c Γ (.Subscript a e p) (IsL 1 [l[l.length - k]]) := by
  intro N s hs'
  refine Subscript_ (wp_then (ha N s hs') ?_)
  rintro v s₁ ⟨⟨⟨t, rfl⟩, hl⟩, h₁⟩
  refine wp_then (he N s₁ h₁) ?_
  rintro v s₂ ⟨⟨t', rfl⟩, h₂⟩
  have := Nat.le_of_ble_eq_true hn
  exact item_str (fitsSsize_of (N := 10000000) (by omega) (by omega) (by decide)) (by rw [S_len]; omega) (by rw [S_len]; omega) (fun _ => ⟨⟨⟨_, by rw [item_neg l k h0 hk]⟩, Nat.le_refl _⟩, h₂.toks _⟩) hs ht
/-- x[:e], e None or negative -/
theorem Ev.sliceN {a e : Expr} {p p2 : Pos} {n k : Nat} {l : List Nat} (ha : Ev c Γ a (IsL n l)) (he : Ev c Γ e (fun v => (k = 0 ∧ v = .none) ∨ (1 ≤ k ∧ IsI (-(k : Int)) v))) (hk : k ≤ l.length) (hn : Nat.ble n 1000000 = true)
    (hs : ∀ {x t r}, subscripted (.Slice none (some e) none p) false (.str x t) (.ref r) = operate [.ref r, .str x t] (getItem (.str x t) (.ref r)))
    (ht : ∀ {x t} r, letTemporaryGo a (.str x t) r = pure ()) : Ev c Γ (.Subscript a (.Slice none (some e) none p) p2) (IsL n (l.take (l.length - k))) := by
  intro N s hs'
  refine Subscript_ (wp_then (ha N s hs') ?_)
  rintro v s₁ ⟨⟨⟨t, rfl⟩, hl⟩, h₁⟩
  refine wpAny_Slice (evalPart_none_step (evalPart_some_step (wp_then (he N s₁ h₁) ?_)))
  rintro v s₂ ⟨hv, h₂⟩
  refine evalPart_none_step ?_
  obtain ⟨h', tk, gs, m', rfl, hb, g, F, Nn, H⟩ := h₂
  have hfit : (S l).length ≤ sizeLine := by have := Nat.le_of_ble_eq_true hn; rw [S_len, sizeLine_eq]; omega
  rcases hv with ⟨h0, rfl⟩ | ⟨h0, t', rfl⟩
  · subst h0
    refine slice_strN_nn (s := { c.s₁ with heap := h', toks := tk, gens := gs }) F Nn (fun h₃ t₃ k₃ F₃ N₃ => ?_) hs ht hfit
    exact ⟨⟨⟨t₃, by rw [slice_all, Nat.sub_zero, List.take_length]⟩, by rw [List.length_take]; omega⟩, h₃, k₃, gs, m', rfl, hb, g, F₃, N₃, H⟩
  · refine slice_strN_ns (s := { c.s₁ with heap := h', toks := tk, gens := gs }) F Nn (fun h₃ t₃ k₃ F₃ N₃ => ?_) hs ht hfit
    exact ⟨⟨⟨t₃, by rw [slice_cut l k h0 hk]⟩, by rw [List.length_take]; omega⟩, h₃, k₃, gs, m', rfl, hb, g, F₃, N₃, H⟩
/-- e or None -/
theorem Ev.orNone {e : Expr} {p p2 : Pos} {kk k : Nat} (he : Ev c Γ e (IsI (-(k : Int)))) : Ev c Γ (.BoolOp .Or [e, .Constant .none kk p2] p) (fun v => (k = 0 ∧ v = .none) ∨ (1 ≤ k ∧ IsI (-(k : Int)) v)) := by
  intro N s hs
  refine BoolOp_or (wp_then (he N s hs) ?_)
  rintro v s₁ ⟨⟨t, rfl⟩, h₁⟩
  refine truthy_int ?_
  rcases Nat.eq_zero_or_pos k with h0 | h0
  · subst h0
    exact BoolOp_one (wpAny_Constant_none ⟨.inl ⟨rfl, rfl⟩, h₁⟩)
  · rw [show ((-(k : Int)) != 0) = true by rw [bne_iff_ne]; omega]
    exact ⟨.inr ⟨h0, t, rfl⟩, h₁⟩
end Mine

end
section
open PySem PySem.W PySem.Calls PyProof.Rows
set_option linter.unusedVariables false
set_option maxRecDepth 100000
namespace Mine
variable {c : Cx} {Γ Γ₁ Γ' : Tys} {N N₀ N₁ N' : Led} {Q : Flow → Shared → Prop}
theorem Bl.while {α : Type} {t : Expr} {body l : List Stmt} {p : Pos} (Γf : α → Tys) (ms : α → Nat) (bt : α → Bool) (nx : α → α) (Inv : α → Prop) {a₀ : α} (hkp : c.keep = true) (h0 : Inv a₀) (ht : ∀ a, Inv a → Tr c (Γf a) t (bt a))
    (hb : ∀ a, Inv a → bt a = true → Xs c (Γf a) N body (Γf (nx a)) N) (hn : ∀ a, Inv a → bt a = true → Inv (nx a) ∧ ms (nx a) < ms a) (hk : ∀ a, Inv a → bt a = false → Bl c (Γf a) N l Q) : Bl c (Γf a₀) N (.While t body [] p :: l) Q := by
  intro s hs
  obtain ⟨h', tk, gs, m, rfl, hbr, g, F, Nn, H⟩ := hs
  refine wpAny_execs_cons (While_out (h₀ := c.g) (n₀ := ms a₀) (s := { c.s₁ with heap := h', toks := tk, gens := gs }) (fun n m nx => nx = N ∧ ∃ a, ms a = n ∧ Inv a ∧ Has m (Γf a)) (fun m nx => nx = N ∧ ∃ a, Inv a ∧ bt a = false ∧ Has m (Γf a)) F Nn ⟨rfl, a₀, rfl, h0, H⟩ ?_ ?_ PassesOwn.never)
  · rintro n m₁ nx₁ h₁ tk₁ F₁ N₁ ⟨rfl, a, rfl, hI, H₁⟩
    refine wp_then (ht a hI _ _ ⟨h₁, tk₁, gs, m₁, rfl, hbr, g, F₁, N₁, H₁⟩) ?_
    rintro b s₂ ⟨rfl, h₂⟩
    cases hbt : bt a with
    | true =>
      rw [if_pos rfl]
      refine wp_then (hb a hI hbt _ h₂) ?_
      rintro f s₃ ⟨rfl, h'', tk'', gs'', m'', rfl, hb'', g'', F'', N'', H''⟩
      obtain rfl : gs'' = gs := (g'' hkp).trans (g hkp).symm
      exact ⟨rfl, h'', tk'', m'', _, _, rfl, F'', N'', (hn a hI hbt).2, rfl, nx a, rfl, (hn a hI hbt).1, H''⟩
    | false =>
      rw [if_neg (by simp)]
      obtain ⟨h'', tk'', gs'', m'', rfl, hb'', g'', F'', N'', H''⟩ := h₂
      obtain rfl : gs'' = gs := (g'' hkp).trans (g hkp).symm
      exact ⟨h'', tk'', m'', _, rfl, F'', N'', rfl, a, hI, hbt, H''⟩
  · rintro m₁ nx₁ h₁ tk₁ ⟨rfl, a, hI, hbt, H₁⟩ F₁ N₁
    exact hk a hI hbt _ ⟨h₁, tk₁, gs, m₁, rfl, hbr, g, F₁, N₁, H₁⟩
/-- what a turn is to leave -/
def TurnP (Q : Flow → Shared → Prop) (S : Shared → Prop) : Flow → Shared → Prop := fun f s' => match f with | .ret v => Q (.ret v) s' | .next => S s' | _ => False
theorem turnCases {S : Shared → Prop} {f : Flow} {s : Shared} (h : TurnP Q S f s) : (∃ v, f = .ret v ∧ Q (.ret v) s) ∨ (f = .next ∧ S s) := by
  cases f with
  | ret v => exact .inl ⟨v, rfl, h⟩
  | next => exact .inr ⟨rfl, h⟩
  | brk => exact h.elim
  | cont => exact h.elim
theorem Bl.forRange {α : Type} {x : Str} {p1 p2 p3 p4 : Pos} {e : Expr} {body l : List Stmt} {n m : Nat} (Γf : Nat → α → Tys) (Nf : Nat → α → Led) (Inv : Nat → α → Prop) {a₀ : α} (hkp : c.keep = true) (hh : c.A.handled = none)
    (hr : Gl c "range" (.type "range")) (he : Ev c (Γf 0 a₀) e (IsK m n)) (hm : Nat.ble m 1000000 = true) (h0 : Inv 0 a₀) (hadr : ∀ i a a', Inv i a → Inv (i + 1) a' → (Nf (i + 1) a').map (·.1) = (Nf i a).map (·.1)) (hf : ∀ i a, fresh x (Γf i a) = true)
    (hdis : ∀ i a, Inv i a → ∀ q ∈ Nf i a, ∀ r ∈ N, r.1 ≠ q.1) (turn : ∀ i a, i < n → Inv i a → ∀ N', (∀ q ∈ N, q ∈ N') → (∀ q ∈ Nf i a, ∀ r ∈ N', r.1 ≠ q.1) → Bl c ((x, IsI (i : Int)) :: Γf i a) (Nf i a ++ N') body (TurnP Q fun s' => ∃ a', Inv (i + 1) a' ∧ St c (Γf (i + 1) a') (Nf (i + 1) a' ++ N') s'))
    (done : ∀ a, Inv n a → Bl c (Γf n a) (Nf n a ++ N) l Q) (hx : c.env.kindOf x = some .local) (hp : (c.env.scope.kind == .class || (c.env.scope.kind == .module && c.env.locals != c.env.globals)) = false)
    (h1 : starEach [e] c.env = (false, eval e c.env) :: starEach [] c.env)
    (hce : eval (.Call (.Name "range" p2) [e] [] p3) c.env = (do callWith p3 (← eval (.Name "range" p2) c.env) [] (backTo p3 (starEach [e] c.env)) (backToKw p3 (keywordEach [] c.env))))
    (hs : ∀ v, foldedSetIterable (.Call (.Name "range" p2) [e] [] p3) c.env v = pure v) : Bl c (Γf 0 a₀) (Nf 0 a₀ ++ N) (.For (.Name x p1) (.Call (.Name "range" p2) [e] [] p3) body [] p4 :: l) Q := by
  intro s hs0
  obtain ⟨m0, F0⟩ := hs0.fr
  refine wpAny_execs_cons (For_invVF (h₀ := c.g) F0 hx hp ?_ hs PassesOwn.never)
  refine Call_ (hr p2 s m0 _ _ F0 ?_) hce
  refine PySem.Pv.callWith_type1 ?_ h1 rfl
  refine wp_then (EvA.cons he EvA.nil h1 p3 _ s hs0) ?_
  rintro vs s₁ ⟨hv, h₁⟩
  obtain ⟨v, rfl⟩ := lenP1 hv
  · skip
    obtain ⟨⟨⟨t, rfl⟩, hnm⟩, _⟩ := hv
    obtain ⟨h', tk, gs, m₁, rfl, hbr, g, F, Nn, H⟩ := h₁
    have := Nat.le_of_ble_eq_true hm
    refine range1_rows F Nn fun h₂ tk₂ t₂ u₂ v₂ hR F₂ N₂ _ => ?_
    refine iter_range (n := n) (fun i m nx => ∃ a, Inv i a ∧ nx = Nf i a ++ N ∧ Has m (Γf i a)) hh hR (small_one (by omega) (by omega) (by omega) (by omega)) (by rw [rangeSize_nat]; omega) F₂ N₂ ⟨a₀, h0, rfl, H⟩ ?_ ?_
    · rintro i t' m₃ nx h₃ tk₃ own I hi hI hown hno ⟨a, hIa, rfl, H₃⟩ F₃ N₃
      rw [Int.zero_add] at F₃
      have st : St c ((x, IsI (i : Int)) :: Γf i a) (Nf i a ++ (N ++ own)) { c.s₁ with heap := h₃, toks := tk₃, gens := gs } := ⟨h₃, tk₃, gs, _, rfl, hbr, g, F₃, by rw [← List.append_assoc]; exact N₃, fun q hq => by
        rcases List.mem_cons.mp hq with rfl | hq
        · exact ⟨_, by simp, t', rfl⟩
        · obtain ⟨u, hu, hPu⟩ := H₃ q hq
          exact ⟨u, by simp only [if_neg (fresh_ne (hf i a) q hq)]; exact hu, hPu⟩⟩
      refine wp_then (turn i a hi hIa (N ++ own) (fun q hq => List.mem_append_left _ hq) (fun q hq r hr => (List.mem_append.mp hr).elim (hdis i a hIa q hq r) fun hr => by rw [hown r hr]; exact (hno q (List.mem_append_left _ hq)).symm) _ st) ?_
      rintro f s₄ hT
      rcases turnCases hT with ⟨v, rfl, hT⟩ | ⟨rfl, a', hIa', h₄, tk₄, gs₄, m₄, e₄, hb₄, g₄, F₄, N₄, H₄⟩
      · exact hT
      · skip
        obtain rfl : gs₄ = gs := (g₄ hkp).trans (g hkp).symm
        refine ⟨h₄, tk₄, m₄, _, Nf (i + 1) a' ++ N, e₄, F₄, N₄, fun q hq => ?_, fun q hq => ?_, fun q hq => ?_, a', hIa', rfl, H₄⟩
        · rw [← List.append_assoc]; exact List.mem_append_left _ hq
        · exact List.mem_append_right _ (List.mem_append_right _ hq)
        · rcases List.mem_append.mp hq with hq | hq
          · have h5 : q.1 ∈ (Nf i a).map (·.1) := by rw [← hadr i a a' hIa hIa']; exact List.mem_map_of_mem hq
            obtain ⟨q', hq', e⟩ := List.mem_map.mp h5
            rw [← e]; exact hno q' (List.mem_append_left _ hq')
          · exact hno q (List.mem_append_right _ hq)
    · rintro m₃ nx h₃ tk₃ ⟨a, hIa, rfl, H₃⟩ F₃ N₃
      exact done a hIa _ ⟨h₃, tk₃, gs, m₃, rfl, hbr, g, F₃, N₃, H₃⟩
/-- a value that asks the ledger -/
def EvAt (c : Cx) (Γ : Tys) (N : Led) (e : Expr) (P : Value → Prop) : Prop := ∀ s, St c Γ N s → wpAny (model c.prog c.w) c.A (eval e c.env) (fun v s' => P v ∧ St c Γ N s') noE s
theorem Ev.at {e : Expr} {P : Value → Prop} (h : Ev c Γ e P) : EvAt c Γ N e P := fun s hs => h N s hs
theorem Ex.assignAt {x : Str} {p p2 : Pos} {e : Expr} {P : Value → Prop} (he : EvAt c Γ N e P) (hsub : ∀ q ∈ Γ', q ∈ Γ) (hf : fresh x Γ' = true) (hx : c.env.kindOf x = some .local) (hp : (c.env.scope.kind == .class || (c.env.scope.kind == .module && c.env.locals != c.env.globals)) = false)
    (hs : swapsWith e (some (.Name x p)) p2.line c.env = pure false) : Ex c Γ N (.Assign [.Name x p] e p2) ((x, P) :: Γ') N := fun s h =>
  wpAny_Assign_Name (wp_then (he s h) fun v s₁ h₁ => wp_then ((h₁.2.weak hsub).set h₁.1 hf hx hp) fun _ s₂ h₂ => ⟨rfl, h₂⟩) hs
theorem Bl.assignN {x : Str} {p p2 : Pos} {e : Expr} {l : List Stmt} {P : Value → Led → Prop} (he : EvN c Γ e P) (hk : ∀ v own, P v own → (∀ p ∈ own, ∀ q ∈ N, q.1 < p.1) → Bl c ((x, IsV v) :: Γ') (own ++ N) l Q) (hsub : ∀ q ∈ Γ', q ∈ Γ) (hf : fresh x Γ' = true) (hx : c.env.kindOf x = some .local) (hp : (c.env.scope.kind == .class || (c.env.scope.kind == .module && c.env.locals != c.env.globals)) = false)
    (hs : swapsWith e (some (.Name x p)) p2.line c.env = pure false) : Bl c Γ N (.Assign [.Name x p] e p2 :: l) Q := fun s h =>
  wpAny_execs_cons (wpAny_Assign_Name (wp_then (he N s h) fun v s₁ ⟨own, hP, hl, h₁⟩ => wp_then ((h₁.weak hsub).set (P := IsV v) rfl hf hx hp) fun _ s₂ h₂ => hk v own hP hl s₂ h₂) hs)
/-- x = y = e -/
theorem Ex.assignTwo {x y : Str} {p p2 p3 : Pos} {e : Expr} {P : Value → Prop} (he : Ev c Γ e P) (hsub : ∀ q ∈ Γ', q ∈ Γ) (hf : fresh x Γ' = true) (hf2 : fresh y ((x, P) :: Γ') = true) (hx : c.env.kindOf x = some .local) (hy : c.env.kindOf y = some .local) (hp : (c.env.scope.kind == .class || (c.env.scope.kind == .module && c.env.locals != c.env.globals)) = false)
    (ha : (assignEach [Expr.Name x p, Expr.Name y p2] c.env).map (·.2) = [PySem.assign (Expr.Name x p) c.env, PySem.assign (Expr.Name y p2) c.env]) (hw : swappedStores [.Name x p, .Name y p2] e c.env = pure none) : Ex c Γ N (.Assign [.Name x p, .Name y p2] e p3) ((y, P) :: (x, P) :: Γ') N := fun s h =>
  wpAny_Assign_two (wp_then (he N s h) fun v s₁ h₁ => assign_Name (wp_then ((h₁.2.weak hsub).set h₁.1 hf hx hp) fun _ s₂ h₂ => assign_Name (wp_then (h₂.set h₁.1 hf2 hy hp) fun _ s₃ h₃ => ⟨rfl, h₃⟩))) ha hw
/-- a built-in of two arguments -/
theorem Ev.fun2 {x : Str} {T : String} {p p2 : Pos} {a b : Expr} {P P' R : Value → Prop} (hf : Gl c x (.builtin T)) (ha : Ev c Γ a P) (hb : Ev c Γ b P') (hc : ∀ v v', P v → P' v' → Cn c (.builtin T) [v, v'] R)
    (h1 : starEach [a, b] c.env = (false, eval a c.env) :: starEach [b] c.env) (h2 : starEach [b] c.env = (false, eval b c.env) :: starEach [] c.env)
    (he : eval (.Call (.Name x p) [a, b] [] p2) c.env = (do callWith p2 (← eval (.Name x p) c.env) [] (backTo p2 (starEach [a, b] c.env)) (backToKw p2 (keywordEach [] c.env)))) : Ev c Γ (.Call (.Name x p) [a, b] [] p2) R := by
  intro N s hs
  obtain ⟨m, F⟩ := hs.fr
  refine Call_ (hf p s m _ _ F ?_) he
  refine PyProof.Rows.callWith_builtin1 ?_ h1 (by rw [h2]; rfl)
  refine wp_then (EvA.cons ha (EvA.cons hb EvA.nil h2) h1 p2 N s hs) fun vs s₂ h₂ => ?_
  have hv := h₂.1
  obtain ⟨v, v', rfl⟩ := lenP2 hv
  exact hc v v' hv.1 hv.2.1 Γ N s₂ h₂.2
theorem cn_min {a b : Int} (hh : c.A.handled = none) : ∀ v v', IsI a v → IsI b v' → Cn c (.builtin "min") [v, v'] (IsI (min a b)) := by
  rintro v v' ⟨t, rfl⟩ ⟨t', rfl⟩ Γ N s hs
  obtain ⟨h', tk, gs, m, rfl, hb, g, F, Nn, H⟩ := hs
  refine min_two_N hh F Nn fun h₂ tk₂ F₂ N₂ => ⟨⟨if b < a then t' else t, ?_⟩, h₂, tk₂, gs, m, rfl, hb, g, F₂, N₂, H⟩
  rw [show (if b < a then b else a) = min a b by split <;> omega]
/-- a row of ints -/
theorem EvN.listRange {p1 p2 p3 p4 : Pos} {a b d : Expr} {n : Nat} (hl : Gl c "list" (.type "list")) (hr : Gl c "range" (.type "range")) (hh : c.A.handled = none) (ha : EvA c Γ [a, b, d] [IsI 2, IsI (2 * ((n : Int) + 1)), IsI 2]) (hn : n ≤ 1000)
    (h1 : starEach [.Call (.Name "range" p2) [a, b, d] [] p3] c.env = (false, eval (.Call (.Name "range" p2) [a, b, d] [] p3) c.env) :: starEach [] c.env)
    (h2 : starEach [a, b, d] c.env = (false, eval a c.env) :: starEach [b, d] c.env) (h3 : (backTo p3 (starEach [b, d] c.env)).any (·.1) = false)
    (he : eval (.Call (.Name "list" p1) [.Call (.Name "range" p2) [a, b, d] [] p3] [] p4) c.env = (do callWith p4 (← eval (.Name "list" p1) c.env) [] (backTo p4 (starEach [.Call (.Name "range" p2) [a, b, d] [] p3] c.env)) (backToKw p4 (keywordEach [] c.env))))
    (he2 : eval (.Call (.Name "range" p2) [a, b, d] [] p3) c.env = (do callWith p3 (← eval (.Name "range" p2) c.env) [] (backTo p3 (starEach [a, b, d] c.env)) (backToKw p3 (keywordEach [] c.env)))) :
    EvN c Γ (.Call (.Name "list" p1) [.Call (.Name "range" p2) [a, b, d] [] p3] [] p4) (fun v own => ∃ D o ls, v = .ref D ∧ own = [(D, o)] ∧ IsIv o ls ∧ ls.map (·.1) = row0 n) := by
  intro N s hs
  obtain ⟨m, F⟩ := hs.fr
  refine Call_ (hl p1 s m _ _ F ?_) he
  refine PySem.Pv.callWith_type1 ?_ h1 rfl
  rw [h1]
  refine Calls.spliced_cons (Call_ (hr p2 s m _ _ F ?_) he2)
  refine PySem.Pv.callWith_type1 ?_ h2 h3
  refine wp_then (ha p3 N s hs) ?_
  rintro vs s₁ ⟨hv, h₁⟩
  obtain ⟨v1, v2, v3, rfl⟩ := lenP3 hv
  obtain ⟨⟨t1, rfl⟩, ⟨t2, rfl⟩, ⟨t3, rfl⟩, _⟩ := hv
  · skip
    obtain ⟨h', tk, gs, m₁, rfl, hb, g, F₁, N₁, H₁⟩ := h₁
    refine range3_rows F₁ N₁ (by decide) (fun h₂ tk₂ t₂ u₂ v₂ hR F₂ N₂ _ => Calls.spliced_nil ?_) (Or.inl (PyProof.noPylong_small (by omega)))
    refine list_range2 (s := { c.s₁ with heap := h₂, toks := tk₂, gens := gs }) hh F₂ N₂ rfl hR hn fun D ls k h₃ tk₃ hls F₃ N₃ hD => ?_
    exact ⟨_, ⟨D, _, ls, rfl, rfl, ⟨rfl, k, rfl⟩, hls⟩, (fun p hp q hq => by rw [List.mem_singleton.mp hp]; exact hD q hq), h₃, tk₃, gs, m₁, rfl, hb, g, F₃, N₃, H₁⟩
theorem EvAt.row {x : Str} {px p : Pos} {e : Expr} {D : Addr} {o : Obj} {ls : List (Int × Tok)} {k : Nat} (hx : Ev c Γ (.Name x px) (IsV (.ref D))) (hm : (D, o) ∈ N) (hi : IsIv o ls) (he : Ev c Γ e (IsI (k : Int))) (hk : k < ls.length) (hl : ls.length ≤ 1000)
    (hs : ∀ {i u}, subscripted e false (.ref D) (.int i u) = operate [.ref D, .int i u] (getItem (.ref D) (.int i u))) (hg : ∀ r, letTemporaryGo (.Name x px) (.ref D) r = pure ()) : EvAt c Γ N (.Subscript (.Name x px) e p) (IsI ls[k].1) := by
  intro s h
  refine Subscript_ (wp_then (hx N s h) ?_)
  rintro v s₁ ⟨rfl, h₁⟩
  refine wp_then (he N s₁ h₁) ?_
  rintro v s₂ ⟨⟨t', rfl⟩, h₂⟩
  obtain ⟨h', tk, gs, m, rfl, hb, g, F, Nn, H⟩ := h₂
  exact get_row Nn hm hi hk hl ⟨⟨_, rfl⟩, h', tk, gs, m, rfl, hb, g, F, Nn, H⟩ hs hg
theorem Bl.rowSet {x : Str} {px p p2 : Pos} {e v : Expr} {l : List Stmt} {D : Addr} {o : Obj} {ls : List (Int × Tok)} {k : Nat} {z : Int} (hx : Ev c Γ (.Name x px) (IsV (.ref D))) (hap : ∀ p ∈ N, p.1 ≠ D) (hi : IsIv o ls) (he : Ev c Γ e (IsI (k : Int))) (hv : Ev c Γ v (IsI z)) (hk : k < ls.length) (hl : ls.length ≤ 1000)
    (hk2 : ∀ o' t, IsIv o' (ls.set k (z, t)) → Bl c Γ ((D, o') :: N) l Q) (hs : swapsWith v (some (.Subscript (.Name x px) e p)) p2.line c.env = pure false) : Bl c Γ ((D, o) :: N) (.Assign [.Subscript (.Name x px) e p] v p2 :: l) Q := by
  intro s h
  refine wpAny_execs_cons (wpAny_Assign_Subscript (wp_then (hv _ s h) ?_) hs)
  rintro u s₁ ⟨⟨t, rfl⟩, h₁⟩
  refine wp_then (hx _ s₁ h₁) ?_
  rintro u s₂ ⟨rfl, h₂⟩
  refine wp_then (he _ s₂ h₂) ?_
  rintro u s₃ ⟨⟨t', rfl⟩, h₃⟩
  obtain ⟨h', tk, gs, m, rfl, hb, g, F, Nn, H⟩ := h₃
  exact set_row F Nn hap hi hk hl fun h₂ o' hi' F₂ N₂ => hk2 o' t hi' _ ⟨h₂, tk, gs, m, rfl, hb, g, F₂, N₂, H⟩
theorem sub_refl : ∀ q ∈ Γ, q ∈ Γ := fun _ h => h
theorem sub_tail {q : Str × (Value → Prop)} (h : ∀ q ∈ Γ, q ∈ Γ') : ∀ r ∈ Γ, r ∈ q :: Γ' := fun r hr => .tail _ (h r hr)
theorem sub_nil : ∀ r ∈ ([] : Tys), r ∈ Γ := fun _ h => nomatch h
theorem sub_cons {q : Str × (Value → Prop)} (h : q ∈ Γ') (hr : ∀ r ∈ Γ, r ∈ Γ') : ∀ r ∈ q :: Γ, r ∈ Γ' := fun r h' => by
  rcases List.mem_cons.mp h' with rfl | h'
  · exact h
  · exact hr r h'
theorem iop_addK {n m i j : Nat} (h : i + j ≤ n) : ∀ v v', IsK n i v → IsK m j v' → ∀ N s, St c Γ N s → wpAny (model c.prog c.w) c.A (inplaceOp .Add v v') (fun v s' => IsK n (i + j) v ∧ St c Γ N s') noE s := by
  rintro v v' ⟨⟨t, rfl⟩, _⟩ ⟨⟨t', rfl⟩, _⟩ N s hst; exact iadd_int ⟨⟨⟨s.toks, by rw [Int.natCast_add]⟩, h⟩, hst.toks _⟩
theorem Ev.kst {i : Int} {k kk : Nat} {p : Pos} (h : i = (k : Int)) : Ev c Γ (.Constant (.int i) kk p) (IsK k k) := by subst h; exact Ev.intK
theorem Rm.gK {p : Program} {n : Nat} (R : Rm c p n) {x : Str} (k : Nat) {t : Tok} {pp : Pos} (h : nsIn c.K mainGlobals x = some (some (.int (k : Int) t))) (hk : c.env.kindOf x = some .globalImplicit) (hd : (x == ("__debug__" : Str)) = false) : Ev c Γ (.Name x pp) (IsK k k) :=
  Ev.mono (R.gint h hk hd) fun v e => ⟨e, Nat.le_refl k⟩
theorem Rm.bi {p : Program} {n : Nat} (R : Rm c p n) {x : Str} {v : Value} (hv : bootBuiltins x = some v) (h : nsIn c.K mainGlobals x = some none) (hn : x ≠ "__name__") (hk : c.env.kindOf x = some .globalImplicit) (hd : (x == ("__debug__" : Str)) = false) : Gl c x v := R.2.2.2.2 x v h hv hn hk hd
theorem letR {p : Program} {n : Nat} (R : Rm c p n) {N₀ : Led} {l : List Stmt} {P : Value → Led → Prop} (h : let c' := c; Rm c' p n → Rt c' N₀ Γ N l P) : Rt c N₀ Γ N l P := h R
theorem sub_led : ∀ q ∈ N, q ∈ N := fun _ h => h
theorem Ev.kstn {i : Int} {k kk : Nat} {p : Pos} (n : Nat) (h : i = (k : Int)) (hn : Nat.ble k n = true) : Ev c Γ (.Constant (.int i) kk p) (IsK n k) := Ev.mono (Ev.kst h) fun v e => ⟨e.1, Nat.le_of_ble_eq_true hn⟩
theorem Bl.exi {α : Type} {st : Stmt} {l : List Stmt} (Γf : α → Tys) (Inv : α → Prop) (h : ∃ a, Inv a ∧ Ex c Γ N st (Γf a) N') (hk : ∀ a, Inv a → Bl c (Γf a) N' l Q) : Bl c Γ N (st :: l) Q := let ⟨a, hI, h⟩ := h; Bl.cons h (hk a hI)
theorem Tr.eq {e : Expr} {r r' : Bool} (h : Tr c Γ e r) (he : r = r') : Tr c Γ e r' := he ▸ h
theorem Ex.if0' {t : Expr} {body : List Stmt} {p : Pos} {r : Bool} (ht : Tr c Γ t r) (hr : r = false) : Ex c Γ N (.If t body [] p) Γ N := Ex.if0 (hr ▸ ht) Xs.nil
theorem Bl.retQ {e : Expr} {p : Pos} {l : List Stmt} {R : Value → Prop} (he : Ev c Γ e R) (hQ : ∀ v s', R v → St c Γ N s' → Q (.ret v) s') : Bl c Γ N (.Return (some e) p :: l) (fun f s => ∃ v, f = .ret v ∧ Q f s) := fun s h =>
  wpAny_execs_cons (wpAny_Return_some (wp_then (he N s h) fun v s₁ h₁ => ⟨v, rfl, hQ v s₁ h₁.1 h₁.2⟩))
theorem retP {P : Value → Led → Prop} {v : Value} {s : Shared} (h : P v []) (hs : ∀ q ∈ N₀, q ∈ N) (st : St c Γ N s) : RetP c N₀ P (.ret v) s := ⟨v, [], rfl, h, (fun _ q => nomatch q), (st.weak (Γ' := []) fun _ q => nomatch q).led hs⟩
end Mine

end
local macro_rules | `(tactic| walk_at "ev_in") => `(tactic| first | (with_reducible exact List.mem_cons_self) | ((with_reducible refine List.mem_cons_of_mem _ ?_); walk_at "ev_in"))
local macro_rules | `(tactic| walk_at "ev") => `(tactic| first
  | ((with_reducible refine' Mine.Ev.name ?em ?ef ?ek ?ed); (case em => walk_at "ev_in"); (case ef => exact rfl); (case ek => exact rfl); (case ed => exact rfl))
  | ((with_reducible refine' Mine.Ev.add ?ea ?eb ?es); (case ea => walk_at "ev"); (case eb => walk_at "ev"); (case es => exact rfl))
  | ((with_reducible refine' Mine.Ev.lit ?ex ?el); (case ex => walk_at "ev_lit"); (case el => exact rfl))
  | ((with_reducible refine' Mine.Ev.fun1 (T := "len") ?ef ?ea ?ec ?eh ?ei); (case ef => assumption); (case ea => walk_at "ev"); (case ec => exact Mine.cn_len rfl); (case eh => exact rfl); (case ei => exact rfl))
  | (with_reducible exact Mine.Ev.int) | (with_reducible exact Mine.Ev.bool))
local macro_rules | `(tactic| walk_at "eva") => `(tactic| first
  | (with_reducible exact Mine.EvA.nil)
  | ((with_reducible refine' Mine.EvA.cons ?ea ?eb ?es); (case ea => walk_at "ev"); (case eb => walk_at "eva"); (case es => exact rfl)))
local macro_rules | `(tactic| walk_at "sub") => `(tactic| first
  | exact Mine.sub_nil
  | ((with_reducible refine' Mine.sub_cons ?ea ?eb); (case ea => walk_at "ev_in"); (case eb => walk_at "sub")))
section
open PySem PySem.W PySem.Calls PyProof.Rows
set_option linter.unusedVariables false
set_option maxRecDepth 100000
set_option maxHeartbeats 6000000
namespace Mine
local macro_rules | `(tactic| walk_at "ev_in") => `(tactic| first | (with_reducible exact List.mem_cons_self) | ((with_reducible refine List.mem_cons_of_mem _ ?_); walk_at "ev_in"))
local macro_rules | `(tactic| walk_at "ev") => `(tactic| first
  | ((with_reducible refine' Ev.name ?em ?ef ?ek ?ed); (case em => walk_at "ev_in"); (case ef => exact rfl); (case ek => exact rfl); (case ed => exact rfl))
  | ((with_reducible refine' Ev.add ?ea ?eb ?es); (case ea => walk_at "ev"); (case eb => walk_at "ev"); (case es => exact rfl))
  | ((with_reducible refine' Ev.lit ?ex ?el); (case ex => walk_at "ev_lit"); (case el => exact rfl))
  | (with_reducible exact Ev.int) | (with_reducible exact Ev.bool))
local macro_rules | `(tactic| walk_at "eva") => `(tactic| first
  | (with_reducible exact EvA.nil)
  | ((with_reducible refine' EvA.cons ?ea ?eb ?es); (case ea => walk_at "ev"); (case eb => walk_at "eva"); (case es => exact rfl)))
theorem subst_fn (w : World) (a b : Str) (t u : Tok) (ha : a.length ≤ 1000) (hb : b.length ≤ 1000) :
   Fn PySem.Challenge.rw_rw0063_01.row.prog w (Mine.hd.heap_39 w.params) Mine.hd.view_39 49 1 [.str a t, .str b u] (isI (substS a b)) := by
  k_fill
  refine' Fn.of_rt (n := 0) ?ho ?hcd ?hbd ?hlc [("ch_a", IsX a), ("ch_b", IsX b)] ?hΓ ?g1 ?g2 ?g3 ?g4 ?hr
  case ho => k_is
  case hcd => k_is
  case hbd => exact fun _ => BindsTo.of_eq rfl
  case hlc => exact locs rfl
  case g1 => exact rfl
  case g2 => exact rfl
  case g3 => exact rfl
  case g4 => decide
  case hΓ => simp only [Has, List.forall_mem_cons]; exact ⟨⟨_, rfl, t, rfl⟩, ⟨_, rfl, u, rfl⟩, fun _ h => nomatch h⟩
  case hr =>
  intro A L' g s R N
  unfold substS
  cases h1 : a == b with
  | true =>
    rw [if_pos rfl]
    refine' Rt.if1 (Tr.cmp ?e1 ?e2 (op_eq_X h1) rfl) (Rt.ret Ev.int fun _ h => h)
    case e1 => walk_at "ev"
    case e2 => walk_at "ev"
  | false =>
    rw [if_neg (by decide)]
    refine' Rt.cons (Ex.if0 (Tr.cmp ?e3 ?e4 (op_eq_X h1) rfl) Xs.nil) ?n1
    case e3 => walk_at "ev"
    case e4 => walk_at "ev"
    cases h2 : Txt.lower a == Txt.lower b with
    | true =>
      rw [if_pos rfl]
      refine' Rt.if1 (Tr.cmp (Ev.lower ?e5 ha rfl) (Ev.lower ?e6 hb rfl) (op_eq_X h2) rfl) (Rt.ret (R.gint rfl rfl rfl) fun _ h => h)
      case e5 => walk_at "ev"
      case e6 => walk_at "ev"
    | false =>
      rw [if_neg (by decide)]
      refine' Rt.cons (Ex.if0 (Tr.cmp (Ev.lower ?e7 ha rfl) (Ev.lower ?e8 hb rfl) (op_eq_X h2) rfl) Xs.nil) (Rt.ret (R.gint rfl rfl rfl) fun _ h => h)
      case e7 => walk_at "ev"
      case e8 => walk_at "ev"
end Mine

end
section
open PySem PySem.W PySem.Calls PyProof.Rows
set_option linter.unusedVariables false
set_option maxRecDepth 100000
set_option maxHeartbeats 6000000
namespace Mine
theorem drop_ne {l : List Nat} {i : Nat} (h : ((l.drop i).length != 0) = true) : i < l.length := by
  rw [bne_iff_ne, List.length_drop] at h; omega
theorem ne_drop {l : List Nat} {i : Nat} (h : i < l.length) : ((l.drop i).length != 0) = true := by
  rw [bne_iff_ne, List.length_drop]; omega
theorem take_ne {l : List Nat} {k : Nat} (h : ((l.take (l.length - k)).length != 0) = true) : k < l.length := by
  rw [bne_iff_ne, List.length_take] at h; omega
theorem ne_take {l : List Nat} {k : Nat} (h : k < l.length) : ((l.take (l.length - k)).length != 0) = true := by
  rw [bne_iff_ne, List.length_take]; omega
theorem dec_at {a b : List Nat} {i : Nat} (h1 : i < a.length) (h2 : i < b.length) : decide ([a[i]] = [b[i]]) = decide (a[i]? = b[i]?) := by
  rw [List.getElem?_eq_getElem h1, List.getElem?_eq_getElem h2]; simp
theorem dec_rev {a b : List Nat} {k : Nat} (h1 : k < a.length) (h2 : k < b.length) : decide ([a[a.length - (k + 1)]] = [b[b.length - (k + 1)]]) = decide (a.reverse[k]? = b.reverse[k]?) := by
  rw [List.getElem?_eq_getElem (by rw [List.length_reverse]; exact h1), List.getElem?_eq_getElem (by rw [List.length_reverse]; exact h2)]
  simp [Nat.sub_sub, Nat.add_comm]
theorem cn_subst {w : World} {A : Around} {env : Env} {g : Heap} {s₁ : Shared} {k : Bool} {n x y : Nat} (X : Fnc ⟨PySem.Challenge.rw_rw0063_01.row.prog, w, A, env, g, s₁, Mine.hd.heap_39 w.params, k⟩ Mine.hd.view_39 n) (hn : Nat.ble 1 n = true) :
    ∀ vs, AllP [IsL 1 [x], IsL 1 [y]] vs → Cn ⟨PySem.Challenge.rw_rw0063_01.row.prog, w, A, env, g, s₁, Mine.hd.heap_39 w.params, k⟩ (.ref 49) vs (IsI (substC x y)) := fun vs hv => by
    obtain ⟨v1, v2, rfl⟩ := lenP2 hv
    obtain ⟨⟨⟨t, rfl⟩, _⟩, ⟨⟨u, rfl⟩, _⟩, _⟩ := hv
    exact cn_fn (subst_fn w (S [x]) (S [y]) t u (by rw [S_len]; exact Nat.le_of_ble_eq_true rfl) (by rw [S_len]; exact Nat.le_of_ble_eq_true rfl)) X hn fun v own h => h.1
theorem lev_fn (w : World) (a b : List Nat) (mx : Int) (t u v : Tok) (ha : a.length ≤ 1000) (hb : b.length ≤ 1000) :
   Fn PySem.Challenge.rw_rw0063_01.row.prog w (Mine.hd.heap_39 w.params) Mine.hd.view_39 56 3 [.str (S a) t, .str (S b) u, .int mx v] (isI (levM a b mx)) := by
  k_fill
  refine' Fn.of_rt (n := 2) ?ho ?hcd ?hbd ?hlc [("a", IsL 1000 a), ("b", IsL 1000 b), ("max_cost", IsI mx)] ?hΓ ?g1 ?g2 ?g3 ?g4 ?hr
  case ho => k_is
  case hcd => k_is
  case hbd => exact fun _ => BindsTo.of_eq rfl
  case hlc => exact locs rfl
  case g1 => exact rfl
  case g2 => exact rfl
  case g3 => exact rfl
  case g4 => decide
  case hΓ => simp only [Has, List.forall_mem_cons]; exact ⟨⟨_, rfl, ⟨t, rfl⟩, ha⟩, ⟨_, rfl, ⟨u, rfl⟩, hb⟩, ⟨_, rfl, v, rfl⟩, fun _ h => nomatch h⟩
  case hr =>
  intro A L' g s R N
  refine letR R ?_
  intro c R
  have Glen : Gl c "len" (.builtin "len") := R.bi boot_len rfl (by decide) rfl rfl
  have Grange : Gl c "range" (.type "range") := R.bi boot_range rfl (by decide) rfl rfl
  have Glist : Gl c "list" (.type "list") := R.bi boot_list rfl (by decide) rfl rfl
  have Gmin : Gl c "min" (.builtin "min") := R.bi boot_min rfl (by decide) rfl rfl
  have Fsubst : Fc c "_substitution_cost" (.ref 49) := R.fc rfl rfl rfl rfl
  have hh : c.A.handled = none := R.1
  refine Rt.of ?_
  by_cases hab : a = b
  · refine' Bl.if1 (Tr.cmp ?e1 ?e2 (op_eq_str (decide_eq_true hab)) rfl) (Bl.ret Ev.int ?e3 sub_led)
    case e1 => walk_at "ev"
    case e2 => walk_at "ev"
    case e3 => rintro v ⟨t, rfl⟩; exact ⟨⟨t, by unfold levM; rw [if_pos hab]⟩, rfl⟩
  refine' Bl.cons (Ex.if0 (Tr.cmp ?e4 ?e5 (op_eq_str (decide_eq_false hab)) rfl) Xs.nil) ?n1
  case e4 => walk_at "ev"
  case e5 => walk_at "ev"
  have hM0 : levM a b mx = levT (trim a b).1 (trim a b).2 mx := by unfold levM; rw [if_neg hab]
  refine' Bl.cons (Ex.assign (Ev.kstn (k := 0) 1000 rfl rfl) sub_refl rfl rfl rfl rfl) ?n2
  refine' (Bl.while (a₀ := 0) (fun i => [("pre", IsK 1000 i), ("a", IsL 1000 a), ("b", IsL 1000 b), ("max_cost", IsI mx)]) (fun i => a.length - i)
    (fun i => ((a.drop i).length != 0) && (((b.drop i).length != 0) && (decide (a[i]? = b[i]?) && true))) (fun i => i + 1) (fun i => i ≤ a.length ∧ i ≤ b.length ∧ tp a b = tp (a.drop i) (b.drop i)) rfl ⟨Nat.zero_le _, Nat.zero_le _, rfl⟩ ?ht1 ?hb1 ?hn1 ?hk1)
  case ht1 =>
    rintro i ⟨h1, h2, _⟩
    refine' Tr.of (TrA.and (Tr.text (Ev.sliceFrom (n := 1000) ?f1 ?f2 h1 rfl rfl (fun _ => rfl)) rfl rfl rfl) fun h3 => TrA.and (Tr.text (Ev.sliceFrom (n := 1000) ?f3 ?f4 h2 rfl rfl (fun _ => rfl)) rfl rfl rfl) fun h4 => TrA.and ?f5 fun _ => TrA.and_nil)
    case f1 => walk_at "ev"
    case f2 => walk_at "ev"
    case f3 => walk_at "ev"
    case f4 => walk_at "ev"
    case f5 =>
      have l1 := drop_ne h3
      have l2 := drop_ne h4
      refine' Tr.cmp (Ev.item (n := 1000) ?f6 (Ev.I ?f7) l1 rfl rfl (fun _ => rfl)) (Ev.item (n := 1000) ?f8 (Ev.I ?f9) l2 rfl rfl (fun _ => rfl)) (op_eq_str (dec_at l1 l2)) rfl
      case f6 => walk_at "ev"
      case f7 => walk_at "ev"
      case f8 => walk_at "ev"
      case f9 => walk_at "ev"
  case hb1 =>
    rintro i ⟨h1, h2, _⟩ hbt
    rw [Bool.and_eq_true] at hbt
    have l1 := drop_ne hbt.1
    refine' Xs.cons (Ex.aug (R := IsK 1000 (i + 1)) ?f10 (Ev.kst (k := 1) rfl) (iop_addK (by omega)) (sub_tail sub_refl) rfl rfl rfl rfl) Xs.nil
    case f10 => walk_at "ev_in"
  case hn1 =>
    rintro i ⟨h1, h2, h3⟩ hbt
    rw [Bool.and_eq_true, Bool.and_eq_true, Bool.and_true] at hbt
    have l1 := drop_ne hbt.1
    have l2 := drop_ne hbt.2.1
    have l3 := of_decide_eq_true hbt.2.2
    rw [List.getElem?_eq_getElem l1, List.getElem?_eq_getElem l2, Option.some_inj] at l3
    exact ⟨⟨l1, l2, by rw [h3, tp_drop_same l1 l2 l3]⟩, by omega⟩
  case hk1 =>
    rintro i ⟨h1, h2, h3⟩ hbt
    have htp : tp a b = (a.drop i, b.drop i) := by
      rw [h3]
      by_cases l1 : i < a.length
      · by_cases l2 : i < b.length
        · refine tp_drop_other l1 l2 fun e => ?_
          rw [ne_drop l1, ne_drop l2, List.getElem?_eq_getElem l1, List.getElem?_eq_getElem l2, e, decide_eq_true rfl] at hbt
          cases hbt
        · exact tp_drop_right (by omega)
      · exact tp_drop_left (by omega)
    have hM1 : trim a b = ((tp (a.drop i).reverse (b.drop i).reverse).1.reverse, (tp (a.drop i).reverse (b.drop i).reverse).2.reverse) := by unfold trim; rw [htp]
    refine' Bl.cons (Ex.assign (Ev.sliceFrom (n := 1000) ?f11 ?f12 h1 rfl rfl (fun _ => rfl)) (Γ' := [("pre", IsK 1000 i), ("b", IsL 1000 b), ("max_cost", IsI mx)]) ?f13 rfl rfl rfl rfl) ?n3
    case f11 => walk_at "ev"
    case f12 => walk_at "ev"
    case f13 => walk_at "sub"
    refine' Bl.cons (Ex.assign (Ev.sliceFrom (n := 1000) ?f14 ?f15 h2 rfl rfl (fun _ => rfl)) (Γ' := [("a", IsL 1000 (a.drop i)), ("max_cost", IsI mx)]) ?f16 rfl rfl rfl rfl) ?n4
    case f14 => walk_at "ev"
    case f15 => walk_at "ev"
    case f16 => walk_at "sub"
    clear htp h3 hbt h1 h2
    generalize a.drop i = a1 at *
    generalize b.drop i = b1 at *
    refine' Bl.cons (Ex.assign Ev.int sub_refl rfl rfl rfl rfl) ?n5
    refine' Bl.while (a₀ := 0) (fun k => [("post", IsI (-(k : Nat) : Int)), ("b", IsL 1000 b1), ("a", IsL 1000 a1), ("max_cost", IsI mx)]) (fun k => a1.length - k)
      (fun k => ((a1.take (a1.length - k)).length != 0) && (((b1.take (b1.length - k)).length != 0) && (decide (a1.reverse[k]? = b1.reverse[k]?) && true))) (fun k => k + 1) (fun k => k ≤ a1.length ∧ k ≤ b1.length ∧ tp a1.reverse b1.reverse = tp (a1.reverse.drop k) (b1.reverse.drop k)) rfl ⟨Nat.zero_le _, Nat.zero_le _, rfl⟩ ?ht2 ?hb2 ?hn2 ?hk2
    case ht2 =>
      rintro k ⟨h1, h2, _⟩
      refine' Tr.of (TrA.and (Tr.text (Ev.sliceN (n := 1000) ?f20 (Ev.orNone ?f21) h1 rfl rfl (fun _ => rfl)) rfl rfl rfl) fun h3 => TrA.and (Tr.text (Ev.sliceN (n := 1000) ?f22 (Ev.orNone ?f23) h2 rfl rfl (fun _ => rfl)) rfl rfl rfl) fun h4 => TrA.and ?f24 fun _ => TrA.and_nil)
      case f20 => walk_at "ev"
      case f21 => walk_at "ev"
      case f22 => walk_at "ev"
      case f23 => walk_at "ev"
      case f24 =>
        have l1 := take_ne h3
        have l2 := take_ne h4
        refine' Tr.cmp (Ev.itemN (n := 1000) (k := k + 1) ?f25 (Ev.eqI (Ev.sub (i := -(k : Int)) (j := 1) ?f26 Ev.int) (by omega)) (by omega) (by omega) rfl rfl (fun _ => rfl)) (Ev.itemN (n := 1000) (k := k + 1) ?f27 (Ev.eqI (Ev.sub (i := -(k : Int)) (j := 1) ?f28 Ev.int) (by omega)) (by omega) (by omega) rfl rfl (fun _ => rfl)) (op_eq_str (dec_rev l1 l2)) rfl
        case f25 => walk_at "ev"
        case f26 => walk_at "ev"
        case f27 => walk_at "ev"
        case f28 => walk_at "ev"
    case hb2 =>
      rintro k ⟨h1, h2, _⟩ hbt
      refine' Xs.cons (Ex.aug (R := IsI (-((k + 1 : Nat) : Int))) ?f29 Ev.int ?f30 (sub_tail sub_refl) rfl rfl rfl rfl) Xs.nil
      case f29 => walk_at "ev_in"
      case f30 => exact (by omega : (-(k : Int) - 1) = -((k + 1 : Nat) : Int)) ▸ iop_subI
    case hn2 =>
      rintro k ⟨h1, h2, h3⟩ hbt
      rw [Bool.and_eq_true, Bool.and_eq_true, Bool.and_true] at hbt
      have l1 := take_ne hbt.1
      have l2 := take_ne hbt.2.1
      have l3 := of_decide_eq_true hbt.2.2
      rw [List.getElem?_eq_getElem (by rw [List.length_reverse]; exact l1), List.getElem?_eq_getElem (by rw [List.length_reverse]; exact l2), Option.some_inj] at l3
      exact ⟨⟨l1, l2, by rw [h3, tp_drop_same (by rw [List.length_reverse]; exact l1) (by rw [List.length_reverse]; exact l2) l3]⟩, by omega⟩
    case hk2 =>
      rintro k ⟨h1, h2, h3⟩ hbt
      have htp : tp a1.reverse b1.reverse = (a1.reverse.drop k, b1.reverse.drop k) := by
        rw [h3]
        by_cases l1 : k < a1.length
        · by_cases l2 : k < b1.length
          · have l1' : k < a1.reverse.length := by rw [List.length_reverse]; exact l1
            have l2' : k < b1.reverse.length := by rw [List.length_reverse]; exact l2
            refine tp_drop_other l1' l2' fun e => ?_
            rw [ne_take l1, ne_take l2, List.getElem?_eq_getElem l1', List.getElem?_eq_getElem l2', e, decide_eq_true rfl] at hbt
            cases hbt
          · exact tp_drop_right (by rw [List.length_reverse]; omega)
        · exact tp_drop_left (by rw [List.length_reverse]; omega)
      rw [htp] at hM1
      rw [hM1] at hM0
      dsimp only at hM0
      rw [rev_cut, rev_cut] at hM0
      refine' Bl.cons (Ex.assign (Ev.sliceN (n := 1000) ?f31 (Ev.orNone ?f32) h1 rfl rfl (fun _ => rfl)) (Γ' := [("post", IsI (-(k : Nat) : Int)), ("b", IsL 1000 b1), ("max_cost", IsI mx)]) ?f33 rfl rfl rfl rfl) ?n6
      case f31 => walk_at "ev"
      case f32 => walk_at "ev"
      case f33 => walk_at "sub"
      refine' Bl.cons (Ex.assign (Ev.sliceN (n := 1000) ?f34 (Ev.orNone ?f35) h2 rfl rfl (fun _ => rfl)) (Γ' := [("a", IsL 1000 (a1.take (a1.length - k))), ("max_cost", IsI mx)]) ?f36 rfl rfl rfl rfl) ?n7
      case f34 => walk_at "ev"
      case f35 => walk_at "ev"
      case f36 => walk_at "sub"
      clear htp h3 hbt h1 h2 hM1
      generalize a1.take (a1.length - k) = a2 at *
      generalize b1.take (b1.length - k) = b2 at *
      by_cases hz : a2.length = 0 ∨ b2.length = 0
      · refine' Bl.if1 (Tr.eq (Tr.of (TrA.or (Tr.not (Tr.text (n := 1000) ?g10 rfl rfl rfl)) fun _ => TrA.or (Tr.not (Tr.text (n := 1000) ?g11 rfl rfl rfl)) fun _ => TrA.or_nil)) ?g12) (Bl.ret (Ev.mulK (n := 2) (m := 1000 + 1000) (R.gK 2 rfl rfl rfl) (Ev.addK ?g13 ?g14) rfl) ?g15 sub_led)
        case g10 => walk_at "ev"
        case g11 => walk_at "ev"
        case g12 => rcases hz with hz | hz <;> simp [hz]
        case g13 => walk_at "ev"
        case g14 => walk_at "ev"
        case g15 =>
          rintro v ⟨⟨t, rfl⟩, _⟩
          exact ⟨⟨t, by rw [hM0, levT_a hz]; congr 1⟩, rfl⟩
      have hz1 : 1 ≤ a2.length ∧ 1 ≤ b2.length := by omega
      refine' Bl.cons (Ex.if0' (Tr.of (TrA.or (Tr.not (Tr.text (n := 1000) ?g16 rfl rfl rfl)) fun _ => TrA.or (Tr.not (Tr.text (n := 1000) ?g17 rfl rfl rfl)) fun _ => TrA.or_nil)) ?g18) ?n8
      case g16 => walk_at "ev"
      case g17 => walk_at "ev"
      case g18 =>
        have z1 : a2.length ≠ 0 := by omega
        have z2 : b2.length ≠ 0 := by omega
        rw [bne_iff_ne.mpr z1, bne_iff_ne.mpr z2]; rfl
      by_cases h40 : a2.length > 40 ∨ b2.length > 40
      · refine' Bl.if1 (Tr.eq (Tr.of (TrA.or (Tr.cmp (Ev.I ?g20) (R.gint rfl rfl rfl) (op_gt rfl) rfl) fun _ => TrA.or (Tr.cmp (Ev.I ?g21) (R.gint rfl rfl rfl) (op_gt rfl) rfl) fun _ => TrA.or_nil)) ?g22) (Bl.ret (Ev.addI ?g23 Ev.int) ?g24 sub_led)
        case g20 => walk_at "ev"
        case g21 => walk_at "ev"
        case g22 =>
          rcases h40 with hz | hz
          · rw [decide_eq_true (by omega), Bool.true_or]
          · rw [decide_eq_true (p := (b2.length : Int) > 40) (by omega), Bool.true_or, Bool.or_true]
        case g23 => walk_at "ev"
        case g24 =>
          rintro v ⟨t, rfl⟩
          exact ⟨⟨t, by rw [hM0, levT_b hz1 h40]⟩, rfl⟩
      have h41 : a2.length ≤ 40 ∧ b2.length ≤ 40 := by omega
      refine' Bl.cons (Ex.if0' (Tr.of (TrA.or (Tr.cmp (Ev.I ?g25) (R.gint rfl rfl rfl) (op_gt rfl) rfl) fun _ => TrA.or (Tr.cmp (Ev.I ?g26) (R.gint rfl rfl rfl) (op_gt rfl) rfl) fun _ => TrA.or_nil)) ?g27) ?n9
      case g25 => walk_at "ev"
      case g26 => walk_at "ev"
      case g27 => rw [decide_eq_false (by omega), decide_eq_false (p := (b2.length : Int) > 40) (by omega)]; rfl
      refine' Bl.exi (fun z : List Nat × List Nat => [("a", IsL 1000 z.1), ("b", IsL 1000 z.2), ("max_cost", IsI mx)]) (fun z => 1 ≤ z.1.length ∧ z.1.length ≤ 40 ∧ z.1.length ≤ z.2.length ∧ z.2.length ≤ 40 ∧ levM a b mx = if ((z.2.length : Int) - z.1.length) * 2 > mx then mx + 1 else levRows mx z.1 z.2 0 (row0 z.1.length) 0) ?g30 ?g31
      case g30 =>
        by_cases hsw : b2.length < a2.length
        · refine' ⟨(b2, a2), ⟨hz1.2, h41.2, Nat.le_of_lt hsw, h41.1, by rw [hM0, levT_c hz1 h41 hsw]⟩, Ex.if1 (Tr.cmp (Ev.I ?g32) (Ev.I ?g33) (op_lt ?g40) rfl) (Xs.cons (Ex.swap2 (EvA.cons ?g34 (EvA.cons ?g35 EvA.nil rfl) rfl) R.1 (Γ' := [("max_cost", IsI mx)]) ?g36 rfl rfl rfl rfl rfl rfl rfl) Xs.nil)⟩
          case g32 => walk_at "ev"
          case g33 => walk_at "ev"
          case g40 => exact decide_eq_true (by omega)
          case g34 => walk_at "ev"
          case g35 => walk_at "ev"
          case g36 => walk_at "sub"
        · refine' ⟨(a2, b2), ⟨hz1.1, h41.1, Nat.le_of_not_lt hsw, h41.2, by rw [hM0, levT_d hz1 h41 hsw]⟩, Ex.weak (Ex.if0' (Tr.cmp (Ev.I ?g37) (Ev.I ?g38) (op_lt rfl) rfl) ?g41) ?g39⟩
          case g37 => walk_at "ev"
          case g38 => walk_at "ev"
          case g41 => exact decide_eq_false (by omega)
          case g39 => walk_at "sub"
      case g31 =>
        clear hM0 hz1 h41 h40 hz
        rintro ⟨p, q⟩ ⟨hp1, hp40, hpq, hq40, hM⟩
        dsimp only at hp1 hp40 hpq hq40 hM ⊢
        have hcast : (((q.length - p.length) * 2 : Nat) : Int) = ((q.length : Int) - p.length) * 2 := by omega
        by_cases hgt : ((q.length : Int) - p.length) * 2 > mx
        · refine' Bl.if1 (Tr.cmp (Ev.eqI (Ev.I (Ev.mulK (n := 1000) (m := 2) (Ev.subK ?i1 ?i2 hpq) (R.gK 2 rfl rfl rfl) rfl)) hcast) ?i3 (op_gt (decide_eq_true hgt)) rfl) (Bl.ret (Ev.addI ?i4 Ev.int) ?i5 sub_led)
          case i1 => walk_at "ev"
          case i2 => walk_at "ev"
          case i3 => walk_at "ev"
          case i4 => walk_at "ev"
          case i5 =>
            rintro v ⟨t, rfl⟩
            exact ⟨⟨t, by rw [hM, if_pos hgt]⟩, rfl⟩
        refine' Bl.cons (Ex.if0' (Tr.cmp (Ev.eqI (Ev.I (Ev.mulK (n := 1000) (m := 2) (Ev.subK ?i6 ?i7 hpq) (R.gK 2 rfl rfl rfl) rfl)) hcast) ?i8 (op_gt rfl) rfl) (decide_eq_false hgt)) ?i9
        case i6 => walk_at "ev"
        case i7 => walk_at "ev"
        case i8 => walk_at "ev"
        rw [if_neg hgt] at hM
        refine' Bl.assignN (EvN.listRange (n := p.length) Glist Grange hh (EvA.cons (R.gint rfl rfl rfl) (EvA.cons (Ev.eqI (Ev.I (Ev.mulK (n := 2) (m := 1000 + 1) (R.gK 2 rfl rfl rfl) (Ev.addK ?i10 (Ev.kst (k := 1) rfl)) rfl)) ?i30) (EvA.cons (R.gint rfl rfl rfl) EvA.nil rfl) rfl) rfl) (by omega) rfl rfl rfl rfl rfl) ?i11 sub_refl rfl rfl rfl rfl
        case i10 => walk_at "ev"
        case i30 => omega
        rintro _ _ ⟨D, o, ls, rfl, rfl, hiv, hls⟩ hD
        have hle : ls.length = p.length := by have := congrArg List.length hls; simpa [row0] using this
        refine' Bl.cons (Ex.assign Ev.int sub_refl rfl rfl rfl rfl) ?i12
        refine' Bl.forRange (n := q.length) (m := 1000) (a₀ := ((o, ls, 0) : Obj × List (Int × Tok) × Int)) (fun j z => [("result", IsI z.2.2), ("row", IsV (.ref D)), ("a", IsL 1000 p), ("b", IsL 1000 q), ("max_cost", IsI mx)]) (fun j z => [(D, z.1)])
          (fun j z => IsIv z.1 z.2.1 ∧ z.2.1.length = p.length ∧ levM a b mx = levRows mx p (q.drop j) j (z.2.1.map (·.1)) z.2.2) rfl hh Grange ?i13 rfl ⟨hiv, hle, by rw [hM, hls]; rfl⟩ ?hadr ?hfr ?hdis ?turn ?done rfl rfl rfl rfl (fun _ => rfl)
        case i13 => walk_at "ev"
        case hadr => intro i z z' _ _; rfl
        case hfr => intro i z; rfl
        case hdis => exact fun i z _ q hq r hr => by rw [List.mem_singleton.mp hq]; exact Nat.ne_of_lt (hD _ (.head _) r hr)
        case done =>
          rintro ⟨o2, ls2, res⟩ ⟨_, _, hM2⟩
          rw [List.drop_length] at hM2
          refine' Bl.ret ?i14 ?i15 (fun q hq => .tail _ hq)
          case i14 => walk_at "ev"
          case i15 => rintro v ⟨t, rfl⟩; exact ⟨⟨t, by rw [hM2]; rfl⟩, rfl⟩
        case turn =>
          rintro j ⟨o2, ls2, res⟩ hj ⟨hiv2, hlen2, hM2⟩ N' hN' hapN
          rw [levRows_at hj] at hM2
          refine' Bl.cons (Ex.assign (Ev.item (n := 1000) ?i16 ?i17 hj rfl rfl (fun _ => rfl)) sub_refl rfl rfl rfl rfl) ?i18
          case i16 => walk_at "ev"
          case i17 => walk_at "ev"
          generalize q[j] = cc at *
          refine' Bl.cons (Ex.assignTwo (Ev.eqI (j := (j : Int) * 2) (Ev.I (Ev.mulK (n := 1000) (m := 2) (Ev.toK ?i19 ?i31) (R.gK 2 rfl rfl rfl) rfl)) ?i32) (Γ' := [("bchar", IsL 1 [cc]), ("row", IsV (.ref D)), ("a", IsL 1000 p), ("b", IsL 1000 q), ("max_cost", IsI mx)]) ?i20 rfl rfl rfl rfl rfl rfl rfl) ?i21
          case i19 => walk_at "ev"
          case i31 => omega
          case i32 => omega
          case i20 => walk_at "sub"
          case' i21 => skip
          refine' Bl.cons (Ex.assign Ev.int sub_refl rfl rfl rfl rfl) ?i22
          refine' Bl.forRange (n := p.length) (m := 1000) (N := N') (a₀ := ((o2, ls2, (j : Int) * 2, (j : Int) * 2, 9223372036854775807) : Obj × List (Int × Tok) × Int × Int × Int)) (fun i z => [("minimum", IsI z.2.2.2.2), ("result", IsI z.2.2.2.1), ("distance", IsI z.2.2.1), ("bchar", IsL 1 [cc]), ("row", IsV (.ref D)), ("a", IsL 1000 p), ("b", IsL 1000 q), ("max_cost", IsI mx)]) (fun i z => [(D, z.1)])
            (fun i z => IsIv z.1 z.2.1 ∧ z.2.1.length = p.length ∧ rowRun cc p (ls2.map (·.1)) ((j : Int) * 2) ((j : Int) * 2) 9223372036854775807 = ((z.2.1.map (·.1)).take i ++ (rowRun cc (p.drop i) ((z.2.1.map (·.1)).drop i) z.2.2.1 z.2.2.2.1 z.2.2.2.2).1, (rowRun cc (p.drop i) ((z.2.1.map (·.1)).drop i) z.2.2.1 z.2.2.2.1 z.2.2.2.2).2)) rfl hh Grange ?i23 rfl ⟨hiv2, hlen2, rowRun_zero ..⟩ ?hadr2 ?hfr2 ?hdis2 ?turn2 ?done2 rfl rfl rfl rfl (fun _ => rfl)
          case i23 => walk_at "ev"
          case hadr2 => intro i z z' _ _; rfl
          case hfr2 => intro i z; rfl
          case hdis2 => exact fun i z _ q hq r hr => by rw [List.mem_singleton.mp hq]; exact hapN (D, o2) (.head _) r hr
          case done2 =>
            rintro ⟨o3, ls3, dist, res3, mn⟩ ⟨hiv3, hlen3, hR⟩
            rw [rowRun_end (by simpa using hlen3)] at hR
            rw [hR] at hM2
            dsimp only at hM2
            by_cases hmn : mn > mx
            · rw [if_pos hmn] at hM2
              refine' Bl.if1r (Tr.cmp ?j1 ?j2 (op_gt (decide_eq_true hmn)) rfl) (Bl.retQ (Ev.addI ?j3 Ev.int) ?j4)
              case j1 => walk_at "ev"
              case j2 => walk_at "ev"
              case j3 => walk_at "ev"
              case j4 =>
                rintro v s' ⟨t, rfl⟩ st
                exact retP ⟨⟨t, by rw [hM2]⟩, rfl⟩ (fun q hq => .tail _ (hN' q hq)) st
            · rw [if_neg hmn] at hM2
              refine' Bl.cons (Ex.if0' (Tr.cmp ?j5 ?j6 (op_gt rfl) rfl) (decide_eq_false hmn)) (Bl.nil fun s' st => ⟨(o3, ls3, res3), ⟨hiv3, hlen3, hM2⟩, st.weak ?j7⟩)
              case j5 => walk_at "ev"
              case j6 => walk_at "ev"
              case j7 => walk_at "sub"
          case turn2 =>
            rintro i ⟨o3, ls3, dist, res3, mn⟩ hi ⟨hiv3, hlen3, hR⟩ N'' hN'' hapN2
            have hi3 : i < ls3.length := by rw [show ls3.length = p.length from hlen3]; exact hi
            have hl3 : ls3.length ≤ 1000 := by rw [show ls3.length = p.length from hlen3]; omega
            refine' Bl.cons (Ex.assign (Ev.addI ?k1 (Ev.call Fsubst (EvA.cons ?k2 (EvA.cons (Ev.item (n := 1000) ?k3 ?k4 hi rfl rfl (fun _ => rfl)) EvA.nil rfl) rfl) (cn_subst R.2.1 rfl) rfl rfl rfl)) sub_refl rfl rfl rfl rfl) ?k5
            case k1 => walk_at "ev"
            case k2 => walk_at "ev"
            case k3 => walk_at "ev"
            case k4 => walk_at "ev"
            refine' Bl.cons (Ex.assignAt (EvAt.row ?k6 (.head _) hiv3 ?k7 hi3 hl3 rfl (fun _ => rfl)) (Γ' := [("substitute", IsI (dist + substC cc p[i])), ("index", IsI (i : Int)), ("minimum", IsI mn), ("result", IsI res3), ("bchar", IsL 1 [cc]), ("row", IsV (.ref D)), ("a", IsL 1000 p), ("b", IsL 1000 q), ("max_cost", IsI mx)]) ?k8 rfl rfl rfl rfl) ?k9
            case k6 => walk_at "ev"
            case k7 => walk_at "ev"
            case k8 => walk_at "sub"
            case' k9 => skip
            refine' Bl.cons (Ex.assign (Ev.addI (Ev.fun2 Gmin ?k10 ?k11 (cn_min hh) rfl rfl rfl) (R.gint rfl rfl rfl)) sub_refl rfl rfl rfl rfl) ?k12
            case k10 => walk_at "ev"
            case k11 => walk_at "ev"
            case' k12 => skip
            refine' Bl.cons (Ex.assign (Ev.fun2 Gmin ?k13 ?k14 (cn_min hh) rfl rfl rfl) (Γ' := [("distance", IsI ls3[i].1), ("index", IsI (i : Int)), ("minimum", IsI mn), ("bchar", IsL 1 [cc]), ("row", IsV (.ref D)), ("a", IsL 1000 p), ("b", IsL 1000 q), ("max_cost", IsI mx)]) ?k15 rfl rfl rfl rfl) ?k16
            case k13 => walk_at "ev"
            case k14 => walk_at "ev"
            case k15 => walk_at "sub"
            case' k16 => skip
            have hap : ∀ z ∈ N'', z.1 ≠ D := hapN2 (D, o3) (.head _)
            refine' Bl.rowSet ?k17 hap hiv3 ?k18 ?k19 hi3 hl3 ?k20 rfl
            case k17 => walk_at "ev"
            case k18 => walk_at "ev"
            case k19 => walk_at "ev"
            intro o4 t4 hiv4
            have hr9 : min (min res3 ls3[i].1 + 2) (dist + substC cc p[i]) = min (min res3 (ls3.map (·.1))[i]! + 2) (dist + substC cc p[i]) := by
              rw [List.getElem!_eq_getElem?_getD, List.getElem?_map, List.getElem?_eq_getElem hi3]; rfl
            have hd9 : (ls3.map (·.1))[i]! = ls3[i].1 := by rw [List.getElem!_eq_getElem?_getD, List.getElem?_map, List.getElem?_eq_getElem hi3]; rfl
            have hlen4 : ∀ r, (ls3.set i r).length = p.length := fun r => by rw [List.length_set]; exact hlen3
            by_cases hmn : min (min res3 ls3[i].1 + 2) (dist + substC cc p[i]) < mn
            · refine' Bl.cons (Ex.if1 (Tr.cmp ?m1 ?m2 (op_lt (decide_eq_true hmn)) rfl) (Xs.cons (Ex.assign ?m3 (Γ' := [("result", IsI (min (min res3 ls3[i].1 + 2) (dist + substC cc p[i]))), ("distance", IsI ls3[i].1), ("bchar", IsL 1 [cc]), ("row", IsV (.ref D)), ("a", IsL 1000 p), ("b", IsL 1000 q), ("max_cost", IsI mx)]) ?m4 rfl rfl rfl rfl) Xs.nil)) (Bl.nil fun s' st => ⟨(o4, ls3.set i (_, t4), ls3[i].1, _, _), ⟨hiv4, hlen4 _, ?m5⟩, st.weak ?m6⟩)
              case m1 => walk_at "ev"
              case m2 => walk_at "ev"
              case m3 => walk_at "ev"
              case m4 => walk_at "sub"
              case m6 => walk_at "sub"
              case m5 =>
                rw [List.map_set]
                exact hR.trans (rowRun_step hi (by simpa using hlen3) hd9 hr9 (by rw [if_pos hmn]))
            · refine' Bl.cons (Ex.if0' (Tr.cmp ?m7 ?m8 (op_lt rfl) rfl) (decide_eq_false hmn)) (Bl.nil fun s' st => ⟨(o4, ls3.set i (_, t4), ls3[i].1, _, _), ⟨hiv4, hlen4 _, ?m9⟩, st.weak ?m10⟩)
              case m7 => walk_at "ev"
              case m8 => walk_at "ev"
              case m10 => walk_at "sub"
              case m9 =>
                rw [List.map_set]
                exact hR.trans (rowRun_step hi (by simpa using hlen3) hd9 hr9 (by rw [if_neg hmn]))
end Mine

end
section
open PySem PySem.W PySem.Calls PyProof.Rows
set_option linter.unusedVariables false
set_option maxRecDepth 100000
namespace Mine
variable {c : Cx} {Γ Γ₁ Γ' : Tys} {N N₀ N₁ N' : Led} {Q : Flow → Shared → Prop}
/-- a list of texts -/
def lsT (ls : List (Str × Tok)) (n : Nat) : Obj := listOf (strValues ls).toArray n
theorem op_notin {x y : Str} {r : Bool} (hr : (!Txt.contains x y) = r) : ∀ v v', IsX y v → IsX x v' → ∀ s Q E, Q (.bool r) s → wpAny (model c.prog c.w) c.A (compareOp .NotIn v v') Q E s := by
  rintro v v' ⟨t, rfl⟩ ⟨t', rfl⟩ s Q E h
  subst hr
  exact notIn_str h
theorem Rm.gstr {p : Program} {n : Nat} (R : Rm c p n) {x : Str} {y : Str} {t : Tok} {pp : Pos} (h : nsIn c.K mainGlobals x = some (some (.str y t))) (hk : c.env.kindOf x = some .globalImplicit) (hd : (x == ("__debug__" : Str)) = false) : Ev c Γ (.Name x pp) (IsX y) :=
  Ev.mono (Ev.gl (R.2.2.2.1 x _ h hk hd)) fun v e => ⟨t, e⟩
theorem Tr.textX {e : Expr} {x : Str} {r : Bool} (h : Ev c Γ e (IsX x)) (hn : x.length ≤ 1000000) (hr : (x.length != 0) = r) (he : isTrue e c.env (eval e c.env) = (do let v ← eval e c.env; standAt e.pos; holding [v] (truthy v))) : Tr c Γ e r := fun N s hs =>
  isTrue_plain (wp_then (h N s hs) fun v s₁ h₁ => by
    obtain ⟨⟨t, rfl⟩, h₂⟩ := h₁
    refine SBL.truthy (by omega) ⟨?_, h₂.toks _⟩
    subst hr
    rw [Bool.eq_iff_iff]
    simp) he
theorem cn_lenX {x : Str} (h : x.length ≤ 1000000) : ∀ v, IsX x v → Cn c (.builtin "len") [v] (IsI x.length) := by
  rintro v ⟨t, rfl⟩ Γ N s hs
  exact P.len_str (by omega) ⟨⟨_, rfl⟩, hs.toks _⟩
/-- a method of a text, one text given -/
theorem Ev.startswith {a b : Expr} {p p2 : Pos} {x y : Str} {pl : Sem Bool} (ha : Ev c Γ a (IsX x)) (hb : Ev c Γ b (IsX y)) (h1 : starEach [b] c.env = (false, eval b c.env) :: starEach [] c.env)
    (he : eval (.Call (.Attribute a "startswith" p) [b] [] p2) c.env = (do
      let ov ← eval a c.env
      standAt p.atName
      let (f, first) ← holding [ov] (getMethod ov "startswith" pl)
      callWith p2 f first (backTo p2 (starEach [b] c.env)) [])) : Ev c Γ (.Call (.Attribute a "startswith" p) [b] [] p2) (IsB (Txt.startswith x y)) := by
  intro N s hs
  refine MethodCall_ (pl := pl) (wp_then (ha N s hs) ?_) he
  rintro v s₁ ⟨⟨t, rfl⟩, h₁⟩
  refine GM.startswith (callWith_method1 (wp_then (EvA.cons hb EvA.nil h1 p2 N s₁ h₁) ?_) h1 rfl)
  rintro vs s₂ ⟨hv, h₂⟩
  obtain ⟨v1, rfl⟩ := lenP1 hv
  obtain ⟨⟨t', rfl⟩, _⟩ := hv
  exact SC.startswith ⟨rfl, h₂⟩
theorem Ev.endswithX {a b : Expr} {p p2 : Pos} {x y : Str} {pl : Sem Bool} (ha : Ev c Γ a (IsX x)) (hb : Ev c Γ b (IsX y)) (h1 : starEach [b] c.env = (false, eval b c.env) :: starEach [] c.env)
    (he : eval (.Call (.Attribute a "endswith" p) [b] [] p2) c.env = (do
      let ov ← eval a c.env
      standAt p.atName
      let (f, first) ← holding [ov] (getMethod ov "endswith" pl)
      callWith p2 f first (backTo p2 (starEach [b] c.env)) [])) : Ev c Γ (.Call (.Attribute a "endswith" p) [b] [] p2) (IsB (Txt.endswith x y)) := by
  intro N s hs
  refine MethodCall_ (pl := pl) (wp_then (ha N s hs) ?_) he
  rintro v s₁ ⟨⟨t, rfl⟩, h₁⟩
  refine GM.endswith (callWith_method1 (wp_then (EvA.cons hb EvA.nil h1 p2 N s₁ h₁) ?_) h1 rfl)
  rintro vs s₂ ⟨hv, h₂⟩
  obtain ⟨v1, rfl⟩ := lenP1 hv
  obtain ⟨⟨t', rfl⟩, _⟩ := hv
  exact SC.endswith ⟨rfl, h₂⟩
theorem Ev.find4 {a b d e : Expr} {p p2 : Pos} {x y : Str} {i j : Int} {pl : Sem Bool} (ha : Ev c Γ a (IsX x)) (hb : EvA c Γ [b, d, e] [IsX y, IsI i, IsI j]) (h1 : starEach [b, d, e] c.env = (false, eval b c.env) :: starEach [d, e] c.env) (h2 : (backTo p2 (starEach [d, e] c.env)).any (·.1) = false)
    (he : eval (.Call (.Attribute a "find" p) [b, d, e] [] p2) c.env = (do
      let ov ← eval a c.env
      standAt p.atName
      let (f, first) ← holding [ov] (getMethod ov "find" pl)
      callWith p2 f first (backTo p2 (starEach [b, d, e] c.env)) [])) : Ev c Γ (.Call (.Attribute a "find" p) [b, d, e] [] p2) (IsI (find4 x y i j)) := by
  intro N s hs
  refine MethodCall_ (pl := pl) (wp_then (ha N s hs) ?_) he
  rintro v s₁ ⟨⟨t, rfl⟩, h₁⟩
  refine GM.find (callWith_method1 (wp_then (hb p2 N s₁ h₁) ?_) h1 h2)
  rintro vs s₂ ⟨hv, h₂⟩
  obtain ⟨v1, v2, v3, rfl⟩ := lenP3 hv
  obtain ⟨⟨t1, rfl⟩, ⟨t2, rfl⟩, ⟨t3, rfl⟩, _⟩ := hv
  exact call_find4 ⟨⟨_, rfl⟩, h₂.toks _⟩
theorem EvN.split {a b : Expr} {p p2 : Pos} {x y : Str} {pl : Sem Bool} (ha : Ev c Γ a (IsX x)) (hb : Ev c Γ b (IsX y)) (hx : x.length ≤ 1000) (hy : (y.length == 0) = false) (h1 : starEach [b] c.env = (false, eval b c.env) :: starEach [] c.env)
    (he : eval (.Call (.Attribute a "split" p) [b] [] p2) c.env = (do
      let ov ← eval a c.env
      standAt p.atName
      let (f, first) ← holding [ov] (getMethod ov "split" pl)
      callWith p2 f first (backTo p2 (starEach [b] c.env)) [])) : EvN c Γ (.Call (.Attribute a "split" p) [b] [] p2) (fun v own => ∃ D ls, v = .ref D ∧ own = [(D, lsT ls 0)] ∧ ls.map (·.1) = Txt.split x y) := by
  intro N s hs
  refine MethodCall_ (pl := pl) (wp_then (ha N s hs) ?_) he
  rintro v s₁ ⟨⟨t, rfl⟩, h₁⟩
  refine GM.split (callWith_method1 (wp_then (EvA.cons hb EvA.nil h1 p2 N s₁ h₁) ?_) h1 rfl)
  rintro vs s₂ ⟨hv, h₂⟩
  obtain ⟨v1, rfl⟩ := lenP1 hv
  obtain ⟨⟨t', rfl⟩, _⟩ := hv
  · skip
    obtain ⟨h', tk, gs, m, rfl, hb, g, F, Nn, H⟩ := h₂
    exact KSpl.split1 F Nn hy (fun D ls h₂ k e a F₂ N₂ hD => ⟨_, ⟨D, ls, rfl, rfl, e⟩, (fun p hp q hq => by rw [List.mem_singleton.mp hp]; exact hD q hq), h₂, k, gs, m, rfl, hb, g, F₂, N₂, H⟩) (by have := sizeLine_eq; omega)
/-- tests that ask the ledger -/
def TrAt (c : Cx) (Γ : Tys) (N : Led) (e : Expr) (b : Bool) : Prop := ∀ s, St c Γ N s → wpAny (model c.prog c.w) c.A (isTrue e c.env (eval e c.env)) (fun b' s' => b' = b ∧ St c Γ N s') noE s
theorem TrAt.cmp {a b : Expr} {o : CmpOp} {p : Pos} {P P' : Value → Prop} {r : Bool} (ha : EvAt c Γ N a P) (hb : EvAt c Γ N b P')
    (hop : ∀ v v', P v → P' v' → ∀ s Q E, Q (.bool r) s → wpAny (model c.prog c.w) c.A (compareOp o v v') Q E s) (hm : behindInMarks o b = false) : TrAt c Γ N (.Compare a [o] [b] p) r := by
  intro s hs
  exact wpAny_isTrue_Compare1 (wp_then (ha s hs) fun v s₁ h₁ => wp_then (hb s₁ h₁.2) fun v' s₂ h₂ => hop v v' h₁.1 h₂.1 _ _ _ (wpAny_truthy_bool ⟨rfl, h₂.2⟩)) hm
theorem Ex.assertAt {t : Expr} {p : Pos} (hh : c.A.handled = none) (ht : TrAt c Γ N t true) : Ex c Γ N (.Assert t none p) Γ N := fun s hs =>
  wpAny_Assert_new hh (wp_then (ht s hs) fun b s₁ h₁ => by rw [h₁.1]; exact ⟨rfl, h₁.2⟩)
theorem op_ge {a b : Int} {r : Bool} (hr : decide (a ≥ b) = r) : ∀ v v', IsI a v → IsI b v' → ∀ s Q E, Q (.bool r) s → wpAny (model c.prog c.w) c.A (compareOp .GtE v v') Q E s := by
  rintro v v' ⟨t, rfl⟩ ⟨t', rfl⟩ s Q E h; subst hr; exact ge_int h
theorem EvAt.len {x y : Str} {p p2 p3 : Pos} {D : Addr} {ls : List (Str × Tok)} {n : Nat} (hf : Gl c x (.builtin "len")) (hy : Ev c Γ (.Name y p2) (IsV (.ref D))) (hm : (D, lsT ls n) ∈ N) (hl : ls.length ≤ 100000)
    (he : eval (.Call (.Name x p) [.Name y p2] [] p3) c.env = (do callWith p3 (← eval (.Name x p) c.env) [] (backTo p3 (starEach [.Name y p2] c.env)) (backToKw p3 (keywordEach [] c.env)))) : EvAt c Γ N (.Call (.Name x p) [.Name y p2] [] p3) (IsI ls.length) := by
  intro s hs
  obtain ⟨m0, F0⟩ := hs.fr
  refine Call_ (hf p s m0 _ _ F0 ?_) he
  refine PyProof.Rows.callWith_builtin1 ?_ rfl
  refine wp_then (EvA.cons hy EvA.nil rfl p3 N s hs) fun vs s₂ h₂ => ?_
  have hv := h₂.1
  obtain ⟨v1, rfl⟩ := lenP1 hv
  obtain ⟨⟨rfl, _⟩, h₂⟩ := h₂
  · skip
    have h₃ := h₂
    obtain ⟨h', tk, gs, m, rfl, hb, g, F, Nn, H⟩ := h₂
    have hsz : (strValues ls).toArray.size = ls.length := by simp [strValues]
    exact len_list (Nn.isList hm) (by rw [hsz]; omega) ⟨⟨_, by rw [hsz]⟩, h₃.toks _⟩
theorem EvAt.first {x : Str} {px p p2 : Pos} {k : Nat} {D : Addr} {z : Str} {tz : Tok} {ls : List (Str × Tok)} {n : Nat} (hx : Ev c Γ (.Name x px) (IsV (.ref D))) (hm : (D, lsT ((z, tz) :: ls) n) ∈ N)
    (hs : ∀ {u}, subscripted (.Constant (.int 0) k p2) false (.ref D) (.int 0 u) = operate [.ref D, .int 0 u] (getItem (.ref D) (.int 0 u))) (hg : ∀ r, letTemporaryGo (.Name x px) (.ref D) r = pure ()) : EvAt c Γ N (.Subscript (.Name x px) (.Constant (.int 0) k p2) p) (IsX z) := by
  intro s h
  refine Subscript_ (wp_then (hx N s h) ?_)
  rintro v s₁ ⟨rfl, h₁⟩
  refine wpAny_Constant_int ?_
  have h₂ := h₁.toks (s₁.toks + 1)
  obtain ⟨h', tk, gs, m, rfl, hb, g, F, Nn, H⟩ := h₁
  exact item_list (Nn.isList hm) (by decide) (by decide) rfl ⟨⟨_, rfl⟩, h₂⟩ hs hg
theorem EvAt.last {x : Str} {px p p2 p3 : Pos} {k : Nat} {D : Addr} {z : Str} {tz : Tok} {ls : List (Str × Tok)} {n : Nat} (hx : Ev c Γ (.Name x px) (IsV (.ref D))) (hm : (D, lsT (ls ++ [(z, tz)]) n) ∈ N) (hl : ls.length ≤ 100000)
    (hs : ∀ {u}, subscripted (.UnaryOp .USub (.Constant (.int 1) k p2) p3) false (.ref D) (.int (-1) u) = operate [.ref D, .int (-1) u] (getItem (.ref D) (.int (-1) u))) (hg : ∀ r, letTemporaryGo (.Name x px) (.ref D) r = pure ()) : EvAt c Γ N (.Subscript (.Name x px) (.UnaryOp .USub (.Constant (.int 1) k p2) p3) p) (IsX z) := by
  intro s h
  refine Subscript_ (wp_then (hx N s h) ?_)
  rintro v s₁ ⟨rfl, h₁⟩
  refine UnaryOp_ (wpAny_Constant_int (neg_int ?_))
  have h₂ := h₁.toks (s₁.toks + 1 + 1)
  obtain ⟨h', tk, gs, m, rfl, hb, g, F, Nn, H⟩ := h₁
  have hl' : Heap.IsList h' D (strValues ls ++ [Value.str z tz]).toArray := by
    have := Nn.isList hm
    rwa [show strValues (ls ++ [(z, tz)]) = strValues ls ++ [Value.str z tz] by simp [strValues]] at this
  refine subscriptTail_builtin (s := { c.s₁ with heap := h', toks := tk + 1 + 1, gens := gs }) hl'.typeIs slot_list_getitem.lookup (wpAny_getItem_list_neg hl' (by decide) (by simp [strValues]; omega) (by decide) (x := .str z tz) ?_ ⟨⟨_, rfl⟩, h₂⟩) hs hg
  have : ((-1 : Int) + ((strValues ls ++ [Value.str z tz]).toArray.size : Nat)).toNat = (strValues ls).length := by simp; omega
  rw [this]; simp
theorem Ex.del0 {x : Str} {px p p2 p3 : Pos} {k : Nat} {D : Addr} {q : Str × Tok} {ls : List (Str × Tok)} {n : Nat} (hx : Ev c Γ (.Name x px) (IsV (.ref D))) (hap : ∀ p ∈ N, p.1 ≠ D) (hl : ls.length ≤ 100000) : Ex c Γ ((D, lsT (q :: ls) n) :: N) (.Delete [.Subscript (.Name x px) (.Constant (.int 0) k p2) p] p3) Γ ((D, lsT ls (n + 1)) :: N) := by
  intro s h
  refine wpAny_Delete (wpAny_deleteEach_cons (delete_Subscript (wp_then (hx _ s h) ?_)))
  rintro v s₁ ⟨rfl, h₁⟩
  refine wpAny_Constant_int ?_
  obtain ⟨h', tk, gs, m, rfl, hb, g, F, Nn, H⟩ := h₁
  refine delItem_head (s := { c.s₁ with heap := h', toks := tk + 1, gens := gs }) F Nn hap (by decide) (k := 0) (by simp [seqIndex?, strValues]) (fun h₂ F₂ N₂ => wpAny_deleteEach_nil ⟨rfl, h₂, tk + 1, gs, m, rfl, hb, g, F₂, N₂, H⟩) (by simp [strValues]; have := sizeLine_eq; omega)
theorem Ex.delL {x : Str} {px p p2 p3 p4 : Pos} {k : Nat} {D : Addr} {q : Str × Tok} {ls : List (Str × Tok)} {n : Nat} (hx : Ev c Γ (.Name x px) (IsV (.ref D))) (hap : ∀ p ∈ N, p.1 ≠ D) (hl : ls.length ≤ 100000) : Ex c Γ ((D, lsT (ls ++ [q]) n) :: N) (.Delete [.Subscript (.Name x px) (.UnaryOp .USub (.Constant (.int 1) k p2) p4) p] p3) Γ ((D, lsT ls (n + 1)) :: N) := by
  intro s h
  refine wpAny_Delete (wpAny_deleteEach_cons (delete_Subscript (wp_then (hx _ s h) ?_)))
  rintro v s₁ ⟨rfl, h₁⟩
  refine UnaryOp_ (wpAny_Constant_int (neg_int ?_))
  obtain ⟨h', tk, gs, m, rfl, hb, g, F, Nn, H⟩ := h₁
  refine delItem_head (s := { c.s₁ with heap := h', toks := tk + 1 + 1, gens := gs }) F Nn hap (by decide) (k := ls.length) ?_ (fun h₂ F₂ N₂ => wpAny_deleteEach_nil ⟨rfl, h₂, tk + 1 + 1, gs, m, rfl, hb, g, F₂, ?_, H⟩) (by simp [strValues]; have := sizeLine_eq; omega)
  · simp [seqIndex?, strValues]; omega
  · have e : ((strValues (ls ++ [q])).toArray.toList.eraseIdx ls.length) = strValues ls := by simp [strValues, List.eraseIdx_append_of_length_le]
    rw [e] at N₂; exact N₂
theorem Bl.else1 {t : Expr} {body orelse : List Stmt} {p : Pos} {l : List Stmt} {P : Value → Led → Prop} (ht : Tr c Γ t false) (h : Bl c Γ N orelse (RetP c N₀ P)) : Bl c Γ N (.If t body orelse p :: l) (RetP c N₀ P) := fun s hs =>
  wpAny_execs_cons (wpAny_If (wp_then (ht N s hs) fun b s₁ h₁ => by
    rw [h₁.1]
    exact wp_then (h s₁ h₁.2) fun f s₂ ⟨v, own, hf, r⟩ => by subst hf; exact ⟨v, own, rfl, r⟩))
theorem Bl.exi2 {α : Type} {st : Stmt} {l : List Stmt} (Γf : α → Tys) (Nf : α → Led) (Inv : α → Prop) (h : ∃ a, Inv a ∧ Ex c Γ N st (Γf a) (Nf a)) (hk : ∀ a, Inv a → Bl c (Γf a) (Nf a) l Q) : Bl c Γ N (st :: l) Q := let ⟨a, hI, h⟩ := h; Bl.cons h (hk a hI)
/-- for x in y, a list of texts -/
theorem Bl.forTexts {α : Type} {x y : Str} {p1 p2 p4 : Pos} {body l : List Stmt} {D : Addr} {ls : List (Str × Tok)} {n : Nat} (Γf : Nat → α → Tys) (Inv : Nat → α → Prop) {a₀ : α} (hkp : c.keep = true) (hh : c.A.handled = none)
    (hy : Ev c (Γf 0 a₀) (.Name y p2) (IsV (.ref D))) (hm : (D, lsT ls n) ∈ N) (h0 : Inv 0 a₀) (hf : ∀ i a, fresh x (Γf i a) = true)
    (turn : ∀ i a z, (ls.map (·.1))[i]? = some z → Inv i a → ∀ N', (∀ q ∈ N, q ∈ N') → Bl c ((x, IsX z) :: Γf i a) N' body (TurnP Q fun s' => ∃ a', Inv (i + 1) a' ∧ St c (Γf (i + 1) a') N' s'))
    (done : ∀ a, Inv ls.length a → Bl c (Γf ls.length a) N l Q) (hx : c.env.kindOf x = some .local) (hp : (c.env.scope.kind == .class || (c.env.scope.kind == .module && c.env.locals != c.env.globals)) = false)
    (hs : ∀ v, foldedSetIterable (.Name y p2) c.env v = pure v) : Bl c (Γf 0 a₀) N (.For (.Name x p1) (.Name y p2) body [] p4 :: l) Q := by
  intro s hs0
  obtain ⟨m0, F0⟩ := hs0.fr
  refine wpAny_execs_cons (For_invVF (h₀ := c.g) F0 hx hp ?_ hs PassesOwn.never)
  refine wp_then (hy N s hs0) ?_
  rintro v s₁ ⟨rfl, h₁⟩
  obtain ⟨h', tk, gs, m₁, rfl, hbr, g, F, Nn, H⟩ := h₁
  have hD := Nn _ hm
  refine iter_list (s := { c.s₁ with heap := h', toks := tk, gens := gs }) (vs := strValues ls) (fun i m nx => ∃ a, Inv i a ∧ nx = N ∧ Has m (Γf i a)) hh (Nn.isList hm) (fun e => hD.2.1 e.symm) F Nn ⟨a₀, h0, rfl, H⟩ ?_ ?_
  · rintro i v m₃ nx h₃ tk₃ own I hv hI hown hno ⟨a, hIa, rfl, H₃⟩ F₃ N₃
    simp only [strValues, List.getElem?_map, Option.map_eq_some_iff] at hv
    obtain ⟨q, hq, rfl⟩ := hv
    have st : St c ((x, IsX q.1) :: Γf i a) (nx ++ own) { c.s₁ with heap := h₃, toks := tk₃, gens := gs } := ⟨h₃, tk₃, gs, _, rfl, hbr, g, F₃, N₃, fun r hr => by
      rcases List.mem_cons.mp hr with rfl | hr
      · exact ⟨_, by simp, q.2, rfl⟩
      · obtain ⟨u, hu, hPu⟩ := H₃ r hr
        exact ⟨u, by simp only [if_neg (fresh_ne (hf i a) r hr)]; exact hu, hPu⟩⟩
    refine wp_then (turn i a q.1 (by rw [List.getElem?_map, hq]; rfl) hIa (nx ++ own) (fun q hq => List.mem_append_left _ hq) _ st) ?_
    rintro f s₄ hT
    rcases turnCases hT with ⟨v, rfl, hT⟩ | ⟨rfl, a', hIa', h₄, tk₄, gs₄, m₄, e₄, hb₄, g₄, F₄, N₄, H₄⟩
    · exact hT
    · skip
      obtain rfl : gs₄ = gs := (g₄ hkp).trans (g hkp).symm
      exact ⟨h₄, tk₄, m₄, _, nx, e₄, F₄, N₄, fun q hq => List.mem_append_left _ hq, fun q hq => List.mem_append_right _ hq, hno, a', hIa', rfl, H₄⟩
  · rintro m₃ nx h₃ tk₃ ⟨a, hIa, rfl, H₃⟩ F₃ N₃
    rw [show (strValues ls).length = ls.length by simp [strValues]] at hIa H₃
    exact done a hIa _ ⟨h₃, tk₃, gs, m₃, rfl, hbr, g, F₃, N₃, H₃⟩
end Mine

end
section
open PySem PySem.W PySem.Calls PyProof.Rows
set_option linter.unusedVariables false
set_option maxRecDepth 100000
set_option maxHeartbeats 6000000
namespace Mine
theorem occ_two (x : Str) (hc : (Builtin.Str.occurrences x (Str.ofString "...") 0 x.length 1).isEmpty = false) : 2 ≤ (Txt.split x (Str.ofString "...")).length := by
  have hf := (StrLaws.found_iff x (Str.ofString "...")).mp (by rw [hc]; rfl)
  obtain ⟨i, h1, h2⟩ := hf
  obtain ⟨f, hch, hno⟩ := StrLaws.occ_tight x (Str.ofString "...") (by decide)
  have hne : (Builtin.Str.occurrences x (Str.ofString "...") 0 x.length (x.length + 1)).isEmpty = false := by
    cases ho : Builtin.Str.occurrences x (Str.ofString "...") 0 x.length (x.length + 1) with
    | cons a r => rfl
    | nil =>
      rw [ho] at hch
      have e : f = 0 := hch
      subst e
      exact absurd ⟨h1, h2⟩ (hno i (Nat.zero_le _))
  have hk : ¬ Builtin.Str.strKind x < Builtin.Str.strKind (Str.ofString "...") := by
    have e : Builtin.Str.strKind (Str.ofString "...") = 1 := by decide +kernel
    rw [e]
    unfold Builtin.Str.strKind
    split
    · omega
    · split <;> omega
  have hl : ¬ x.length < (Str.ofString "...").length := by omega
  unfold Txt.split
  rw [if_neg (by simp only [hk, hl, decide_false, Bool.or_self]; decide), if_neg (by rw [hne]; decide), length_partsBetween]
  cases ho : Builtin.Str.occurrences x (Str.ofString "...") 0 x.length (x.length + 1) with
  | nil => rw [ho] at hne; cases hne
  | cons a r => simp
theorem ellA {x y p0 : Str} {r : List Str} (hc : (Builtin.Str.occurrences x (Str.ofString "...") 0 x.length 1).isEmpty = false) (h : Txt.split x (Str.ofString "...") = p0 :: r) :
    ellM x y = if p0.length = 0 then ell2 y (p0 :: r) 0 else if Txt.startswith y p0 then ell2 y r p0.length else false := by
  simp only [ellM, Txt.contains, hc, h, Bool.not_false, if_true, List.headD_cons, List.tail_cons]
theorem ell2A (y : Str) (r : List Str) (pl : Str) (st : Int) : ell2 y (r ++ [pl]) st = if pl.length = 0 then ell3 y (r ++ [pl]) st y.length else if Txt.endswith y pl then ell3 y r st (y.length - pl.length) else false := by
  have h : (r ++ [pl]).getLastD Str.empty = pl := by rw [List.getLastD_eq_getLast?]; simp
  simp only [ell2, h, List.dropLast_concat]
theorem ellF_cons {y w : Str} {e st : Int} {ws : List Str} {i : Nat} (h : ws[i]? = some w) : ellFind y e (ws.drop i) st = if find4 y w st e < 0 then false else ellFind y e (ws.drop (i + 1)) (find4 y w st e + w.length) := by
  have : ws.drop i = w :: ws.drop (i + 1) := by
    obtain ⟨hi, e⟩ := List.getElem?_eq_some_iff.mp h
    rw [← e]; exact List.drop_eq_getElem_cons hi
  rw [this]; rfl

theorem ell_fn (w : World) (x y : Str) (t u : Tok) (hx : x.length ≤ 1000) (hy : y.length ≤ 1000) :
   Fn PySem.Challenge.rw_rw0063_01.row.prog w (Mine.hd.heap_39 w.params) Mine.hd.view_39 42 1 [.str x t, .str y u] (isB (ellM x y)) := by
  k_fill
  refine' Fn.of_rt (n := 0) ?ho ?hcd ?hbd ?hlc [("want", IsX x), ("got", IsX y)] ?hΓ ?g1 ?g2 ?g3 ?g4 ?hr
  case ho => k_is
  case hcd => k_is
  case hbd => exact fun _ => BindsTo.of_eq rfl
  case hlc => exact locs rfl
  case g1 => exact rfl
  case g2 => exact rfl
  case g3 => exact rfl
  case g4 => decide
  case hΓ => simp only [Has, List.forall_mem_cons]; exact ⟨⟨_, rfl, t, rfl⟩, ⟨_, rfl, u, rfl⟩, fun _ h => nomatch h⟩
  case hr =>
  intro A L' g s R N
  refine letR R ?_
  intro c R
  have Glen : Gl c "len" (.builtin "len") := R.bi boot_len rfl (by decide) rfl rfl
  have hh : c.A.handled = none := R.1
  refine Rt.of ?_
  cases hc : Txt.contains x (Str.ofString "...") with
  | false =>
    refine' Bl.if1 (Tr.cmp (R.gstr rfl rfl rfl) ?e1 (op_notin (by rw [hc]; rfl)) rfl) (Bl.ret (Ev.cmp ?e2 ?e3 (op_eq_X rfl) rfl) ?e4 sub_led)
    case e1 => walk_at "ev"
    case e2 => walk_at "ev"
    case e3 => walk_at "ev"
    case e4 => rintro v rfl; exact ⟨by unfold ellM; rw [hc]; rfl, rfl⟩
  | true =>
    refine' Bl.cons (Ex.if0' (Tr.cmp (R.gstr rfl rfl rfl) ?e5 (op_notin rfl) rfl) (by rw [hc]; rfl)) ?n1
    case e5 => walk_at "ev"
    have hc2 : (Builtin.Str.occurrences x (Str.ofString "...") 0 x.length 1).isEmpty = false := by
      unfold Txt.contains at hc; simpa using hc
    have h2 := occ_two x hc2
    have sz9 : ∀ z ∈ Txt.split x (Str.ofString "..."), z.length ≤ 1000 := fun z hz => Nat.le_trans (part_short hz) hx
    have hsl := split_le x (Str.ofString "...")
    refine' Bl.assignN (EvN.split ?e6 (R.gstr rfl rfl rfl) hx (by decide) rfl rfl) ?n2 sub_refl rfl rfl rfl rfl
    case e6 => walk_at "ev"
    rintro _ _ ⟨D, ls, rfl, rfl, hls⟩ hD
    have hap : ∀ p ∈ N, p.1 ≠ D := fun p hp => Nat.ne_of_lt (hD _ (.head _) p hp)
    have hlen : ls.length = (Txt.split x (Str.ofString "...")).length := by rw [← hls, List.length_map]
    rw [← hls] at h2 sz9
    rw [List.length_map] at h2
    have hl1 : ls.length ≤ 1002 := by omega
    refine' Bl.cons (Ex.assertAt hh (TrAt.cmp (EvAt.len Glen ?e7 (.head _) (by omega) rfl) (Ev.at Ev.int) (op_ge (decide_eq_true (by omega))) rfl)) ?n3
    case e7 => walk_at "ev"
    refine' Bl.cons (Ex.swap2 (EvA.cons Ev.int (EvA.cons (Ev.fun1 (T := "len") Glen ?e8 (cn_lenX (x := y) (by omega)) rfl rfl) EvA.nil rfl) rfl) hh sub_refl rfl rfl rfl rfl rfl rfl rfl) ?n4
    case e8 => walk_at "ev"
    obtain ⟨⟨p0, t0⟩, r, rfl⟩ : ∃ q r, ls = q :: r := by
      cases ls with
      | nil => simp at h2
      | cons q r => exact ⟨q, r, rfl⟩
    rw [List.map_cons] at hls
    have hp0 : p0.length ≤ 1000 := sz9 p0 (by simp)
    have hA := ellA (y := y) hc2 hls.symm
    refine' Bl.cons (Ex.assignAt (EvAt.first ?e9 (.head _) rfl (fun _ => rfl)) sub_refl rfl rfl rfl rfl) ?n5
    case e9 => walk_at "ev"
    have phase2 : True := trivial
    by_cases hret : p0.length ≠ 0 ∧ Txt.startswith y p0 = false
    · refine' Bl.if1 (Tr.textX ?e10 (by omega) (bne_iff_ne.mpr hret.1) rfl) (Bl.else1 (Tr.plain (Ev.eqB (Ev.startswith ?e11 ?e12 rfl rfl) hret.2) rfl) (Bl.ret Ev.bool ?e13 (fun q hq => .tail _ hq)))
      case e10 => walk_at "ev"
      case e11 => walk_at "ev"
      case e12 => walk_at "ev"
      case e13 => rintro v rfl; exact ⟨by rw [hA, if_neg hret.1, hret.2]; rfl, rfl⟩
    refine' Bl.exi2 (fun z : List (Str × Tok) × Nat × Int => [("ws", IsV (.ref D)), ("startpos", IsI z.2.2), ("endpos", IsI (y.length : Int)), ("got", IsX y)]) (fun z => (D, lsT z.1 z.2.1) :: N) (fun z => z.1 ≠ [] ∧ z.1.length ≤ 1002 ∧ (∀ q ∈ z.1.map (·.1), q.length ≤ 1000) ∧ ellM x y = ell2 y (z.1.map (·.1)) z.2.2) ?ph1 ?n6
    case ph1 =>
      by_cases hz : p0.length = 0
      · refine' ⟨((p0, t0) :: r, 0, 0), ⟨by simp, hl1, sz9, by rw [hA, if_pos hz]; rfl⟩, Ex.weak (Ex.if0' (Tr.textX (x := p0) ?e14 (by omega) rfl rfl) ?e15) ?e16⟩
        case e14 => walk_at "ev"
        case e15 => rw [hz]; rfl
        case e16 => walk_at "sub"
      · have hst : Txt.startswith y p0 = true := by
          cases h : Txt.startswith y p0 with
          | true => rfl
          | false => exact absurd ⟨hz, h⟩ hret
        refine' ⟨(r, 1, (p0.length : Int)), ⟨?e17, by simp at hl1 ⊢; omega, fun q hq => sz9 q (.tail _ hq), by rw [hA, if_neg hz, hst]; rfl⟩, Ex.if1 (Tr.textX ?e18 (by omega) (bne_iff_ne.mpr hz) rfl) (Xs.cons (Ex.if1 (Tr.plain (Ev.eqB (Ev.startswith ?e19 ?e20 rfl rfl) hst) rfl) (Xs.cons (Ex.assign (Ev.fun1 (T := "len") Glen ?e21 (cn_lenX (x := p0) (by omega)) rfl rfl) (Γ' := [("ws", IsV (.ref D)), ("endpos", IsI (y.length : Int)), ("got", IsX y)]) ?e22 rfl rfl rfl rfl) (Xs.cons (Ex.weak (Ex.del0 ?e23 hap (by simp at hl1; omega)) ?e24) Xs.nil))) Xs.nil)⟩
        case e17 => intro e; subst e; simp at h2
        case e18 => walk_at "ev"
        case e19 => walk_at "ev"
        case e20 => walk_at "ev"
        case e21 => walk_at "ev"
        case e22 => walk_at "sub"
        case e23 => walk_at "ev"
        case e24 => walk_at "sub"
    rintro ⟨ls1, n1, st⟩ ⟨hne, hl1, sz1, hM⟩
    dsimp only at hne hl1 sz1 hM ⊢
    clear hA hls h2 sz9 hsl hlen hret hp0
    obtain ⟨ls', ⟨pl, tl⟩, rfl⟩ : ∃ l q, ls1 = l ++ [q] := ⟨ls1.dropLast, ls1.getLast hne, (List.dropLast_concat_getLast hne).symm⟩
    simp only [List.map_append, List.map_cons, List.map_nil] at hM sz1
    have hB := ell2A y (ls'.map (·.1)) pl st
    have hpl : pl.length ≤ 1000 := sz1 pl (by simp)
    have hll : ls'.length ≤ 1001 := by simp at hl1; omega
    refine' Bl.cons (Ex.assignAt (EvAt.last ?f1 (.head _) (by omega) rfl (fun _ => rfl)) sub_refl rfl rfl rfl rfl) ?n7
    case f1 => walk_at "ev"
    by_cases hret : pl.length ≠ 0 ∧ Txt.endswith y pl = false
    · refine' Bl.if1 (Tr.textX ?f2 (by omega) (bne_iff_ne.mpr hret.1) rfl) (Bl.else1 (Tr.plain (Ev.eqB (Ev.endswithX ?f3 ?f4 rfl rfl) hret.2) rfl) (Bl.ret Ev.bool ?f5 (fun q hq => .tail _ hq)))
      case f2 => walk_at "ev"
      case f3 => walk_at "ev"
      case f4 => walk_at "ev"
      case f5 => rintro v rfl; exact ⟨by rw [hM]; exact congrArg Value.bool (by rw [hB, if_neg hret.1, hret.2]; rfl), rfl⟩
    refine' Bl.exi2 (fun z : List (Str × Tok) × Nat × Int => [("ws", IsV (.ref D)), ("startpos", IsI st), ("endpos", IsI z.2.2), ("got", IsX y)]) (fun z => (D, lsT z.1 z.2.1) :: N) (fun z => (∀ q ∈ z.1.map (·.1), q.length ≤ 1000) ∧ ellM x y = ell3 y (z.1.map (·.1)) st z.2.2) ?ph2 ?n8
    case ph2 =>
      by_cases hz : pl.length = 0
      · refine' ⟨(ls' ++ [(pl, tl)], n1, (y.length : Int)), ⟨by simp only [List.map_append, List.map_cons, List.map_nil]; exact sz1, by simp only [List.map_append, List.map_cons, List.map_nil]; rw [hM]; exact hB.trans (if_pos hz)⟩, Ex.weak (Ex.if0' (Tr.textX (x := pl) ?f6 (by omega) rfl rfl) ?f7) ?f8⟩
        case f6 => walk_at "ev"
        case f7 => rw [hz]; rfl
        case f8 => walk_at "sub"
      · have hst : Txt.endswith y pl = true := by
          cases h : Txt.endswith y pl with
          | true => rfl
          | false => exact absurd ⟨hz, h⟩ hret
        refine' ⟨(ls', n1 + 1, (y.length : Int) - pl.length), ⟨fun q hq => sz1 q (List.mem_append_left _ hq), by rw [hM]; exact hB.trans (by rw [if_neg hz, hst]; rfl)⟩, Ex.if1 (Tr.textX ?g1 (by omega) (bne_iff_ne.mpr hz) rfl) (Xs.cons (Ex.if1 (Tr.plain (Ev.eqB (Ev.endswithX ?g2 ?g3 rfl rfl) hst) rfl) (Xs.cons (Ex.aug (R := IsI ((y.length : Int) - pl.length)) ?g4 (Ev.fun1 (T := "len") Glen ?g5 (cn_lenX (x := pl) (by omega)) rfl rfl) iop_subI (Γ' := [("ws", IsV (.ref D)), ("startpos", IsI st), ("got", IsX y)]) ?g6 rfl rfl rfl rfl) (Xs.cons (Ex.weak (Ex.delL ?g7 hap (by omega)) ?g8) Xs.nil))) Xs.nil)⟩
        case g2 => walk_at "ev"
        case g3 => walk_at "ev"
        case g1 => walk_at "ev"
        case g4 => walk_at "ev_in"
        case g5 => walk_at "ev"
        case g6 => walk_at "sub"
        case g7 => walk_at "ev"
        case g8 => walk_at "sub"
    rintro ⟨ls2, n2, en⟩ ⟨sz2, hM2⟩
    dsimp only at sz2 hM2 ⊢
    clear hB hM hret
    by_cases hgt : st > en
    · refine' Bl.if1 (Tr.cmp ?h1 ?h2 (op_gt (decide_eq_true hgt)) rfl) (Bl.ret Ev.bool ?h3 (fun q hq => .tail _ hq))
      case h1 => walk_at "ev"
      case h2 => walk_at "ev"
      case h3 => rintro v rfl; exact ⟨by rw [hM2]; unfold ell3; rw [if_pos hgt], rfl⟩
    refine' Bl.cons (Ex.if0' (Tr.cmp ?h4 ?h5 (op_gt rfl) rfl) (decide_eq_false hgt)) ?n9
    case h4 => walk_at "ev"
    case h5 => walk_at "ev"
    unfold ell3 at hM2
    rw [if_neg hgt] at hM2
    refine' Bl.forTexts (D := D) (ls := ls2) (n := n2) (a₀ := st) (fun i st => [("ws", IsV (.ref D)), ("startpos", IsI st), ("endpos", IsI en), ("got", IsX y)]) (fun i st => ellM x y = ellFind y en ((ls2.map (·.1)).drop i) st) rfl hh ?h6 (.head _) hM2 ?h7 ?turn ?done rfl rfl (fun _ => rfl)
    case h6 => walk_at "ev"
    case h7 => intro i a; rfl
    case done =>
      intro a hI
      rw [List.drop_eq_nil_of_le (by rw [List.length_map]; exact Nat.le_refl _)] at hI
      refine' Bl.ret Ev.bool ?h8 (fun q hq => .tail _ hq)
      case h8 => rintro v rfl; exact ⟨by rw [hI]; rfl, rfl⟩
    case turn =>
      intro i a z hz hI N' hN'
      have hzl := sz2 z (List.mem_of_getElem? hz)
      rw [ellF_cons hz] at hI
      refine' Bl.cons (Ex.assign (Ev.find4 ?k1 (EvA.cons ?k2 (EvA.cons ?k3 (EvA.cons ?k4 EvA.nil rfl) rfl) rfl) rfl rfl rfl) (Γ' := [("w", IsX z), ("ws", IsV (.ref D)), ("endpos", IsI en), ("got", IsX y)]) ?k5 rfl rfl rfl rfl) ?k6
      case k1 => walk_at "ev"
      case k2 => walk_at "ev"
      case k3 => walk_at "ev"
      case k4 => walk_at "ev"
      case k5 => walk_at "sub"
      case' k6 => skip
      by_cases hneg : find4 y z a en < 0
      · rw [if_pos hneg] at hI
        refine' Bl.if1r (Tr.cmp ?k7 Ev.int (op_lt (decide_eq_true hneg)) rfl) (Bl.retQ Ev.bool ?k8)
        case k7 => walk_at "ev"
        case k8 => rintro v s' rfl st'; exact retP ⟨by rw [hI], rfl⟩ (fun q hq => hN' q (.tail _ hq)) st'
      · rw [if_neg hneg] at hI
        refine' Bl.cons (Ex.if0' (Tr.cmp ?k9 Ev.int (op_lt rfl) rfl) (decide_eq_false hneg)) (Bl.cons (Ex.aug (R := IsI (find4 y z a en + z.length)) ?m1 (Ev.fun1 (T := "len") Glen ?m2 (cn_lenX (x := z) (by omega)) rfl rfl) iop_addI (Γ' := [("ws", IsV (.ref D)), ("endpos", IsI en), ("got", IsX y)]) ?m3 rfl rfl rfl rfl) (Bl.nil fun s' st' => ⟨_, hI, st'.weak ?m4⟩))
        case k9 => walk_at "ev"
        case m1 => walk_at "ev_in"
        case m2 => walk_at "ev"
        case m3 => walk_at "sub"
        case m4 => walk_at "sub"
end Mine

end
section
open PySem PySem.W PySem.Calls PyProof.Rows
set_option linter.unusedVariables false
set_option maxRecDepth 100000
namespace Mine
variable {c : Cx} {Γ Γ₁ Γ' : Tys} {N N₀ N₁ N' : Led} {Q : Flow → Shared → Prop}
theorem Ev.pow {a b : Expr} {p : Pos} {i : Int} {k : Nat} (ha : Ev c Γ a (IsI i)) (hb : Ev c Γ b (IsI (k : Int))) (hi : i.natAbs < 2 ^ 64) (hk : k ≤ 1000000) : Ev c Γ (.BinOp a .Pow b p) (IsI (i ^ k)) := by
  refine Ev.bin ha hb ?_
  rintro v v' ⟨t, rfl⟩ ⟨t', rfl⟩ N s hst
  exact pow_int_small (by omega) (by omega) hi ⟨⟨_, by rw [Int.toNat_natCast]⟩, hst.toks _⟩
theorem Ev.modI {a b : Expr} {p : Pos} {i j : Int} (ha : Ev c Γ a (IsI i)) (hb : Ev c Γ b (IsI j)) (hj : j ≠ 0) : Ev c Γ (.BinOp a .Mod b p) (IsI (i.fmod j)) := by
  refine Ev.bin ha hb ?_
  rintro v v' ⟨t, rfl⟩ ⟨t', rfl⟩ N s hst
  exact mod_int' hj ⟨⟨_, rfl⟩, hst.toks _⟩
theorem iop_addL {n m : Nat} {l j : List Nat} (hs : Nat.ble (n + m) 1000000 = true) : ∀ v v', IsL n l v → IsL m j v' → ∀ N s, St c Γ N s → wpAny (model c.prog c.w) c.A (inplaceOp .Add v v') (fun v s' => IsL (n + m) (l ++ j) v ∧ St c Γ N s') noE s := by
  rintro v v' ⟨⟨t, rfl⟩, hl⟩ ⟨⟨t', rfl⟩, hj⟩ N s hst
  exact SB.iadd (fun t'' k => ⟨⟨⟨t'', by rw [S_cat]⟩, by rw [List.length_append]; omega⟩, hst.toks _⟩) (IsL.fits hl hj hs)
theorem iop_mono {o : Operator} {P P' R R' : Value → Prop} (h : ∀ v v', P v → P' v' → ∀ N s, St c Γ N s → wpAny (model c.prog c.w) c.A (inplaceOp o v v') (fun v s' => R v ∧ St c Γ N s') noE s) (k : ∀ v, R v → R' v) :
    ∀ v v', P v → P' v' → ∀ N s, St c Γ N s → wpAny (model c.prog c.w) c.A (inplaceOp o v v') (fun v s' => R' v ∧ St c Γ N s') noE s := fun v v' hp hp' N s hs => wp_then (h v v' hp hp' N s hs) fun v s' hv => ⟨k v hv.1, hv.2⟩
end Mine

end
section
open PySem PySem.W PySem.Calls PyProof.Rows
set_option linter.unusedVariables false
set_option maxRecDepth 100000
namespace Mine
variable {c : Cx} {Γ Γ₁ Γ' : Tys} {N N₀ N₁ N' : Led} {Q : Flow → Shared → Prop}
/-- some int -/
def AnyI : Value → Prop := fun v => ∃ z, IsI z v
theorem Ev.anyMod {a b : Expr} {p : Pos} {j : Nat} (ha : Ev c Γ a AnyI) (hb : Ev c Γ b (IsI (j : Int))) (hj : 0 < j) : Ev c Γ (.BinOp a .Mod b p) (fun v => ∃ k : Nat, k < j ∧ IsI (k : Int) v) := by
  refine Ev.bin ha hb ?_
  rintro v v' ⟨z, t, rfl⟩ ⟨t', rfl⟩ N s hst
  refine mod_int' (by omega) ⟨?_, hst.toks _⟩
  rw [Int.fmod_eq_emod_of_nonneg _ (by omega)]
  have h1 := Int.emod_nonneg z (b := (j : Int)) (by omega)
  have h2 := Int.emod_lt_of_pos z (b := (j : Int)) (by omega)
  exact ⟨(z % (j : Int)).toNat, by omega, _, by rw [Int.toNat_of_nonneg h1]⟩
/-- an assignment of a value known up to a datum -/
theorem Bl.assignEx {α : Type} {x : Str} {p p2 : Pos} {e : Expr} {l : List Stmt} {R : α → Prop} {P : α → Value → Prop} (he : EvAt c Γ N e (fun v => ∃ a, R a ∧ P a v)) (hk : ∀ a, R a → Bl c ((x, P a) :: Γ') N l Q) (hsub : ∀ q ∈ Γ', q ∈ Γ) (hf : fresh x Γ' = true) (hx : c.env.kindOf x = some .local) (hp : (c.env.scope.kind == .class || (c.env.scope.kind == .module && c.env.locals != c.env.globals)) = false)
    (hs : swapsWith e (some (.Name x p)) p2.line c.env = pure false) : Bl c Γ N (.Assign [.Name x p] e p2 :: l) Q := fun s h =>
  wpAny_execs_cons (wpAny_Assign_Name (wp_then (he s h) fun v s₁ ⟨⟨a, hR, hP⟩, h₁⟩ => wp_then ((h₁.weak hsub).set hP hf hx hp) fun _ s₂ h₂ => hk a hR s₂ h₂) hs)
theorem EvN.tup2 {a b : Expr} {k : Nat} {p : Pos} {P P' : Value → Prop} (h : EvA c Γ [a, b] [P, P']) : EvN c Γ (.Tuple [a, b] k p) (fun v own => ∃ T u u', v = .ref T ∧ own = [(T, tupOf [u, u'])] ∧ P u ∧ P' u') := by
  intro N s hs
  refine Tuple_ (wp_then (h p N s hs) ?_)
  rintro vs s₁ ⟨hv, h₁⟩
  obtain ⟨v, v', rfl⟩ := lenP2 hv
  · skip
    obtain ⟨hv, hv', _⟩ := hv
    obtain ⟨h', tk, gs, m, rfl, hb, g, F, Nn, H⟩ := h₁
    exact kup_newTuple F Nn (fun D h₂ F₂ N₂ hD => ⟨_, ⟨D, v, v', rfl, rfl, hv, hv'⟩, (fun p hp q hq => by rw [List.mem_singleton.mp hp]; exact hD q hq), h₂, tk, gs, m, rfl, hb, g, F₂, N₂, H⟩) (by rw [sizeLine_eq]; simp)
theorem Bl.retL {e : Expr} {p : Pos} {l : List Stmt} {R : Value → Prop} (he : Ev c Γ e R) (hQ : ∀ v s', R v → St c Γ N s' → Q (.ret v) s') : Bl c Γ N (.Return (some e) p :: l) Q := fun s h =>
  wpAny_execs_cons (wpAny_Return_some (wp_then (he N s h) fun v s₁ h₁ => hQ v s₁ h₁.1 h₁.2))
theorem Bl.run {l : List Stmt} {s : Shared} {E : Value → Shared → Prop} (h : Bl c Γ N l Q) (hs : St c Γ N s) : wpAny (model c.prog c.w) c.A (execs l c.env) Q E s := wpAny_mono (h s hs) (fun _ _ h => h) (fun _ _ e => e.elim)
theorem withB {l : List Stmt} {s : Shared} {E : Value → Shared → Prop} (h : let c' := c; wpAny (model c'.prog c'.w) c'.A (execs l c'.env) Q E s) : wpAny (model c.prog c.w) c.A (execs l c.env) Q E s := h
theorem EvAt.mono {e : Expr} {P P' : Value → Prop} (h : EvAt c Γ N e P) (k : ∀ v, P v → P' v) : EvAt c Γ N e P' := fun s hs => wp_then (h s hs) fun v s' hv => ⟨k v hv.1, hv.2⟩
end Mine

end
section
open PySem PySem.W PySem.Calls PyProof.Rows
set_option linter.unusedVariables false
set_option maxRecDepth 100000
namespace Mine
variable {c : Cx} {Γ Γ₁ Γ' : Tys} {N N₀ N₁ N' : Led} {Q : Flow → Shared → Prop}
/-- a list of ints -/
def lsI (ls : List (Int × Tok)) (n : Nat) : Obj := listOf (iv ls).toArray n
theorem iv_push1 (ls : List (Int × Tok)) (z : Int) (t : Tok) : (iv ls).toArray.push (Value.int z t) = (iv (ls ++ [(z, t)])).toArray := by simp [iv]
/-- [e] -/
theorem EvN.list1 {e : Expr} {p : Pos} {P : Value → Prop} (he : Ev c Γ e P) (h1 : starEach [e] c.env = (false, eval e c.env) :: starEach [] c.env) : EvN c Γ (.List [e] p) (fun v own => ∃ D u, v = .ref D ∧ own = [(D, listOf #[u] 0)] ∧ P u) := by
  intro N s hs
  refine List_ (wp_then (EvA.cons he EvA.nil h1 p N s hs) ?_)
  rintro vs s₁ ⟨hv, h₁⟩
  obtain ⟨u, rfl⟩ := lenP1 hv
  obtain ⟨hu, _⟩ := hv
  · skip
    obtain ⟨h', tk, gs, m, rfl, hb, g, F, Nn, H⟩ := h₁
    exact newList_K F Nn (fun D h₂ F₂ N₂ hD => ⟨_, ⟨D, u, rfl, rfl, hu⟩, (fun p hp q hq => by rw [List.mem_singleton.mp hp]; exact hD q hq), h₂, tk, gs, m, rfl, hb, g, F₂, N₂, H⟩) (by rw [sizeLine_eq]; simp)
theorem EvN.list0 {p : Pos} : EvN c Γ (.List [] p) (fun v own => ∃ D, v = .ref D ∧ own = [(D, listOf #[] 0)]) := by
  intro N s hs
  refine List_ (wp_then (EvA.nil p N s hs) ?_)
  rintro vs s₁ ⟨hv, h₁⟩
  obtain rfl := lenP0 hv
  · skip
    obtain ⟨h', tk, gs, m, rfl, hb, g, F, Nn, H⟩ := h₁
    exact newList_K F Nn (fun D h₂ F₂ N₂ hD => ⟨_, ⟨D, rfl, rfl⟩, (fun p hp q hq => by rw [List.mem_singleton.mp hp]; exact hD q hq), h₂, tk, gs, m, rfl, hb, g, F₂, N₂, H⟩) (by rw [sizeLine_eq]; simp)
/-- x.append(e) -/
theorem Bl.append {x : Str} {px p p2 p3 : Pos} {e : Expr} {l : List Stmt} {D : Addr} {its : Array Value} {n : Nat} {P : Value → Prop} {pl : Sem Bool} (hx : Ev c Γ (.Name x px) (IsV (.ref D))) (he : EvAt c Γ ((D, listOf its n) :: N) e P) (hap : ∀ p ∈ N, p.1 ≠ D) (hsz : its.size ≤ 100000) (hi : interactive c.env = false) (hs' : swapsWith (.Call (.Attribute (.Name x px) "append" p) [e] [] p2) none p3.line c.env = pure false)
    (hk : ∀ v, P v → Bl c Γ ((D, listOf (its.push v) (n + 1)) :: N) l Q) (h1 : starEach [e] c.env = (false, eval e c.env) :: starEach [] c.env)
    (hc : eval (.Call (.Attribute (.Name x px) "append" p) [e] [] p2) c.env = (do
      let ov ← eval (.Name x px) c.env
      standAt p.atName
      let (f, first) ← holding [ov] (getMethod ov "append" pl)
      callWith p2 f first (backTo p2 (starEach [e] c.env)) [])) : Bl c Γ ((D, listOf its n) :: N) (.Expr (.Call (.Attribute (.Name x px) "append" p) [e] [] p2) p3 :: l) Q := by
  intro s hs
  refine wpAny_execs_cons (wpAny_Expr (MethodCall_ (pl := pl) (wp_then (hx _ s hs) ?_) hc) hi hs')
  rintro v s₁ ⟨rfl, h₁⟩
  have h₁' := h₁
  obtain ⟨h', tk, gs, m, rfl, hb, g, F, Nn, H⟩ := h₁
  refine Calls.getMethod_list_append (s := { c.s₁ with heap := h', toks := tk, gens := gs }) (Nn.get (.head _)) rfl rfl ?_
  refine callWith_method1 ?_ h1 rfl
  rw [h1]
  refine Calls.spliced_cons (wp_then (he _ h₁') fun v s₂ h₂ => Calls.spliced_nil ?_)
  obtain ⟨hv, h₂, tk, gs, m, rfl, hb, g, F, Nn, H⟩ := h₂
  have := sizeLine_eq
  exact append_K (s := { c.s₁ with heap := h₂, toks := tk, gens := gs }) F Nn (Upd.head hap) (fun h₆ F₆ N₆ => hk v hv _ ⟨h₆, tk, gs, m, rfl, hb, g, F₆, N₆, H⟩) (by omega)
theorem Ev.neg {a : Expr} {p : Pos} {i : Int} (ha : Ev c Γ a (IsI i)) : Ev c Γ (.UnaryOp .USub a p) (IsI (-i)) := fun N s hs =>
  UnaryOp_ (wp_then (ha N s hs) fun v s₁ h₁ => by
    obtain ⟨⟨t, rfl⟩, h₂⟩ := h₁
    exact neg_int ⟨⟨_, rfl⟩, h₂.toks _⟩)
theorem EvAt.bin {a b : Expr} {o : Operator} {p : Pos} {P P' R : Value → Prop} (ha : EvAt c Γ N a P) (hb : EvAt c Γ N b P')
    (hop : ∀ v v', P v → P' v' → ∀ s, St c Γ N s → wpAny (model c.prog c.w) c.A (binaryOp o v v') (fun v s' => R v ∧ St c Γ N s') noE s) : EvAt c Γ N (.BinOp a o b p) R := fun s hs =>
  wpAny_BinOp (wp_then (ha s hs) fun v s₁ h₁ => wp_then (hb s₁ h₁.2) fun v' s₂ h₂ => hop v v' h₁.1 h₂.1 s₂ h₂.2)
theorem EvAt.addI {a b : Expr} {p : Pos} {i j : Int} (ha : EvAt c Γ N a (IsI i)) (hb : EvAt c Γ N b (IsI j)) : EvAt c Γ N (.BinOp a .Add b p) (IsI (i + j)) := by
  refine EvAt.bin ha hb ?_
  rintro v v' ⟨t, rfl⟩ ⟨t', rfl⟩ s hst
  exact add_int ⟨⟨_, rfl⟩, hst.toks _⟩
theorem EvAt.subI {a b : Expr} {p : Pos} {i j : Int} (ha : EvAt c Γ N a (IsI i)) (hb : EvAt c Γ N b (IsI j)) : EvAt c Γ N (.BinOp a .Sub b p) (IsI (i - j)) := by
  refine EvAt.bin ha hb ?_
  rintro v v' ⟨t, rfl⟩ ⟨t', rfl⟩ s hst
  exact sub_int ⟨⟨_, rfl⟩, hst.toks _⟩
theorem EvAt.cell {x : Str} {px p : Pos} {e : Expr} {D : Addr} {n : Nat} {ls : List (Int × Tok)} {k : Nat} (hx : Ev c Γ (.Name x px) (IsV (.ref D))) (hm : (D, lsI ls n) ∈ N) (he : Ev c Γ e (IsI (k : Int))) (hk : k < ls.length) (hl : ls.length ≤ 2000)
    (hs : ∀ {i u}, subscripted e false (.ref D) (.int i u) = operate [.ref D, .int i u] (getItem (.ref D) (.int i u))) (hg : ∀ r, letTemporaryGo (.Name x px) (.ref D) r = pure ()) : EvAt c Γ N (.Subscript (.Name x px) e p) (IsI ((ls.map (·.1)).getD k 0)) := by
  intro s h
  refine Subscript_ (wp_then (hx N s h) ?_)
  rintro v s₁ ⟨rfl, h₁⟩
  refine wp_then (he N s₁ h₁) ?_
  rintro v s₂ ⟨⟨t', rfl⟩, h₂⟩
  obtain ⟨h', tk, gs, m, rfl, hb, g, F, Nn, H⟩ := h₂
  refine item_list (Nn.isList hm) (by omega) (by omega) (by simpa using iv_get hk) ⟨⟨ls[k].2, ?_⟩, h', tk, gs, m, rfl, hb, g, F, Nn, H⟩ hs hg
  rw [List.getD_eq_getElem?_getD, List.getElem?_map, List.getElem?_eq_getElem hk]; rfl
theorem EvAt.cellL {x : Str} {px p p2 p3 : Pos} {k : Nat} {D : Addr} {n : Nat} {ls : List (Int × Tok)} (hx : Ev c Γ (.Name x px) (IsV (.ref D))) (hm : (D, lsI ls n) ∈ N) (hk : 1 ≤ ls.length) (hl : ls.length ≤ 2000)
    (hs : ∀ {u}, subscripted (.UnaryOp .USub (.Constant (.int 1) k p2) p3) false (.ref D) (.int (-1) u) = operate [.ref D, .int (-1) u] (getItem (.ref D) (.int (-1) u))) (hg : ∀ r, letTemporaryGo (.Name x px) (.ref D) r = pure ()) : EvAt c Γ N (.Subscript (.Name x px) (.UnaryOp .USub (.Constant (.int 1) k p2) p3) p) (IsI ((ls.map (·.1)).getD (ls.length - 1) 0)) := by
  intro s h
  refine Subscript_ (wp_then (hx N s h) ?_)
  rintro v s₁ ⟨rfl, h₁⟩
  refine UnaryOp_ (wpAny_Constant_int (neg_int ?_))
  have h₂ := h₁.toks (s₁.toks + 1 + 1)
  obtain ⟨h', tk, gs, m, rfl, hb, g, F, Nn, H⟩ := h₁
  have hl' : Heap.IsList h' D (iv ls).toArray := Nn.isList hm
  have hsz : (iv ls).toArray.size = ls.length := by rw [List.size_toArray, iv_len]
  have hk' : ls.length - 1 < ls.length := by omega
  refine subscriptTail_builtin (s := { c.s₁ with heap := h', toks := tk + 1 + 1, gens := gs }) hl'.typeIs slot_list_getitem.lookup (wpAny_getItem_list_neg hl' (by decide) (by rw [hsz]; omega) (by decide) (x := .int ls[ls.length - 1].1 ls[ls.length - 1].2) ?_ ⟨⟨ls[ls.length - 1].2, ?_⟩, h₂⟩) hs hg
  · rw [hsz, show ((-1 : Int) + (ls.length : Nat)).toNat = ls.length - 1 by omega]
    simpa using iv_get hk'
  · rw [List.getD_eq_getElem?_getD, List.getElem?_map, List.getElem?_eq_getElem hk']; rfl
end Mine

end
section
open PySem PySem.W PySem.Calls PyProof.Rows
set_option linter.unusedVariables false
set_option maxRecDepth 100000
namespace Mine
theorem S_app (a b : List Nat) : S a ++ S b = S (a ++ b) := by
  show Str.append _ _ = _
  simp [S, Str.append]
def preW (c : Nat) : List Nat → List Nat
  | [] => []
  | d :: l => bif Nat.beq d c then [] else d :: preW c l
def aftW (c : Nat) : List Nat → List Nat
  | [] => []
  | d :: l => bif Nat.beq d c then l else aftW c l
def midW (c : Nat) (l : List Nat) : List Nat := preW c (aftW c l)
def posW (c : Nat) (l : List Nat) : List Nat := aftW c (aftW c l)
theorem beq_no {c d : Nat} (h : ¬ d = c) : Nat.beq d c = false := by
  cases e : Nat.beq d c with
  | false => rfl
  | true => exact absurd (Nat.eq_of_beq_eq_true e) h
theorem preW_same {c d : Nat} {l : List Nat} (h : d = c) : preW c (d :: l) = [] := by subst h; simp [preW]
theorem aftW_same {c d : Nat} {l : List Nat} (h : d = c) : aftW c (d :: l) = l := by subst h; simp [aftW]
theorem preW_ne {c d : Nat} {l : List Nat} (h : ¬ d = c) : preW c (d :: l) = d :: preW c l := by show cond _ _ _ = _; rw [beq_no h]; rfl
theorem aftW_ne {c d : Nat} {l : List Nat} (h : ¬ d = c) : aftW c (d :: l) = aftW c l := by show cond _ _ _ = _; rw [beq_no h]; rfl
theorem pre_free (c : Nat) : ∀ l : List Nat, c ∉ preW c l
  | [] => by simp [preW]
  | d :: l => by
    have := pre_free c l
    by_cases h : d = c
    · rw [preW_same h]; simp
    · rw [preW_ne h]; exact fun hm => (List.mem_cons.mp hm).elim (fun e => h e.symm) this
theorem cut_at (c : Nat) : ∀ l : List Nat, c ∈ l → l = preW c l ++ c :: aftW c l
  | [], h => by simp at h
  | d :: l, h => by
    by_cases e : d = c
    · rw [preW_same e, aftW_same e, e]; rfl
    · have h2 : c ∈ l := by rcases List.mem_cons.mp h with q | q; exact absurd q.symm e; exact q
      have := cut_at c l h2
      rw [preW_ne e, aftW_ne e, List.cons_append, ← this]
theorem cut_two {c : Nat} {l : List Nat} (h : l.count c = 2) : l = preW c l ++ c :: (midW c l ++ c :: posW c l) ∧ c ∉ preW c l ∧ c ∉ midW c l ∧ c ∉ posW c l := by
  have h1 := cut_at c l (List.count_pos_iff.mp (by omega))
  have f1 := pre_free c l
  have n1 : (aftW c l).count c = 1 := by
    have h3 := congrArg (List.count c) h1
    rw [List.count_append, List.count_cons_self, List.count_eq_zero_of_not_mem f1] at h3
    omega
  have h2 := cut_at c (aftW c l) (List.count_pos_iff.mp (by omega))
  have f2 := pre_free c (aftW c l)
  refine ⟨?_, f1, f2, ?_⟩
  · unfold midW posW; rw [← h2]; exact h1
  · have h3 := congrArg (List.count c) h2
    rw [List.count_append, List.count_cons_self, List.count_eq_zero_of_not_mem f2] at h3
    intro hm
    have : 0 < (posW c l).count c := List.count_pos_iff.mpr hm
    unfold posW at this
    omega
/-- texts without c, glued by c -/
def glueL (c : Nat) : List (List Nat) → List Nat
  | [] => []
  | [a] => a
  | a :: r => a ++ c :: glueL c r
theorem join_S (c : Nat) : ∀ l : List (List Nat), Str.join (S [c]) (l.map S) = S (glueL c l)
  | [] => by show Str.empty = _; rw [show glueL c [] = [] from rfl, S_def]; rfl
  | [a] => rfl
  | a :: b :: r => by
    show S a ++ S [c] ++ Str.join (S [c]) ((b :: r).map S) = _
    rw [join_S c (b :: r), S_app, S_app]
    simp [glueL]
theorem glue_uniq (c : Nat) : ∀ (p q : List (List Nat)), p ≠ [] → q ≠ [] → (∀ a ∈ p, c ∉ a) → (∀ a ∈ q, c ∉ a) → glueL c p = glueL c q → p = q
  | [], _, h, _, _, _, _ => absurd rfl h
  | _, [], _, h, _, _, _ => absurd rfl h
  | [a], [b], _, _, _, _, h => by rw [show a = b from h]
  | [a], b :: d :: r, _, _, ha, _, h => by
    exfalso
    apply ha a (by simp)
    rw [show a = _ from h]
    simp [glueL]
  | a :: d :: r, [b], _, _, _, hb, h => by
    exfalso
    apply hb b (by simp)
    rw [← show _ = b from h]
    simp [glueL]
  | a :: d :: r, b :: e :: u, _, _, ha, hb, h => by
    have h' : a ++ c :: glueL c (d :: r) = b ++ c :: glueL c (e :: u) := h
    have hna := ha a (by simp)
    have hnb := hb b (by simp)
    have key : ∀ (a b X Y : List Nat), c ∉ a → c ∉ b → a ++ c :: X = b ++ c :: Y → a = b ∧ X = Y := by
      intro a
      induction a with
      | nil =>
        intro b X Y _ hb h
        cases b with
        | nil => simpa using h
        | cons y b => simp at h; exact absurd h.1 (fun e => hb (by simp [e]))
      | cons x a ih =>
        intro b X Y ha hb h
        cases b with
        | nil => simp at h; exact absurd h.1 (fun e => ha (by simp [e]))
        | cons y b =>
          simp at h ha hb
          obtain ⟨e1, e2⟩ := h
          obtain ⟨e3, e4⟩ := ih b X Y ha.2 hb.2 e2
          exact ⟨by rw [e1, e3], e4⟩
    obtain ⟨e1, e2⟩ := key _ _ _ _ hna hnb h'
    rw [e1, glue_uniq c (d :: r) (e :: u) (by simp) (by simp) (fun z hz => ha z (List.mem_cons_of_mem _ hz)) (fun z hz => hb z (List.mem_cons_of_mem _ hz)) e2]
theorem split_S {c : Nat} {l : List Nat} (h : l.count c = 2) : Txt.split (S l) (S [c]) = [S (preW c l), S (midW c l), S (posW c l)] := by
  obtain ⟨h1, h2, h3, h4⟩ := cut_two h
  have hj := StrLaws.join_split (S l) (S [c])
  have hf : ∀ p ∈ Txt.split (S l) (S [c]), c ∉ p.cps.toList := by
    have := StrLaws.split_free (S l) c
    rwa [show (⟨#[c]⟩ : Str) = S [c] by rw [S_def]] at this
  have hne : Txt.split (S l) (S [c]) ≠ [] := by
    intro e
    rw [e] at hj
    have : S [] = S l := by rw [← hj, S_def]; rfl
    have := congrArg Str.length this
    rw [S_len, S_len] at this
    have : l = [] := List.eq_nil_of_length_eq_zero this.symm
    rw [this] at h; simp at h
  have e1 : Txt.split (S l) (S [c]) = ((Txt.split (S l) (S [c])).map (·.cps.toList)).map S := by
    rw [List.map_map]
    conv => lhs; rw [← List.map_id (Txt.split (S l) (S [c]))]
    exact List.map_congr_left fun p _ => (S_of p).symm
  rw [e1] at hj
  rw [join_S] at hj
  have hj2 := congrArg (·.cps.toList) hj
  simp only [S_def] at hj2
  have hg : glueL c ((Txt.split (S l) (S [c])).map (·.cps.toList)) = glueL c [preW c l, midW c l, posW c l] := by
    rw [show glueL c [preW c l, midW c l, posW c l] = l from h1.symm]
    simpa [S_def] using hj2
  rw [e1, glue_uniq c _ _ (by simpa using hne) (by simp) (by simpa using hf) (by simp [h2, h3, h4]) hg]
  rfl
def turn1 (l : List Nat) (c : Nat) : List Nat := preW c l ++ c :: ((midW c l).reverse ++ c :: posW c l)
def turnL (l : List Nat) (o : List Nat) : List Nat := o.foldl turn1 l
theorem turn_perm {l : List Nat} {c : Nat} (h : l.count c = 2) : (turn1 l c).Perm l := by
  obtain ⟨h1, _⟩ := cut_two h
  conv => rhs; rw [h1]
  exact ((((midW c l).reverse_perm).append_right _).cons c).append_left _
theorem turns_perm : ∀ (o l : List Nat), (∀ c ∈ o, l.count c = 2) → (turnL l o).Perm l
  | [], l, _ => List.Perm.refl _
  | c :: o, l, h => by
    have h1 := turn_perm (h c (by simp))
    exact (turns_perm o (turn1 l c) (fun d hd => by rw [h1.count_eq]; exact h d (by simp [hd]))).trans h1
end Mine

end
section
open PySem PySem.W PySem.Calls PyProof.Rows
set_option linter.unusedVariables false
set_option maxRecDepth 100000
namespace Mine
def abc : List Nat := [97, 98, 99, 100, 101]
def inter : List Nat → List Nat → List Nat
  | a :: as, r :: rs => a :: r :: inter as rs
  | _, _ => []
def cnt (z : Nat) : List Nat → Nat
  | [] => 0
  | d :: l => bif Nat.beq d z then cnt z l + 1 else cnt z l
def pgHas (z : Nat) : List (Nat × Int) → Bool
  | [] => false
  | p :: l => Nat.beq p.1 z || pgHas z l
def pgLook (z : Nat) : List (Nat × Int) → Int
  | [] => 0
  | p :: l => bif Nat.beq p.1 z then p.2 else pgLook z l
def zstep (wi : List Nat) (py : Int) (st : List (Nat × Int) × List Nat) (z : Nat) : List (Nat × Int) × List Nat :=
  bif Nat.beq (cnt z wi) 1 && !pgHas z st.1 then (st.1 ++ [(z, 1 - py)], st.2 ++ [z]) else st
def bfs (T : List Nat) : Nat → List (Nat × Int) → List Nat → Option (List (Nat × Int))
  | _, pg, [] => some pg
  | 0, _, _ :: _ => none
  | n + 1, pg, y :: wt => let st := (midW y T).foldl (zstep (midW y T) (pgLook y pg)) (pg, wt); bfs T n st.1 st.2
def pagesO (T : List Nat) : List Nat → List (Nat × Int) → Option (List (Nat × Int))
  | [], pg => some pg
  | x :: l, pg => bif pgHas x pg then pagesO T l pg else match bfs T 6 (pg ++ [(x, 0)]) [x] with
    | none => none
    | some pg' => pagesO T l pg'
/-- the pieces of a stretch: 0 '(', 1 '\\)', 2 a quoted '(', 3 '\)' -/
def pieceC (T : List Nat) (pg : List (Nat × Int)) (x : Nat) (n z : Nat) : Nat :=
  bif decide (pgLook z pg = pgLook x pg) then (bif Nat.beq (preW z T).length ((preW x T).length + 1 + n) then 0 else 1)
  else (bif Nat.beq (preW z T).length ((preW x T).length + 1 + n) then 2 else 3)
def piecesC (T : List Nat) (pg : List (Nat × Int)) (x : Nat) : Nat → List Nat → List Nat
  | _, [] => []
  | n, z :: l => pieceC T pg x n z :: piecesC T pg x (n + 1) l
def pieceT : Nat → List Nat
  | 0 => [40]
  | 1 => [92, 92, 41]
  | 2 => [34, 92, 34, 40, 34]
  | _ => [92, 41]
def textP : List Nat → List Nat
  | [] => []
  | k :: l => pieceT k ++ textP l
def balC : Nat → List Nat → Bool
  | o, [] => Nat.beq o 0
  | o, 0 :: l => balC (o + 1) l
  | 0, 1 :: _ => false
  | o + 1, 1 :: l => balC o l
  | o, _ :: l => balC o l
def flatO (T : List Nat) (pg : List (Nat × Int)) : Bool := abc.all fun x => balC 0 (piecesC T pg x 0 (midW x T))
def maskF (W : List Nat) (x : Nat) : List Bool := abc.map fun y => Nat.beq (cnt y (midW x W)) 1
def crossF (W : List Nat) (x : Nat) : Nat := (midW x W).foldl (fun k y => bif Nat.beq (cnt y (midW x W)) 1 then k + 1 else k) 0
def hamB : List Bool → List Bool → Nat
  | a :: l, b :: k => bif a == b then hamB l k else hamB l k + 1
  | _, _ => 0
def evenF (W : List Nat) : Bool := (List.range 5).all fun i => (List.range i).all fun j =>
  bif (maskF W (abc.getD i 0)).getD j false then true else Nat.beq ((crossF W (abc.getD i 0) + crossF W (abc.getD j 0) - hamB (maskF W (abc.getD j 0)) (maskF W (abc.getD i 0))) % 4) 0
def eqL : List Nat → List Nat → Bool
  | [], [] => true
  | a :: l, b :: k => Nat.beq a b && eqL l k
  | _, _ => false
def okT (W T : List Nat) : Bool := match pagesO T abc [] with
  | none => false
  | some pg => (abc.all fun z => pgHas z pg) && (Nat.ble pg.length 100 && (flatO T pg == evenF W))
def permsOf : Nat → List Nat → List Nat → (List Nat → Bool) → Bool
  | 0, _, acc, f => f acc
  | n + 1, rest, acc, f => rest.all fun x => permsOf n (rest.erase x) (acc ++ [x]) f
end Mine

end
section
open PySem PySem.W PySem.Calls PyProof.Rows
set_option linter.unusedVariables false
set_option maxRecDepth 100000
namespace Mine
/-- lists that are worked out before they are used -/
def forceL {β : Type} : List Nat → (List Nat → β) → β
  | [], k => k []
  | a :: l, k => forceL l fun l' => k (a :: l')
def ers (x : Nat) : List Nat → List Nat
  | [] => []
  | d :: l => bif Nat.beq d x then l else d :: ers x l
def revA : List Nat → List Nat → List Nat
  | [], acc => acc
  | a :: l, acc => revA l (a :: acc)
def turnF {β : Type} (x : Nat) (T : List Nat) (k : List Nat → β) : β := forceL (aftW x T) fun a => forceL (preW x a) fun m => forceL (preW x T ++ x :: revA m (x :: aftW x a)) k
def insF {β : Type} (q : List Nat × List Nat) (acc : List (List Nat × List Nat)) (k : List (List Nat × List Nat) → β) : β := bif acc.any fun p => eqL p.2 q.2 && eqL p.1 q.1 then k acc else k (q :: acc)
def stepF {β : Type} (T rest : List Nat) : List Nat → List (List Nat × List Nat) → (List (List Nat × List Nat) → β) → β
  | [], acc, k => k acc
  | x :: xs, acc, k => turnF x T fun T' => forceL (ers x rest) fun r' => insF (T', r') acc fun acc' => stepF T rest xs acc' k
def nextF {β : Type} : List (List Nat × List Nat) → List (List Nat × List Nat) → (List (List Nat × List Nat) → β) → β
  | [], acc, k => k acc
  | p :: l, acc, k => stepF p.1 p.2 p.2 acc fun acc' => nextF l acc' k
def itF {β : Type} : Nat → List (List Nat × List Nat) → (List (List Nat × List Nat) → β) → β
  | 0, l, k => k l
  | n + 1, l, k => nextF l [] fun l' => itF n l' k
def okF (W : List Nat) : Bool := itF 5 [(W, abc)] fun l => l.all fun p => okT W p.1
def memB (z : Nat) : List Nat → Bool
  | [] => false
  | d :: l => Nat.beq d z || memB z l
def popB : List Bool → Nat
  | [] => 0
  | true :: l => popB l + 1
  | false :: l => popB l
def wok (W : List Nat) : Bool := Nat.beq W.length 10 && (W.all (fun z => memB z abc) && abc.all fun x => Nat.beq (cnt x W) 2 && (Nat.beq (crossF W x) (popB (maskF W x)) && abc.all fun y => Nat.ble (cnt y (midW x W)) 2))
theorem wok_all : permsOf 5 abc [] (fun r => forceL (inter abc r) wok) = true := by decide +kernel
theorem okw_1_2 : permsOf 3 [99, 100, 101] [97, 98] (fun r => forceL (inter abc r) okF) = true := by decide +kernel
theorem okw_1_3 : permsOf 3 [98, 100, 101] [97, 99] (fun r => forceL (inter abc r) okF) = true := by decide +kernel
theorem okw_1_4 : permsOf 3 [98, 99, 101] [97, 100] (fun r => forceL (inter abc r) okF) = true := by decide +kernel
theorem okw_1_5 : permsOf 3 [98, 99, 100] [97, 101] (fun r => forceL (inter abc r) okF) = true := by decide +kernel
theorem okw_2_1 : permsOf 3 [99, 100, 101] [98, 97] (fun r => forceL (inter abc r) okF) = true := by decide +kernel
theorem okw_2_3 : permsOf 3 [97, 100, 101] [98, 99] (fun r => forceL (inter abc r) okF) = true := by decide +kernel
theorem okw_2_4 : permsOf 3 [97, 99, 101] [98, 100] (fun r => forceL (inter abc r) okF) = true := by decide +kernel
theorem okw_2_5 : permsOf 3 [97, 99, 100] [98, 101] (fun r => forceL (inter abc r) okF) = true := by decide +kernel
theorem okw_3_1 : permsOf 3 [98, 100, 101] [99, 97] (fun r => forceL (inter abc r) okF) = true := by decide +kernel
theorem okw_3_2 : permsOf 3 [97, 100, 101] [99, 98] (fun r => forceL (inter abc r) okF) = true := by decide +kernel
theorem okw_3_4 : permsOf 3 [97, 98, 101] [99, 100] (fun r => forceL (inter abc r) okF) = true := by decide +kernel
theorem okw_3_5 : permsOf 3 [97, 98, 100] [99, 101] (fun r => forceL (inter abc r) okF) = true := by decide +kernel
theorem okw_4_1 : permsOf 3 [98, 99, 101] [100, 97] (fun r => forceL (inter abc r) okF) = true := by decide +kernel
theorem okw_4_2 : permsOf 3 [97, 99, 101] [100, 98] (fun r => forceL (inter abc r) okF) = true := by decide +kernel
theorem okw_4_3 : permsOf 3 [97, 98, 101] [100, 99] (fun r => forceL (inter abc r) okF) = true := by decide +kernel
theorem okw_4_5 : permsOf 3 [97, 98, 99] [100, 101] (fun r => forceL (inter abc r) okF) = true := by decide +kernel
theorem okw_5_1 : permsOf 3 [98, 99, 100] [101, 97] (fun r => forceL (inter abc r) okF) = true := by decide +kernel
theorem okw_5_2 : permsOf 3 [97, 99, 100] [101, 98] (fun r => forceL (inter abc r) okF) = true := by decide +kernel
theorem okw_5_3 : permsOf 3 [97, 98, 100] [101, 99] (fun r => forceL (inter abc r) okF) = true := by decide +kernel
theorem okw_5_4 : permsOf 3 [97, 98, 99] [101, 100] (fun r => forceL (inter abc r) okF) = true := by decide +kernel
theorem okw_1 : permsOf 4 [98, 99, 100, 101] [97] (fun r => forceL (inter abc r) okF) = true := by
  rw [permsOf, List.all_eq_true]
  intro x hx
  simp only [List.mem_cons, List.not_mem_nil, or_false] at hx
  rcases hx with rfl | rfl | rfl | rfl
  · exact okw_1_2
  · exact okw_1_3
  · exact okw_1_4
  · exact okw_1_5
theorem okw_2 : permsOf 4 [97, 99, 100, 101] [98] (fun r => forceL (inter abc r) okF) = true := by
  rw [permsOf, List.all_eq_true]
  intro x hx
  simp only [List.mem_cons, List.not_mem_nil, or_false] at hx
  rcases hx with rfl | rfl | rfl | rfl
  · exact okw_2_1
  · exact okw_2_3
  · exact okw_2_4
  · exact okw_2_5
theorem okw_3 : permsOf 4 [97, 98, 100, 101] [99] (fun r => forceL (inter abc r) okF) = true := by
  rw [permsOf, List.all_eq_true]
  intro x hx
  simp only [List.mem_cons, List.not_mem_nil, or_false] at hx
  rcases hx with rfl | rfl | rfl | rfl
  · exact okw_3_1
  · exact okw_3_2
  · exact okw_3_4
  · exact okw_3_5
theorem okw_4 : permsOf 4 [97, 98, 99, 101] [100] (fun r => forceL (inter abc r) okF) = true := by
  rw [permsOf, List.all_eq_true]
  intro x hx
  simp only [List.mem_cons, List.not_mem_nil, or_false] at hx
  rcases hx with rfl | rfl | rfl | rfl
  · exact okw_4_1
  · exact okw_4_2
  · exact okw_4_3
  · exact okw_4_5
theorem okw_5 : permsOf 4 [97, 98, 99, 100] [101] (fun r => forceL (inter abc r) okF) = true := by
  rw [permsOf, List.all_eq_true]
  intro x hx
  simp only [List.mem_cons, List.not_mem_nil, or_false] at hx
  rcases hx with rfl | rfl | rfl | rfl
  · exact okw_5_1
  · exact okw_5_2
  · exact okw_5_3
  · exact okw_5_4
theorem okw_all : permsOf 5 abc [] (fun r => forceL (inter abc r) okF) = true := by
  rw [permsOf, List.all_eq_true]
  intro x hx
  simp only [abc, List.mem_cons, List.not_mem_nil, or_false] at hx
  rcases hx with rfl | rfl | rfl | rfl | rfl
  · exact okw_1
  · exact okw_2
  · exact okw_3
  · exact okw_4
  · exact okw_5
end Mine

end
section
open PySem PySem.W PySem.Calls PyProof.Rows
set_option linter.unusedVariables false
set_option maxRecDepth 100000
namespace Mine
theorem pgHas_app (y z : Nat) (v : Int) : ∀ pg, pgHas y (pg ++ [(z, v)]) = (pgHas y pg || Nat.beq z y)
  | [] => by show (Nat.beq z y || false) = (false || Nat.beq z y); rw [Bool.or_false, Bool.false_or]
  | p :: l => by show (Nat.beq p.1 y || pgHas y (l ++ _)) = ((Nat.beq p.1 y || pgHas y l) || _); rw [pgHas_app y z v l, Bool.or_assoc]
theorem pgLook_app {y : Nat} (z : Nat) (v : Int) : ∀ {pg}, pgHas y pg = true → pgLook y (pg ++ [(z, v)]) = pgLook y pg
  | [], h => nomatch h
  | p :: l, h => by
    show cond (Nat.beq p.1 y) _ (pgLook y (l ++ _)) = cond (Nat.beq p.1 y) _ _
    cases e : Nat.beq p.1 y with
    | true => rfl
    | false =>
      have h2 : (Nat.beq p.1 y || pgHas y l) = true := h
      rw [e, Bool.false_or] at h2
      exact pgLook_app z v h2
/-- what the waiting letters are -/
def GoodP (pg : List (Nat × Int)) (wt : List Nat) : Prop := wt.length ≤ pg.length ∧ ∀ y ∈ wt, pgHas y pg = true ∧ y ∈ abc
theorem zstep_yes {wi : List Nat} {py : Int} {pg : List (Nat × Int)} {wt : List Nat} {z : Nat} (h1 : Nat.beq (cnt z wi) 1 = true) (h2 : pgHas z pg = false) : zstep wi py (pg, wt) z = (pg ++ [(z, 1 - py)], wt ++ [z]) := by
  unfold zstep; rw [h1, h2]; rfl
theorem zstep_no {wi : List Nat} {py : Int} {pg : List (Nat × Int)} {wt : List Nat} {z : Nat} (h : (Nat.beq (cnt z wi) 1 && !pgHas z pg) = false) : zstep wi py (pg, wt) z = (pg, wt) := by
  unfold zstep; rw [h]; rfl
theorem good_add {pg : List (Nat × Int)} {wt : List Nat} {z : Nat} (v : Int) (h : GoodP pg wt) (hz : z ∈ abc) : GoodP (pg ++ [(z, v)]) (wt ++ [z]) := by
  refine ⟨by have := h.1; simp; exact this, fun y hy => ?_⟩
  rw [pgHas_app]
  rcases List.mem_append.mp hy with hy | hy
  · obtain ⟨h1, h2⟩ := h.2 y hy; rw [h1]; exact ⟨rfl, h2⟩
  · rw [List.mem_singleton.mp hy]; exact ⟨by simp, hz⟩
theorem zstep_len (wi : List Nat) (py : Int) (st : List (Nat × Int) × List Nat) (z : Nat) : st.1.length ≤ (zstep wi py st z).1.length := by
  unfold zstep
  cases (Nat.beq (cnt z wi) 1 && !pgHas z st.1) with
  | true => show _ ≤ (st.1 ++ [_]).length; simp
  | false => exact Nat.le_refl _
theorem zfold_len (wi : List Nat) (py : Int) : ∀ (l : List Nat) (st : List (Nat × Int) × List Nat), st.1.length ≤ (l.foldl (zstep wi py) st).1.length
  | [], st => Nat.le_refl _
  | z :: l, st => Nat.le_trans (zstep_len wi py st z) (zfold_len wi py l _)
theorem bfs_len (T : List Nat) : ∀ (n : Nat) (pg : List (Nat × Int)) (wt : List Nat) (f), bfs T n pg wt = some f → pg.length ≤ f.length
  | 0, pg, [], f, h => by rw [show f = pg from (Option.some.inj h).symm]; exact Nat.le_refl _
  | n + 1, pg, [], f, h => by rw [show f = pg from (Option.some.inj h).symm]; exact Nat.le_refl _
  | 0, pg, y :: wt, f, h => nomatch h
  | n + 1, pg, y :: wt, f, h => Nat.le_trans (zfold_len _ _ _ (pg, wt)) (bfs_len T n _ _ f h)
theorem pagesO_len (T : List Nat) : ∀ (l : List Nat) (pg : List (Nat × Int)) (f), pagesO T l pg = some f → pg.length ≤ f.length
  | [], pg, f, h => by rw [show f = pg from (Option.some.inj h).symm]; exact Nat.le_refl _
  | x :: l, pg, f, h => by
    have h' : (cond (pgHas x pg) (pagesO T l pg) (match bfs T 6 (pg ++ [(x, 0)]) [x] with | none => none | some pg' => pagesO T l pg')) = some f := h
    cases e : pgHas x pg with
    | true => rw [e] at h'; exact pagesO_len T l pg f h'
    | false =>
      rw [e] at h'
      simp only [cond_false] at h'
      cases e2 : bfs T 6 (pg ++ [(x, 0)]) [x] with
      | none => rw [e2] at h'; exact nomatch h'
      | some pg' =>
        rw [e2] at h'
        have h1 := bfs_len T _ _ _ _ e2
        have h2 := pagesO_len T l pg' f h'
        rw [List.length_append] at h1
        omega
theorem pagesO_old {T l : List Nat} {x : Nat} {pg : List (Nat × Int)} {f} (h : pagesO T (x :: l) pg = some f) (e : pgHas x pg = true) : pagesO T l pg = some f := by
  have h' : (cond (pgHas x pg) (pagesO T l pg) (match bfs T 6 (pg ++ [(x, 0)]) [x] with | none => none | some pg' => pagesO T l pg')) = some f := h
  rw [e] at h'; exact h'
theorem pagesO_new {T l : List Nat} {x : Nat} {pg : List (Nat × Int)} {f} (h : pagesO T (x :: l) pg = some f) (e : pgHas x pg = false) : ∃ pg', bfs T 6 (pg ++ [(x, 0)]) [x] = some pg' ∧ pagesO T l pg' = some f := by
  have h' : (cond (pgHas x pg) (pagesO T l pg) (match bfs T 6 (pg ++ [(x, 0)]) [x] with | none => none | some pg' => pagesO T l pg')) = some f := h
  rw [e] at h'
  simp only [cond_false] at h'
  cases e2 : bfs T 6 (pg ++ [(x, 0)]) [x] with
  | none => rw [e2] at h'; exact nomatch h'
  | some pg' => rw [e2] at h'; exact ⟨pg', rfl, h'⟩
theorem mid_sub (c : Nat) (l : List Nat) : ∀ z ∈ midW c l, z ∈ l := by
  have h1 : ∀ (l : List Nat), ∀ z ∈ aftW c l, z ∈ l := by
    intro l
    induction l with
    | nil => intro z h; exact nomatch h
    | cons d l ih =>
      intro z h
      by_cases e : d = c
      · rw [aftW_same e] at h; exact .tail _ h
      · rw [aftW_ne e] at h; exact .tail _ (ih z h)
  have h2 : ∀ (l : List Nat), ∀ z ∈ preW c l, z ∈ l := by
    intro l
    induction l with
    | nil => intro z h; exact nomatch h
    | cons d l ih =>
      intro z h
      by_cases e : d = c
      · rw [preW_same e] at h; exact nomatch h
      · rw [preW_ne e] at h; rcases List.mem_cons.mp h with rfl | h; exact .head _; exact .tail _ (ih z h)
  exact fun z h => h1 l z (h2 _ z h)
theorem beq_cast (k : Nat) : ((k : Int) == 1) = Nat.beq k 1 := by
  rw [Bool.eq_iff_iff, Nat.beq_eq, beq_iff_eq]; omega
end Mine

end
section
open PySem PySem.W PySem.Calls PyProof.Rows
set_option linter.unusedVariables false
set_option maxRecDepth 100000
namespace Mine
def dots : List Nat := [46, 46, 46]
def elA (x y : Nat) (wi : List Nat) : Bool := ellM (S (((([x] ++ dots) ++ [y]) ++ dots) ++ [x])) (S (([x] ++ wi) ++ [x]))
def elB (x y : Nat) (wi : List Nat) : Bool := ellM (S (((((([x] ++ dots) ++ [y]) ++ dots) ++ [y]) ++ dots) ++ [x])) (S (([x] ++ wi) ++ [x]))
end Mine

end
section
open PySem PySem.W PySem.Calls PyProof.Rows
open Builtin Builtin.Str
set_option linter.unusedVariables false
namespace Mine
theorem At_S {l k : List Nat} {i : Nat} : StrLaws.At (S l) (S k) (S l).length i ↔ i + k.length ≤ l.length ∧ (l.drop i).take k.length = k := by
  unfold StrLaws.At
  rw [S_len, S_len, StrLaws.subAt_eq, S_len]
  simp [S_def]
theorem contains_S (l k : List Nat) : Txt.contains (S l) (S k) = true ↔ ∃ i, i + k.length ≤ l.length ∧ (l.drop i).take k.length = k := by
  unfold Txt.contains
  rw [StrLaws.found_iff]
  constructor
  · rintro ⟨i, h⟩; exact ⟨i, At_S.mp h⟩
  · rintro ⟨i, h⟩; exact ⟨i, At_S.mpr h⟩
theorem beq_dec (a b : List Nat) : (a == b) = decide (a = b) := by rw [Bool.eq_iff_iff]; simp
theorem ldots : Str.ofString "..." = S dots := by unfold dots; rw [S_def]; decide
theorem chain_det {s sub : Str} {hi : Nat} (hw : 1 ≤ sub.length) : ∀ (H : List Nat) (a : Nat) (l : List Nat) (f : Nat), (∀ k, a ≤ k → (StrLaws.At s sub hi k ↔ k ∈ H)) → H.Pairwise (fun p q => p + sub.length ≤ q) → (∀ h ∈ H, a ≤ h) → StrLaws.ChainG s sub hi a l f → (∀ k, f ≤ k → ¬ StrLaws.At s sub hi k) → l = H
  | [], a, [], f, _, _, _, _, _ => rfl
  | [], a, c :: r, f, hA, _, _, hc, _ => absurd ((hA c hc.1).mp hc.2.1) (by simp)
  | h :: H, a, [], f, hA, _, ha, hc, hf => by
    have e : f = a := hc
    exact absurd ((hA h (ha h (List.mem_cons_self ..))).mpr (List.mem_cons_self ..)) (hf h (by have := ha h (List.mem_cons_self ..); omega))
  | h :: H, a, c :: r, f, hA, hP, ha, hc, hf => by
    obtain ⟨h1, h2, h3, h4⟩ := hc
    have hh := (hA h (ha h (List.mem_cons_self ..))).mpr (List.mem_cons_self ..)
    have hm := (hA c h1).mp h2
    have hp := List.pairwise_cons.mp hP
    have hcge : h ≤ c := by
      rcases List.mem_cons.mp hm with e | e
      · omega
      · have := hp.1 c e; omega
    have e : c = h := by
      rcases Nat.lt_or_ge h c with q | q
      · exact absurd hh (h3 h (ha h (List.mem_cons_self ..)) q)
      · omega
    subst e
    rw [chain_det hw H (c + sub.length) r f (fun k hk => ?_) hp.2 hp.1 h4 hf]
    rw [hA k (by omega), List.mem_cons]
    exact ⟨fun q => q.resolve_left (by omega), .inr⟩
theorem split_of {L : List Nat} (H : List Nat) (hne : H ≠ []) (hA : ∀ k, (k + 3 ≤ L.length ∧ (L.drop k).take 3 = dots) ↔ k ∈ H) (hP : H.Pairwise (fun p q => p + 3 ≤ q)) :
    Txt.contains (S L) (S dots) = true ∧ Txt.split (S L) (S dots) = partsBetween (S L) H 3 := by
  have hd : (S dots).length = 3 := S_len dots
  obtain ⟨f, hch, hno⟩ := StrLaws.occ_tight (S L) (S dots) (by rw [hd]; omega)
  have hAt : ∀ k, StrLaws.At (S L) (S dots) (S L).length k ↔ k ∈ H := fun k => At_S.trans (hA k)
  have ho := chain_det (by rw [hd]; omega) H 0 _ f (fun k _ => hAt k) (by rw [hd]; exact hP) (fun _ _ => Nat.zero_le _) hch hno
  obtain ⟨h0, hm⟩ := List.exists_mem_of_ne_nil H hne
  have hlen : 3 ≤ L.length := by have := ((hA h0).mpr hm).1; omega
  refine ⟨(contains_S L dots).mpr ⟨h0, (hA h0).mpr hm⟩, ?_⟩
  have hk : ¬ Builtin.Str.strKind (S L) < Builtin.Str.strKind (S dots) := by
    rw [← ldots, show Builtin.Str.strKind (Str.ofString "...") = 1 by decide +kernel]
    unfold Builtin.Str.strKind
    split
    · omega
    · split <;> omega
  unfold Txt.split
  rw [ho, if_neg (by rw [S_len, hd]; simp only [hk, show ¬ L.length < 3 by omega, decide_false, Bool.or_self]; decide), if_neg (by cases H with | nil => exact absurd rfl hne | cons a r => simp), hd]
theorem strSub_S (l : List Nat) (i j : Nat) (h : j ≤ l.length) : strSub (S l) i j = S ((l.drop i).take (j - i)) := by
  have : (strSub (S l) i j).cps.toList = (l.drop i).take (j - i) := by
    unfold strSub
    simp [S_def]
  rw [← S_of (strSub (S l) i j), this]
theorem starts_S (g u : List Nat) : Txt.startswith (S g) (S u) = decide (u.length ≤ g.length ∧ g.take u.length = u) := by
  unfold Txt.startswith
  rw [StrLaws.subAt_eq, S_len, S_len, Nat.zero_add]
  simp [S_def, Bool.decide_and, beq_dec]
theorem ends_S (g u : List Nat) : Txt.endswith (S g) (S u) = decide (u.length ≤ g.length ∧ g.drop (g.length - u.length) = u) := by
  unfold Txt.endswith
  rw [StrLaws.subAt_eq, S_len, S_len, Nat.zero_add]
  by_cases h : u.length ≤ g.length
  · rw [show (S g).cps.toList = g by rw [S_def], show (S u).cps.toList = u by rw [S_def], List.take_of_length_le (by rw [List.length_drop]; omega)]
    simp [h, beq_dec]
  · simp [h]
theorem ell_eq {l k : List Nat} (h : 46 ∉ l) : ellM (S l) (S k) = decide (l = k) := by
  unfold ellM
  rw [ldots, if_neg, S_beq]
  rw [contains_S]
  rintro ⟨i, h1, h2⟩
  apply h
  have : 46 ∈ (l.drop i).take dots.length := by rw [h2]; unfold dots; simp
  exact List.mem_of_mem_drop (List.mem_of_mem_take this)
theorem dots_at {L : List Nat} {k : Nat} : (k + 3 ≤ L.length ∧ (L.drop k).take 3 = dots) ↔ L[k]? = some 46 ∧ L[k + 1]? = some 46 ∧ L[k + 2]? = some 46 := by
  constructor
  · rintro ⟨h1, h2⟩
    have e : ∀ j, j < 3 → L[k + j]? = dots[j]? := by
      intro j hj
      rw [← h2, List.getElem?_take_of_lt hj, List.getElem?_drop]
    exact ⟨e 0 (by decide), e 1 (by decide), e 2 (by decide)⟩
  · rintro ⟨h1, h2, h3⟩
    obtain ⟨l1, g1⟩ := List.getElem?_eq_some_iff.mp h1
    obtain ⟨l2, g2⟩ := List.getElem?_eq_some_iff.mp h2
    obtain ⟨l3, g3⟩ := List.getElem?_eq_some_iff.mp h3
    refine ⟨by omega, ?_⟩
    rw [List.drop_eq_getElem_cons l1, List.drop_eq_getElem_cons l2, List.drop_eq_getElem_cons l3, g1, g2, g3]
    rfl
theorem no46 {u : List Nat} (h : 46 ∉ u) (i : Nat) : u[i]? ≠ some 46 := fun e => h (List.mem_of_getElem? e)
theorem get_dots (j : Nat) : dots[j]? = some 46 ↔ j < 3 := by
  unfold dots
  constructor
  · intro h; have := (List.getElem?_eq_some_iff.mp h).1; simpa using this
  · intro h; rcases (by omega : j = 0 ∨ j = 1 ∨ j = 2) with rfl | rfl | rfl <;> rfl
theorem get_app (u v : List Nat) (i : Nat) : (u ++ v)[i]? = if i < u.length then u[i]? else v[i - u.length]? := by
  split
  · rename_i h; exact List.getElem?_append_left h
  · rename_i h; exact List.getElem?_append_right (by omega)
theorem split_one {u v : List Nat} (hu : 46 ∉ u) (hv : 46 ∉ v) : Txt.contains (S ((u ++ dots) ++ v)) (S dots) = true ∧ Txt.split (S ((u ++ dots) ++ v)) (S dots) = [S u, S v] := by
  have hA : ∀ k, (k + 3 ≤ ((u ++ dots) ++ v).length ∧ (((u ++ dots) ++ v).drop k).take 3 = dots) ↔ k ∈ [u.length] := by
    intro k
    have hpos : ∀ i, ((u ++ dots) ++ v)[i]? = some 46 ↔ u.length ≤ i ∧ i < u.length + 3 := by
      intro i
      have hd : dots.length = 3 := rfl
      rw [get_app, get_app, List.length_append, hd]
      split
      · split
        · constructor
          · intro h; exact absurd h (no46 hu i)
          · intro h; omega
        · rw [get_dots]; omega
      · constructor
        · intro h; exact absurd h (no46 hv _)
        · intro h; omega
    rw [dots_at, hpos, hpos, hpos, List.mem_singleton]
    omega
  obtain ⟨h1, h2⟩ := split_of [u.length] (by simp) hA (List.pairwise_singleton ..)
  refine ⟨h1, ?_⟩
  rw [h2]
  have hd : dots.length = 3 := rfl
  have e1 : strSub (S ((u ++ dots) ++ v)) 0 u.length = S u := by
    rw [strSub_S _ _ _ (by simp only [List.length_append]; omega)]
    congr 1
    simp [List.append_assoc]
  have e2 : strSub (S ((u ++ dots) ++ v)) (u.length + 3) (S ((u ++ dots) ++ v)).length = S v := by
    rw [S_len, strSub_S _ _ _ (Nat.le_refl _)]
    congr 1
    rw [List.drop_append, List.drop_eq_nil_of_le (by simp only [List.length_append]; omega)]
    simp [hd]
    exact List.take_of_length_le (by omega)
  show [strSub _ 0 u.length, strSub _ (u.length + 3) _] = _
  rw [e1, e2]
theorem ell2_one {v g : List Nat} {st : Int} (hv1 : 1 ≤ v.length) : ell2 (S g) [S v] st = if decide (v.length ≤ g.length ∧ g.drop (g.length - v.length) = v) = true then (if st > (g.length : Int) - v.length then false else true) else false := by
  have q1 : ([S v].getLastD Str.empty).length = v.length := S_len v
  unfold ell2
  rw [if_neg (by rw [q1]; omega)]
  show (if Txt.endswith (S g) (S v) = true then ell3 (S g) [] st ((S g).length - ((S v).length : Int)) else false) = _
  rw [S_len, S_len, ends_S]
  rfl
theorem ell_one {u v g : List Nat} (hu : 46 ∉ u) (hv : 46 ∉ v) (hu1 : 1 ≤ u.length) (hv1 : 1 ≤ v.length) :
    ellM (S ((u ++ dots) ++ v)) (S g) = decide (u.length + v.length ≤ g.length ∧ g.take u.length = u ∧ g.drop (g.length - v.length) = v) := by
  obtain ⟨h1, h2⟩ := split_one hu hv
  unfold ellM
  rw [ldots, if_pos h1, h2]
  have q0 : ([S u, S v].headD Str.empty).length = u.length := S_len u
  dsimp only
  rw [if_neg (by rw [q0]; omega)]
  show (if Txt.startswith (S g) (S u) = true then ell2 (S g) [S v] ((S u).length : Int) else false) = _
  rw [S_len, starts_S]
  rw [ell2_one hv1]
  by_cases c1 : u.length ≤ g.length ∧ g.take u.length = u
  · rw [if_pos (by simpa using c1)]
    by_cases c2 : v.length ≤ g.length ∧ g.drop (g.length - v.length) = v
    · rw [if_pos (by simpa using c2)]
      by_cases c3 : (u.length : Int) > (g.length : Int) - v.length
      · rw [if_pos c3]; symm; rw [decide_eq_false_iff_not]; omega
      · rw [if_neg c3]; symm; rw [decide_eq_true_eq]; exact ⟨by omega, c1.2, c2.2⟩
    · rw [if_neg (by simpa using c2)]; symm; rw [decide_eq_false_iff_not]; rintro ⟨a, b, c⟩; exact c2 ⟨by omega, c⟩
  · rw [if_neg (by simpa using c1)]; symm; rw [decide_eq_false_iff_not]; rintro ⟨a, b, c⟩; exact c1 ⟨by omega, b⟩
end Mine

end
section
open PySem PySem.W PySem.Calls PyProof.Rows
open Builtin Builtin.Str
set_option linter.unusedVariables false
namespace Mine
theorem range_pre {i n a : Nat} {pre post : List Nat} (h : List.range' i n = pre ++ a :: post) : ∀ k, i ≤ k → k < a → k ∈ pre := by
  intro k hi hk
  have hL : n = pre.length + (post.length + 1) := by
    have := congrArg List.length h
    simpa using this
  have hlen : i + pre.length = a := by
    have h1 : (List.range' i n)[pre.length]? = some a := by rw [h]; simp
    rw [List.getElem?_range' (by omega)] at h1
    simpa using h1
  have h2 : (List.range' i n)[k - i]? = pre[k - i]? := by rw [h, List.getElem?_append_left (by omega)]
  rw [List.getElem?_range' (by omega)] at h2
  have h3 : pre[k - i]? = some k := by rw [← h2]; congr 1; omega
  exact List.mem_of_getElem? h3
/-- the first place of y in g, from i on, ahead of en -/
theorem find_one (g : List Nat) (y i en : Nat) (hi : i ≤ en) (he : en ≤ g.length) :
    (find4 (S g) (S [y]) (i : Int) (en : Int) = -1 ∧ ∀ k, i ≤ k → k < en → g[k]? ≠ some y) ∨ ∃ p : Nat, find4 (S g) (S [y]) (i : Int) (en : Int) = (p : Int) ∧ i ≤ p ∧ p < en ∧ g[p]? = some y ∧ ∀ k, i ≤ k → k < p → g[k]? ≠ some y := by
  have hat : ∀ k, StrLaws.At (S g) (S [y]) en k ↔ k < en ∧ g[k]? = some y := fun k => by
    unfold StrLaws.At
    rw [S_len, StrLaws.subAt_eq, S_len]
    rw [show (S g).cps.toList = g by rw [S_def], show (S [y]).cps.toList = [y] by rw [S_def], List.length_singleton]
    constructor
    · rintro ⟨h1, h2⟩
      refine ⟨by omega, ?_⟩
      have hk : k < g.length := by omega
      have h3 := eq_of_beq h2
      rw [List.drop_eq_getElem_cons hk, List.take_succ_cons, List.take_zero] at h3
      rw [List.getElem?_eq_getElem hk]
      exact congrArg some (List.cons.inj h3).1
    · rintro ⟨h1, h2⟩
      obtain ⟨hk, e⟩ := List.getElem?_eq_some_iff.mp h2
      refine ⟨by omega, ?_⟩
      rw [List.drop_eq_getElem_cons hk, e]
      simp
  have f1 : fromIndex (S g).length (i : Int) = i := by unfold fromIndex; rw [if_neg (by omega)]; omega
  have f2 : min (fromIndex (S g).length (en : Int)) (S g).length = en := by rw [S_len]; unfold fromIndex; rw [if_neg (by omega)]; omega
  unfold find4
  rw [f1, f2, StrLaws.occ_eq]
  rcases StrLaws.occ_first (S g) (S [y]) en 1 (Nat.le_refl _) (List.range' i (en + 1 - i)) i (fun k hk => by simp [List.mem_range'] at hk; omega) with ⟨h0, hn⟩ | ⟨pre, a, post, e, h0, ha, hn⟩
  · refine .inl ⟨by rw [h0], fun k hk hl hh => hn k ?_ ((hat k).mpr ⟨hl, hh⟩)⟩
    rw [List.mem_range'_1]
    omega
  · refine .inr ⟨a, ?_, ?_, ((hat a).mp ha).1, ((hat a).mp ha).2, fun k h1 h2 hh => hn k (range_pre e k h1 h2) ((hat k).mpr ⟨Nat.lt_trans h2 ((hat a).mp ha).1, hh⟩)⟩
    · generalize (forIn (List.range' i (en + 1 - i)) ((#[] : Array Nat), i) (StrLaws.occBody (S g) (S [y]) en 1)).run.fst = arr at h0
      have h1 : arr.toList[0]? = some a := by simpa using h0
      cases hL : arr.toList with
      | nil => rw [hL] at h1; cases h1
      | cons b r => rw [hL] at h1; simp at h1; rw [h1]
    · have : a ∈ List.range' i (en + 1 - i) := by rw [e]; simp
      rw [List.mem_range'_1] at this
      exact this.1
/-- x, things, x: what stands between dots is sought in the things -/
theorem ell_in {x : Nat} {wi : List Nat} {want : List Nat} (parts : List Str) (h1 : Txt.contains (S want) (S dots) = true) (h2 : Txt.split (S want) (S dots) = S [x] :: (parts ++ [S [x]])) :
    ellM (S want) (S (([x] ++ wi) ++ [x])) = ellFind (S (([x] ++ wi) ++ [x])) ((wi.length + 1 : Nat) : Int) parts ((1 : Nat) : Int) := by
  have hg : (([x] ++ wi) ++ [x]).length = wi.length + 2 := by simp
  have q0 : (S [x]).length = 1 := S_len [x]
  have q1 : ((S [x] :: (parts ++ [S [x]])).headD Str.empty).length = 1 := S_len [x]
  unfold ellM
  rw [ldots, if_pos h1, h2]
  dsimp only
  rw [if_neg (by rw [q1]; omega)]
  show (if Txt.startswith (S (([x] ++ wi) ++ [x])) (S [x]) = true then ell2 (S (([x] ++ wi) ++ [x])) (parts ++ [S [x]]) ((S [x]).length : Int) else false) = _
  rw [if_pos (by rw [starts_S, decide_eq_true_eq, hg]; exact ⟨by simp, by simp⟩), q0]
  unfold ell2
  have hl : (parts ++ [S [x]]).getLastD Str.empty = S [x] := by simp
  rw [hl, q0, if_neg (by omega), if_pos (by rw [ends_S, decide_eq_true_eq, hg]; exact ⟨by simp, by simp⟩), List.dropLast_concat, S_len, hg]
  unfold ell3
  rw [if_neg (by omega), show (((wi.length + 2 : Nat) : Int) - ((1 : Nat) : Int)) = ((wi.length + 1 : Nat) : Int) by omega]
theorem get_in {x : Nat} {wi : List Nat} {k : Nat} (h : k < wi.length) : (([x] ++ wi) ++ [x])[1 + k]? = wi[k]? := by
  rw [List.getElem?_append_left (by simp; omega), List.getElem?_append_right (by simp)]
  simp
theorem split_a {x y : Nat} (hx : x ≠ 46) (hy : y ≠ 46) : Txt.contains (S (((([x] ++ dots) ++ [y]) ++ dots) ++ [x])) (S dots) = true ∧ Txt.split (S (((([x] ++ dots) ++ [y]) ++ dots) ++ [x])) (S dots) = S [x] :: ([S [y]] ++ [S [x]]) := by
  have hA : ∀ k, (k + 3 ≤ (((([x] ++ dots) ++ [y]) ++ dots) ++ [x]).length ∧ ((((([x] ++ dots) ++ [y]) ++ dots) ++ [x]).drop k).take 3 = dots) ↔ k ∈ [1, 5] := by
    intro k
    rw [dots_at]
    match k with
    | 0 | 1 | 2 | 3 | 4 | 5 | 6 | 7 | 8 => simp [dots, hx, hy]
    | k + 9 => simp [dots]
  obtain ⟨h1, h2⟩ := split_of [1, 5] (by simp) hA (by simp)
  refine ⟨h1, ?_⟩
  rw [h2]
  show [strSub _ 0 1, strSub _ (1 + 3) 5, strSub _ (5 + 3) _] = _
  rw [S_len, strSub_S _ _ _ (by simp [dots]), strSub_S _ _ _ (by simp [dots]), strSub_S _ _ _ (by simp [dots])]
  simp [dots]
theorem split_b {x y : Nat} (hx : x ≠ 46) (hy : y ≠ 46) : Txt.contains (S (((((([x] ++ dots) ++ [y]) ++ dots) ++ [y]) ++ dots) ++ [x])) (S dots) = true ∧ Txt.split (S (((((([x] ++ dots) ++ [y]) ++ dots) ++ [y]) ++ dots) ++ [x])) (S dots) = S [x] :: ([S [y], S [y]] ++ [S [x]]) := by
  have hA : ∀ k, (k + 3 ≤ (((((([x] ++ dots) ++ [y]) ++ dots) ++ [y]) ++ dots) ++ [x]).length ∧ ((((((([x] ++ dots) ++ [y]) ++ dots) ++ [y]) ++ dots) ++ [x]).drop k).take 3 = dots) ↔ k ∈ [1, 5, 9] := by
    intro k
    rw [dots_at]
    match k with
    | 0 | 1 | 2 | 3 | 4 | 5 | 6 | 7 | 8 | 9 | 10 | 11 | 12 => simp [dots, hx, hy]
    | k + 13 => simp [dots]
  obtain ⟨h1, h2⟩ := split_of [1, 5, 9] (by simp) hA (by simp)
  refine ⟨h1, ?_⟩
  rw [h2]
  show [strSub _ 0 1, strSub _ (1 + 3) 5, strSub _ (5 + 3) 9, strSub _ (9 + 3) _] = _
  rw [S_len, strSub_S _ _ _ (by simp [dots]), strSub_S _ _ _ (by simp [dots]), strSub_S _ _ _ (by simp [dots]), strSub_S _ _ _ (by simp [dots])]
  simp [dots]
theorem elA_is {x y : Nat} {wi : List Nat} (hx : x ≠ 46) (hy : y ≠ 46) : elA x y wi = decide (y ∈ wi) := by
  obtain ⟨h1, h2⟩ := split_a hx hy
  unfold elA
  rw [ell_in [S [y]] h1 h2]
  simp only [ellFind]
  have hg : (([x] ++ wi) ++ [x]).length = wi.length + 2 := by simp
  rcases find_one (([x] ++ wi) ++ [x]) y 1 (wi.length + 1) (by omega) (by omega) with ⟨f1, f2⟩ | ⟨p, f1, f2, f3, f4, f5⟩
  · rw [f1, if_pos (by omega)]
    symm; rw [decide_eq_false_iff_not]
    intro hm
    obtain ⟨k, hk, e⟩ := List.getElem_of_mem hm
    exact f2 (1 + k) (by omega) (by omega) (by rw [get_in hk, List.getElem?_eq_getElem hk, e])
  · rw [f1, if_neg (by omega)]
    symm; rw [decide_eq_true_eq]
    obtain ⟨k, rfl⟩ : ∃ k, p = 1 + k := ⟨p - 1, by omega⟩
    rw [get_in (by omega)] at f4
    exact List.mem_of_getElem? f4
theorem elB_is {x y : Nat} {wi : List Nat} (hx : x ≠ 46) (hy : y ≠ 46) : elB x y wi = decide (y ∈ aftW y wi) := by
  obtain ⟨h1, h2⟩ := split_b hx hy
  unfold elB
  rw [ell_in [S [y], S [y]] h1 h2]
  simp only [ellFind, S_len, List.length_singleton]
  have hg : (([x] ++ wi) ++ [x]).length = wi.length + 2 := by simp
  by_cases hm : y ∈ wi
  · have hc := cut_at y wi hm
    have hf := pre_free y wi
    have hlen := congrArg List.length hc
    rw [List.length_append, List.length_cons] at hlen
    have hat : ∀ j, wi[(preW y wi).length + 1 + j]? = (aftW y wi)[j]? := by
      intro j
      rw [show wi[(preW y wi).length + 1 + j]? = (preW y wi ++ y :: aftW y wi)[(preW y wi).length + 1 + j]? from congrArg (fun l => l[(preW y wi).length + 1 + j]?) hc]
      rw [List.getElem?_append_right (by omega), show (preW y wi).length + 1 + j - (preW y wi).length = j + 1 by omega, List.getElem?_cons_succ]
    rcases find_one (([x] ++ wi) ++ [x]) y 1 (wi.length + 1) (by omega) (by omega) with ⟨f1, f2⟩ | ⟨p, f1, f2, f3, f4, f5⟩
    · obtain ⟨k, hk, e⟩ := List.getElem_of_mem hm
      exact absurd (by rw [get_in hk, List.getElem?_eq_getElem hk, e]) (f2 (1 + k) (by omega) (by omega))
    · have hp : p = 1 + (preW y wi).length := by
        obtain ⟨k, rfl⟩ : ∃ k, p = 1 + k := ⟨p - 1, by omega⟩
        rw [get_in (by omega)] at f4
        have g2 : wi[(preW y wi).length]? = some y := by
          rw [show wi[(preW y wi).length]? = (preW y wi ++ y :: aftW y wi)[(preW y wi).length]? from congrArg (fun l => l[(preW y wi).length]?) hc]
          rw [List.getElem?_append_right (Nat.le_refl _), Nat.sub_self]; rfl
        rcases Nat.lt_trichotomy k (preW y wi).length with q | q | q
        · exfalso
          rw [show wi[k]? = (preW y wi ++ y :: aftW y wi)[k]? from congrArg (fun l => l[k]?) hc, List.getElem?_append_left q] at f4
          exact hf (List.mem_of_getElem? f4)
        · omega
        · exact absurd (by rw [get_in (by omega)]; exact g2) (f5 (1 + (preW y wi).length) (by omega) (by omega))
      subst hp
      rw [f1, if_neg (by omega), show (((1 + (preW y wi).length : Nat) : Int) + ((1 : Nat) : Int)) = ((1 + (preW y wi).length + 1 : Nat) : Int) by omega]
      rcases find_one (([x] ++ wi) ++ [x]) y (1 + (preW y wi).length + 1) (wi.length + 1) (by omega) (by omega) with ⟨g1, g2⟩ | ⟨r, g1, g2, g3, g4, g5⟩
      · rw [g1, if_pos (by omega)]
        symm; rw [decide_eq_false_iff_not]
        intro hm2
        obtain ⟨k, hk, e⟩ := List.getElem_of_mem hm2
        refine g2 (1 + ((preW y wi).length + 1 + k)) (by omega) (by omega) ?_
        rw [get_in (by omega), hat, List.getElem?_eq_getElem hk, e]
      · rw [g1, if_neg (by omega)]
        symm; rw [decide_eq_true_eq]
        obtain ⟨k, rfl⟩ : ∃ k, r = 1 + ((preW y wi).length + 1 + k) := ⟨r - 1 - ((preW y wi).length + 1), by omega⟩
        rw [get_in (by omega), hat] at g4
        exact List.mem_of_getElem? g4
  · have hno : y ∉ aftW y wi := fun h => hm (by
      have : ∀ (l : List Nat), y ∈ aftW y l → y ∈ l := by
        intro l
        induction l with
        | nil => intro h; exact nomatch h
        | cons d l ih =>
          intro h
          by_cases e : d = y
          · exact e ▸ .head _
          · rw [aftW_ne e] at h; exact .tail _ (ih h)
      exact this wi h)
    rcases find_one (([x] ++ wi) ++ [x]) y 1 (wi.length + 1) (by omega) (by omega) with ⟨f1, f2⟩ | ⟨p, f1, f2, f3, f4, f5⟩
    · rw [f1, if_pos (by omega)]
      symm; rw [decide_eq_false_iff_not]; exact hno
    · exfalso
      obtain ⟨k, rfl⟩ : ∃ k, p = 1 + k := ⟨p - 1, by omega⟩
      rw [get_in (by omega)] at f4
      exact hm (List.mem_of_getElem? f4)
theorem el_once {x y : Nat} {wi : List Nat} (hx : x ≠ 46) (hy : y ≠ 46) : (elA x y wi && !elB x y wi) = decide (wi.count y = 1) := by
  rw [elA_is hx hy, elB_is hx hy]
  by_cases hm : y ∈ wi
  · have hc := congrArg (List.count y) (cut_at y wi hm)
    rw [List.count_append, List.count_cons_self, List.count_eq_zero_of_not_mem (pre_free y wi)] at hc
    by_cases h2 : y ∈ aftW y wi
    · have := List.count_pos_iff.mpr h2
      rw [decide_eq_true hm, decide_eq_true h2]
      symm; show decide _ = false; rw [decide_eq_false_iff_not]; omega
    · have := List.count_eq_zero_of_not_mem h2
      rw [decide_eq_true hm, decide_eq_false h2]
      symm; show decide _ = true; rw [decide_eq_true_eq]; omega
  · have := List.count_eq_zero_of_not_mem hm
    rw [decide_eq_false hm]
    symm; show decide _ = false; rw [decide_eq_false_iff_not]; omega
theorem el_fore {x : Nat} {wi : List Nat} (hx : x ≠ 46) (hf : x ∉ wi) : ellM (S (([x] ++ dots) ++ [x])) (S (wi ++ [x])) = false := by
  have h46 : 46 ∉ [x] := by simp; exact Ne.symm hx
  rw [ell_one h46 h46 (by simp) (by simp), decide_eq_false_iff_not]
  rintro ⟨h1, h2, _⟩
  match wi, hf, h1, h2 with
  | [], _, h1, _ => simp at h1
  | d :: l, hf, _, h2 => simp at h2; exact hf (h2 ▸ .head _)
theorem el_hind {x : Nat} {wi : List Nat} (hx : x ≠ 46) (hf : x ∉ wi) : ellM (S (([x] ++ dots) ++ [x])) (S ([x] ++ wi)) = false := by
  have h46 : 46 ∉ [x] := by simp; exact Ne.symm hx
  rw [ell_one h46 h46 (by simp) (by simp), decide_eq_false_iff_not]
  rintro ⟨h1, _, h3⟩
  simp only [List.length_append, List.length_singleton] at h1 h3
  rw [show 1 + wi.length - 1 = wi.length by omega, List.drop_append, ] at h3
  apply hf
  have : x ∈ wi.drop (wi.length - 1) := by
    match wi, h1 with
    | d :: l, _ => simpa using (by rw [show ([x] : List Nat).drop (d :: l).length = [] by simp, List.nil_append] at h3; simp only [List.length_singleton] at h3; rw [h3]; simp : x ∈ (d :: l).drop ((d :: l).length - 1))
  exact List.mem_of_mem_drop this
end Mine

end
section
open PySem PySem.W PySem.Calls PyProof.Rows
set_option linter.unusedVariables false
set_option maxRecDepth 100000
namespace Mine
/-- rows with great letters -/
def rowB : List Bool → List Nat → List Nat
  | b :: l, z :: k => (bif b then z - 32 else z) :: rowB l k
  | _, _ => []
def bits : Nat → List (List Bool)
  | 0 => [[]]
  | n + 1 => (bits n).flatMap fun m => [false :: m, true :: m]
theorem bits_all : ∀ (n : Nat) (m : List Bool), m.length = n → m ∈ bits n
  | 0, [], _ => .head _
  | n + 1, b :: m, h => by
    refine List.mem_flatMap.mpr ⟨m, bits_all n m (Nat.succ.inj h), ?_⟩
    cases b
    · exact .head _
    · exact .tail _ (.head _)
def lv1 (m : List Bool) : Bool := decide (levM (rowB m abc) abc (popB m : Int) = popB m) && decide (levM abc (rowB m abc) ((popB m : Int) - 1) = popB m)
def lv2 (m : List Bool) : Bool := (bits 5).all fun m' => decide (levM (rowB m abc) (rowB m' abc) 5 = hamB m m') && Nat.ble (hamB m m') (popB m' + popB m)
def lv3 (r : List Nat) : Bool := decide (levM r (r.drop 1 ++ r.take 1) 4 = 4) && (decide (levM r (r.drop 1 ++ r.take 1) 1 = 2) && (decide (levM ([46] ++ r.drop 1) r 1 = 2) && decide (levM r ([46] ++ r) 0 = 2)))
theorem lv1_all : (bits 5).all lv1 = true := by decide +kernel
theorem lv2_all : (bits 5).all lv2 = true := by decide +kernel
theorem lv3_all : (bits 4).all (fun m => lv3 (rowB (m ++ [false]) abc)) = true := by decide +kernel
end Mine

end
section
open PySem PySem.W PySem.Calls PyProof.Rows
set_option linter.unusedVariables false
set_option maxRecDepth 100000
namespace Mine
theorem perms_all {f : List Nat → Bool} : ∀ (n : Nat) (rest acc : List Nat), permsOf n rest acc f = true → ∀ o : List Nat, o.Perm rest → o.length = n → f (acc ++ o) = true
  | 0, rest, acc, h, o, hp, hl => by
    rw [List.eq_nil_of_length_eq_zero hl, List.append_nil]; exact h
  | n + 1, rest, acc, h, [], hp, hl => nomatch hl
  | n + 1, rest, acc, h, x :: o, hp, hl => by
    rw [permsOf, List.all_eq_true] at h
    obtain ⟨hx, hp2⟩ := List.cons_perm_iff_perm_erase.mp hp
    have := perms_all n (rest.erase x) (acc ++ [x]) (h x hx) o hp2 (Nat.succ.inj hl)
    rwa [List.append_assoc] at this
theorem eqL_eq : ∀ {a b : List Nat}, eqL a b = true → a = b
  | [], [], _ => rfl
  | [], _ :: _, h => nomatch h
  | _ :: _, [], h => nomatch h
  | a :: l, b :: k, h => by
    obtain ⟨h1, h2⟩ := Bool.and_eq_true _ _ ▸ (show (Nat.beq a b && eqL l k) = true from h)
    rw [Nat.eq_of_beq_eq_true h1, eqL_eq h2]
theorem forceL_eq {β : Type} : ∀ (l : List Nat) (k : List Nat → β), forceL l k = k l
  | [], k => rfl
  | a :: l, k => forceL_eq l _
theorem ers_eq (x : Nat) : ∀ l : List Nat, ers x l = l.erase x
  | [] => rfl
  | d :: l => by
    show cond (Nat.beq d x) l (d :: ers x l) = _
    rw [ers_eq x l, List.erase_cons]
    by_cases h : d = x
    · rw [Nat.beq_eq.mpr h, if_pos (by simpa using h)]; rfl
    · rw [beq_no h, if_neg (by simpa using h)]; rfl
theorem revA_eq : ∀ l acc : List Nat, revA l acc = l.reverse ++ acc
  | [], acc => rfl
  | a :: l, acc => by show revA l (a :: acc) = _; rw [revA_eq l]; simp
theorem turnF_eq {β : Type} (x : Nat) (T : List Nat) (k : List Nat → β) : turnF x T k = k (turn1 T x) := by
  unfold turnF turn1 midW posW
  rw [forceL_eq, forceL_eq, forceL_eq, revA_eq]
theorem insF_spec {β : Type} (q : List Nat × List Nat) (acc : List (List Nat × List Nat)) (k : List (List Nat × List Nat) → β) : ∃ acc', insF q acc k = k acc' ∧ q ∈ acc' ∧ ∀ p ∈ acc, p ∈ acc' := by
  unfold insF
  cases e : acc.any fun p => eqL p.2 q.2 && eqL p.1 q.1 with
  | false => exact ⟨q :: acc, rfl, .head _, fun p h => .tail _ h⟩
  | true =>
    obtain ⟨p, hp, hq⟩ := List.any_eq_true.mp e
    obtain ⟨h1, h2⟩ := Bool.and_eq_true _ _ ▸ hq
    refine ⟨acc, rfl, ?_, fun p h => h⟩
    rw [show q = p from (Prod.ext (eqL_eq h2) (eqL_eq h1)).symm]
    exact hp
theorem stepF_spec {β : Type} (T rest : List Nat) : ∀ (xs : List Nat) (acc : List (List Nat × List Nat)) (k : List (List Nat × List Nat) → β), ∃ acc', stepF T rest xs acc k = k acc' ∧ (∀ p ∈ acc, p ∈ acc') ∧ ∀ x ∈ xs, (turn1 T x, rest.erase x) ∈ acc'
  | [], acc, k => ⟨acc, rfl, fun _ h => h, fun _ h => nomatch h⟩
  | x :: xs, acc, k => by
    rw [stepF, turnF_eq, forceL_eq, ers_eq]
    obtain ⟨a1, e1, m1, s1⟩ := insF_spec (turn1 T x, rest.erase x) acc fun acc' => stepF T rest xs acc' k
    obtain ⟨a2, e2, s2, m2⟩ := stepF_spec T rest xs a1 k
    refine ⟨a2, e1.trans e2, fun p h => s2 p (s1 p h), fun y hy => ?_⟩
    rcases List.mem_cons.mp hy with rfl | hy
    · exact s2 _ m1
    · exact m2 y hy
theorem nextF_spec {β : Type} : ∀ (l acc : List (List Nat × List Nat)) (k : List (List Nat × List Nat) → β), ∃ acc', nextF l acc k = k acc' ∧ (∀ p ∈ acc, p ∈ acc') ∧ ∀ p ∈ l, ∀ x ∈ p.2, (turn1 p.1 x, p.2.erase x) ∈ acc'
  | [], acc, k => ⟨acc, rfl, fun _ h => h, fun _ h => nomatch h⟩
  | q :: l, acc, k => by
    rw [nextF]
    obtain ⟨a1, e1, s1, m1⟩ := stepF_spec q.1 q.2 q.2 acc fun acc' => nextF l acc' k
    obtain ⟨a2, e2, s2, m2⟩ := nextF_spec l a1 k
    refine ⟨a2, e1.trans e2, fun p h => s2 p (s1 p h), fun p hp x hx => ?_⟩
    rcases List.mem_cons.mp hp with rfl | hp
    · exact s2 _ (m1 x hx)
    · exact m2 p hp x hx
theorem itF_spec {β : Type} : ∀ (o T rest : List Nat) (l : List (List Nat × List Nat)) (k : List (List Nat × List Nat) → β), (T, rest) ∈ l → o.Perm rest → ∃ l', itF o.length l k = k l' ∧ (turnL T o, []) ∈ l'
  | [], T, rest, l, k, h, hp => by rw [List.nil_perm.mp hp] at h; exact ⟨l, rfl, h⟩
  | x :: o, T, rest, l, k, h, hp => by
    obtain ⟨hx, hp2⟩ := List.cons_perm_iff_perm_erase.mp hp
    rw [List.length_cons, itF]
    obtain ⟨a1, e1, _, m1⟩ := nextF_spec l [] fun l' => itF o.length l' k
    obtain ⟨a2, e2, m2⟩ := itF_spec o (turn1 T x) (rest.erase x) a1 k (m1 _ h x hx) hp2
    exact ⟨a2, e1.trans e2, m2⟩
theorem cnt_count (z : Nat) : ∀ l : List Nat, cnt z l = l.count z
  | [] => rfl
  | d :: l => by
    show cond (Nat.beq d z) (cnt z l + 1) (cnt z l) = _
    rw [cnt_count z l, List.count_cons]
    by_cases h : d = z
    · rw [Nat.beq_eq.mpr h, if_pos (by simpa using h)]; rfl
    · rw [beq_no h, if_neg (by simpa using h)]; rfl
theorem memB_mem {z : Nat} : ∀ {l : List Nat}, memB z l = true → z ∈ l
  | [], h => nomatch h
  | d :: l, h => by
    rcases Bool.or_eq_true _ _ ▸ (show (Nat.beq d z || memB z l) = true from h) with h | h
    · rw [Nat.eq_of_beq_eq_true h]; exact .head _
    · exact .tail _ (memB_mem h)
theorem cnt_filter {p : Nat → Bool} : ∀ (l : List Nat) (k : Nat), l.foldl (fun k y => bif p y then k + 1 else k) k = k + (l.filter p).length
  | [], k => rfl
  | y :: l, k => by
    rw [List.foldl_cons, cnt_filter l]
    cases h : p y with
    | true => rw [List.filter_cons_of_pos h, List.length_cons]; show k + 1 + _ = _; omega
    | false => rw [List.filter_cons_of_neg (by rw [h]; exact Bool.false_ne_true)]; rfl
def great (W : List Nat) (x y : Nat) : Bool := Nat.beq (cnt y (midW x W)) 1
def rowS (W : List Nat) (x : Nat) : List Nat := rowB (maskF W x) abc
def crossL (W : List Nat) (x : Nat) : List Nat := (midW x W).filter (great W x)
/-- what is so of a word -/
structure FW (W : List Nat) : Prop where
  len : W.length = 10
  sub : ∀ z ∈ W, z ∈ abc
  two : ∀ x ∈ abc, W.count x = 2
  cross : ∀ x ∈ abc, (crossL W x).length = popB (maskF W x)
  c0 : ∀ x ∈ abc, ellM (S (([x] ++ dots) ++ [x])) (S (midW x W ++ [x])) = false
  c1 : ∀ x ∈ abc, ellM (S (([x] ++ dots) ++ [x])) (S ([x] ++ midW x W)) = false
  e1 : ∀ x ∈ abc, ∀ y ∈ abc, (elA x y (midW x W) && !elB x y (midW x W)) = great W x y
theorem crossF_len (W : List Nat) (x : Nat) : crossF W x = (crossL W x).length := by
  show (midW x W).foldl (fun k y => bif great W x y then k + 1 else k) 0 = _
  rw [cnt_filter, Nat.zero_add]; rfl
theorem abc46 {x : Nat} (h : x ∈ abc) : x ≠ 46 := fun e => absurd (e ▸ h) (by decide)
theorem word_facts {r : List Nat} (h : r.Perm abc) : FW (inter abc r) := by
  have h5 : r.length = 5 := h.length_eq
  have k1 : forceL (inter abc r) wok = true := perms_all 5 abc [] wok_all r h h5
  rw [forceL_eq] at k1
  generalize inter abc r = W at *
  unfold wok at k1
  rw [Bool.and_eq_true, Bool.and_eq_true, List.all_eq_true, List.all_eq_true] at k1
  obtain ⟨a1, a2, a3⟩ := k1
  have two : ∀ x ∈ abc, W.count x = 2 := fun x hx => by
    have := a3 x hx
    rw [Bool.and_eq_true] at this
    rw [← cnt_count]; exact Nat.eq_of_beq_eq_true this.1
  refine ⟨Nat.eq_of_beq_eq_true a1, fun z hz => memB_mem (a2 z hz), two, fun x hx => ?_, fun x hx => ?_, fun x hx => ?_, fun x hx y hy => ?_⟩
  · have := a3 x hx
    rw [Bool.and_eq_true, Bool.and_eq_true] at this
    rw [← crossF_len]; exact Nat.eq_of_beq_eq_true this.2.1
  · exact el_fore (abc46 hx) (cut_two (two x hx)).2.2.1
  · exact el_hind (abc46 hx) (cut_two (two x hx)).2.2.1
  · rw [el_once (abc46 hx) (abc46 hy)]
    unfold great
    rw [cnt_count, Bool.eq_iff_iff, decide_eq_true_iff, Nat.beq_eq]
/-- what is so of a turned word -/
structure FT (W T : List Nat) (pg : List (Nat × Int)) : Prop where
  len : T.length = 10
  sub : ∀ z ∈ T, z ∈ abc
  two : ∀ x ∈ abc, T.count x = 2
  pages : pagesO T abc [] = some pg
  all : ∀ z ∈ abc, pgHas z pg = true
  short : pg.length ≤ 100
  flat : flatO T pg = evenF W
theorem turn_facts {r o : List Nat} (h : r.Perm abc) (ho : o.Perm abc) : ∃ pg, FT (inter abc r) (turnL (inter abc r) o) pg := by
  have h5 : r.length = 5 := h.length_eq
  have k1 : forceL (inter abc r) okF = true := perms_all 5 abc [] okw_all r h h5
  rw [forceL_eq] at k1
  have F := word_facts h
  generalize inter abc r = W at *
  unfold okF at k1
  obtain ⟨l', e, hm⟩ := itF_spec o W abc [(W, abc)] (fun l => l.all fun p => okT W p.1) (.head _) ho
  rw [ho.length_eq] at e
  rw [show itF 5 [(W, abc)] (fun l => l.all fun p => okT W p.1) = _ from e, List.all_eq_true] at k1
  have k2 := k1 _ hm
  clear e
  have hp : (turnL W o).Perm W := turns_perm o W fun c hc => F.two c (ho.mem_iff.mp hc)
  dsimp only at k2
  generalize turnL W o = T at *
  unfold okT at k2
  cases e : pagesO T abc [] with
  | none => rw [e] at k2; exact nomatch k2
  | some pg =>
    rw [e] at k2
    dsimp only at k2
    rw [Bool.and_eq_true, Bool.and_eq_true, List.all_eq_true] at k2
    exact ⟨pg, hp.length_eq.trans F.len, fun z hz => F.sub z (hp.mem_iff.mp hz), fun x hx => by rw [hp.count_eq]; exact F.two x hx, e, k2.1, Nat.le_of_ble_eq_true k2.2.1, eq_of_beq k2.2.2⟩
/-- distances of rows -/
theorem mask_len (W : List Nat) (x : Nat) : (maskF W x).length = 5 := by unfold maskF; rw [List.length_map]; rfl
theorem lev_in (W : List Nat) (x : Nat) : levM (rowS W x) abc (popB (maskF W x) : Int) = popB (maskF W x) ∧ levM abc (rowS W x) ((popB (maskF W x) : Int) - 1) = popB (maskF W x) := by
  have h := List.all_eq_true.mp lv1_all _ (bits_all 5 _ (mask_len W x))
  unfold lv1 at h
  rw [Bool.and_eq_true] at h
  exact ⟨of_decide_eq_true h.1, of_decide_eq_true h.2⟩
theorem lev_two (W : List Nat) (x y : Nat) : levM (rowS W y) (rowS W x) 5 = hamB (maskF W y) (maskF W x) ∧ hamB (maskF W y) (maskF W x) ≤ popB (maskF W x) + popB (maskF W y) := by
  have h := List.all_eq_true.mp lv2_all _ (bits_all 5 _ (mask_len W y))
  unfold lv2 at h
  have h2 := List.all_eq_true.mp h _ (bits_all 5 _ (mask_len W x))
  rw [Bool.and_eq_true] at h2
  exact ⟨of_decide_eq_true h2.1, Nat.le_of_ble_eq_true h2.2⟩
theorem mid_free {x : Nat} {W : List Nat} (h : W.count x = 2) : x ∉ midW x W := (cut_two h).2.2.1
theorem lev_e {W : List Nat} (F : FW W) : lv3 (rowS W 101) = true := by
  have h0 : great W 101 101 = false := by
    unfold great
    rw [cnt_count, List.count_eq_zero_of_not_mem (mid_free (F.two 101 (by decide)))]; rfl
  have hm : maskF W 101 = [great W 101 97, great W 101 98, great W 101 99, great W 101 100] ++ [false] := by
    rw [← h0]; rfl
  unfold rowS
  rw [hm]
  exact List.all_eq_true.mp lv3_all _ (bits_all 4 _ rfl)
theorem row_len (W : List Nat) (x : Nat) : (rowS W x).length = 5 := rfl
theorem row_at (W : List Nat) (x : Nat) : rowS W x = abc.map fun y => bif great W x y then y - 32 else y := rfl
theorem row_same {W : List Nat} {x j : Nat} (hj : j < 5) : decide ((rowS W x)[j]'(by rw [row_len]; exact hj) = abc[j]'hj) = !(maskF W x).getD j false := by
  have e : (rowS W x)[j]'(by rw [row_len]; exact hj) = bif great W x (abc[j]'hj) then abc[j]'hj - 32 else abc[j]'hj := by
    simp only [row_at, List.getElem_map]
    rfl
  have e2 : (maskF W x).getD j false = great W x (abc[j]'hj) := by
    rw [List.getD_eq_getElem?_getD]
    unfold maskF
    rw [List.getElem?_map, List.getElem?_eq_getElem hj]; rfl
  rw [e, e2]
  have h97 : ∀ z ∈ abc, 97 ≤ z := by decide
  have := h97 _ (List.getElem_mem hj)
  cases great W x (abc[j]'hj) with
  | true => show decide (_ - 32 = _) = false; rw [decide_eq_false_iff_not]; omega
  | false => show decide (_ = _) = true; rw [decide_eq_true_eq]; rfl
end Mine

end
section
open PySem PySem.W PySem.Calls PyProof.Rows
set_option linter.unusedVariables false
set_option maxRecDepth 100000
namespace Mine
variable {c : Cx} {Γ Γ₁ Γ' : Tys} {N N₀ N₁ N' : Led} {Q : Flow → Shared → Prop}
/-- as Fn, of what the caller's heap and ledger hold besides -/
def FnH (prog : Program) (w : World) (K : Frag) (p : Program) (f : Addr) (need : Nat) (H : Heap → Led → Prop) (vs : List Value) (P : Value → Led → Prop) : Prop :=
  ∀ (loose : List Str) (mean : ExcName → Option Value) (mg mb : Str → Option Value) (dp un : Nat) (gd : Option (List Code)) (cn : Str) (cs : PySem.Scope) (a : Addr) (ccd : Value) (cl : List (Str × Addr)) (outer : List Env) (A₀ : Around) (base h₀ : Heap) (L : Addr) (m : Str → Option Value) (news : List (Addr × Obj)) (s : Shared) (Q E : Value → Shared → Prop),
    Below A₀ base outer h₀ → Fr h₀ L s.heap m → K.In h₀ → News h₀ L s.heap news → Top p loose mean mg mb h₀ → cs.kind = .function → H h₀ news →
    dp + need < recursionLimit → un + 8 * need < cLine →
    (∀ (v : Value) (own : List (Addr × Obj)) (h' : Heap) (tk' : Nat), P v own → Fr h₀ L h' m → News h₀ L h' (own ++ news) → (∀ p ∈ own, ∀ q ∈ news, q.1 < p.1) → Q v { s with heap := h', toks := tk' }) →
      wpAny (model prog w) (ktrTop dp un gd cn cs L a ccd cl outer) (call (.ref f) vs) Q E s
theorem FnH.of_rt {prog : Program} {w : World} {K : Frag} {p : Program} {f : Addr} {n : Nat} {H : Heap → Led → Prop} {vs : List Value} {P : Value → Led → Prop}
    {name qual : Str} {params : Arguments} {body : List Stmt} {scope : PySem.Scope} {dV kV doc pm cdv ct oc : Value} {an od : Option Addr} {osl : Array (Option Value)} {binds : List (Str × Value)}
    (hH : ∀ h g N, (∀ a o, h.get? a = some o → g.get? a = some o) → H h N → H g N)
    (ho : K.lookup f = some ⟨oc, od, .func (fnOf name qual params body scope dV kV doc pm an cdv ct), osl⟩) (hcd : codeIn K cdv qual = true)
    (hbind : ∀ s, BindsTo s (fnOf name qual params body scope dV kV doc pm an cdv ct) ⟨vs, []⟩ binds) (hloc : ∀ y ∈ binds, scope.names.lookup y.1 = some .local) (Γ : Tys) (hΓ : Has (fun y => binds.reverse.lookup y) Γ)
    (hco : scope.isCoroutine = false) (hgen : scope.isGenerator = false) (hk : scope.kind = .function) (hcell : ∀ x ∈ scope.names, x.2 ≠ .cell)
    (hr : ∀ A L' g s, Rm ⟨prog, w, A, envOf qual scope L' f cdv, g, s, K, true⟩ p n → ∀ N, H g N → Rt ⟨prog, w, A, envOf qual scope L' f cdv, g, s, K, true⟩ N Γ N body P) : FnH prog w K p f (n + 1) H vs P := by
  intro loose mean mg mb dp un gd cn cs a ccd cl outer A₀ base h₀ L m news s Q E B F X N T hkk hHH hd hu ret
  refine wpAny_call ?_
  refine W.code_def (env := envX cn cs L a ccd cl) (outer := outer) B F X N T rfl rfl hkk ho hcd (by show dp < recursionLimit; omega) (hbind s) hloc ?_ hco hgen hk hcell
  intro g L' h₁ FG F' N' B' X' T'
  have T'' := topRead_of T'
  have R : Rm ⟨prog, w, (ktrTop dp un gd cn cs L a ccd cl outer).deeper (envOf qual scope L' f cdv), envOf qual scope L' f cdv, g, s, K, true⟩ p n :=
    ⟨rfl, ⟨loose, mean, mg, mb, dp + 1, un + 3, gd, qual, scope, f, cdv, [], envX cn cs L a ccd cl :: outer, _, base, rfl, B', X', T', hk, by omega, by omega⟩, X',
      fun x v e hx hdd pp s' m' Q' E' F₁ hq => nameX_K F₁ X' T'' e hq hk hx hdd, fun x v e hv hne hx hdd pp s' m' Q' E' F₁ hq => nameX_B F₁ X' T'' e hv hne hq hk hx hdd⟩
  refine wpAny_mono (hr _ _ _ _ R news (hH h₀ g news (fun a o e => FG.keep a o e) hHH) { s with heap := h₁, toks := s.toks + binds.length } ⟨h₁, _, s.gens, _, rfl, (fun q => by cases q), fun _ => rfl, F', N', hΓ⟩) ?_ (fun _ _ e => e.elim)
  rintro fl s' ⟨v, own, rfl, hP, hl, h', tk', gs, m', rfl, _, hg, F₂, N₂, _⟩
  obtain rfl := hg rfl
  exact leaveK_ F₂ N₂ fun F₃ N₃ => ret v own h' tk' hP F₃ N₃ hl
/-- a call that asks the heap and the ledger -/
def CnNAt (c : Cx) (N : Led) (f : Value) (vs : List Value) (P : Value → Led → Prop) : Prop := ∀ Γ s, St c Γ N s → wpAny (model c.prog c.w) c.A (call f vs) (fun v s' => ∃ own, P v own ∧ (∀ p ∈ own, ∀ q ∈ N, q.1 < p.1) ∧ St c Γ (own ++ N) s') noE s
def EvNAt (c : Cx) (Γ : Tys) (N : Led) (e : Expr) (P : Value → Led → Prop) : Prop := ∀ s, St c Γ N s → wpAny (model c.prog c.w) c.A (eval e c.env) (fun v s' => ∃ own, P v own ∧ (∀ p ∈ own, ∀ q ∈ N, q.1 < p.1) ∧ St c Γ (own ++ N) s') noE s
theorem cnN_fnH {p : Program} {f : Addr} {need n : Nat} {H : Heap → Led → Prop} {vs : List Value} {P : Value → Led → Prop} (C : FnH c.prog c.w c.K p f need H vs P) (X : Fnc c p n) (hn : Nat.ble need n = true) (hH : H c.g N) : CnNAt c N (.ref f) vs P := by
  intro Γ s hs
  have hn := Nat.le_of_ble_eq_true hn
  obtain ⟨loose, mean, mg, mb, dp, un, gd, cn, cs, a, ccd, cl, outer, A₀, base, hA, B, X, T, hk, hd, hu⟩ := X
  obtain ⟨h', tk, gs, m, rfl, hb, g, F, Nn, HH⟩ := hs
  rw [hA]
  exact C _ _ _ _ _ _ _ _ _ _ _ _ _ _ _ _ _ _ _ _ _ _ B F X Nn T hk hH (by omega) (by omega) fun v own h'' tk'' hP F' N' hl => ⟨own, hP, hl, h'', tk'', gs, m, rfl, hb, g, F', N', HH⟩
theorem EvNAt.call {x : Str} {p p2 : Pos} {e : Expr} {es : List Expr} {f : Value} {Ps : List (Value → Prop)} {R : Value → Led → Prop} (hf : Fc c x f) (ha : EvA c Γ (e :: es) Ps) (hc : ∀ vs, AllP Ps vs → CnNAt c N f vs R)
    (h1 : starEach (e :: es) c.env = (false, eval e c.env) :: starEach es c.env) (h2 : (backTo p2 (starEach es c.env)).any (·.1) = false)
    (he : eval (.Call (.Name x p) (e :: es) [] p2) c.env = (do callWith p2 (← eval (.Name x p) c.env) [] (backTo p2 (starEach (e :: es) c.env)) (backToKw p2 (keywordEach [] c.env)))) : EvNAt c Γ N (.Call (.Name x p) (e :: es) [] p2) R := by
  intro s hs
  obtain ⟨m, F⟩ := hs.fr
  refine Call_ (hf.1 p s m _ _ F ?_) he
  refine callWith_K hf.2.2 hf.2.1 ?_ h1 h2
  refine wp_then (ha p2 N s hs) fun vs s₂ h₂ => ⟨?_, hc vs h₂.1 Γ s₂ h₂.2⟩
  obtain ⟨m₂, F₂⟩ := h₂.2.fr
  exact hf.2.2.keeps F₂.keep
theorem EvNAt.at {e : Expr} {R : Value → Led → Prop} {P : Value → Prop} (h : EvNAt c Γ N e R) (hR : ∀ v own, R v own → P v) : EvAt c Γ N e P := fun s hs =>
  wp_then (h s hs) fun v s' ⟨own, hP, _, h⟩ => ⟨hR v own hP, h.led fun q hq => List.mem_append_right _ hq⟩
theorem Bl.assignNAt {x : Str} {p p2 : Pos} {e : Expr} {l : List Stmt} {P : Value → Led → Prop} (he : EvNAt c Γ N e P) (hk : ∀ v own, P v own → (∀ p ∈ own, ∀ q ∈ N, q.1 < p.1) → Bl c ((x, IsV v) :: Γ') (own ++ N) l Q) (hsub : ∀ q ∈ Γ', q ∈ Γ) (hf : fresh x Γ' = true) (hx : c.env.kindOf x = some .local) (hp : (c.env.scope.kind == .class || (c.env.scope.kind == .module && c.env.locals != c.env.globals)) = false)
    (hs : swapsWith e (some (.Name x p)) p2.line c.env = pure false) : Bl c Γ N (.Assign [.Name x p] e p2 :: l) Q := fun s h =>
  wpAny_execs_cons (wpAny_Assign_Name (wp_then (he s h) fun v s₁ ⟨own, hP, hl, h₁⟩ => wp_then ((h₁.weak hsub).set (P := IsV v) rfl hf hx hp) fun _ s₂ h₂ => hk v own hP hl s₂ h₂) hs)
theorem map3 {α β : Type} {a b d : α} : ∀ {ls : List (α × β)}, ls.map (·.1) = [a, b, d] → ∃ t0 t1 t2, ls = [(a, t0), (b, t1), (d, t2)]
  | [p, q, r], e => by
    simp only [List.map_cons, List.map_nil, List.cons.injEq, and_true] at e
    obtain ⟨rfl, rfl, rfl⟩ := e
    exact ⟨p.2, q.2, r.2, rfl⟩
/-- x.split(one letter that occurs twice) -/
theorem EvN.splitW {a b : Expr} {p p2 : Pos} {n m d : Nat} {l : List Nat} {pl : Sem Bool} (ha : Ev c Γ a (IsL n l)) (hb : Ev c Γ b (IsL m [d])) (h2 : l.count d = 2) (hn : Nat.ble n 1000 = true) (h1 : starEach [b] c.env = (false, eval b c.env) :: starEach [] c.env)
    (he : eval (.Call (.Attribute a "split" p) [b] [] p2) c.env = (do
      let ov ← eval a c.env
      standAt p.atName
      let (f, first) ← holding [ov] (getMethod ov "split" pl)
      callWith p2 f first (backTo p2 (starEach [b] c.env)) [])) : EvN c Γ (.Call (.Attribute a "split" p) [b] [] p2) (fun v own => ∃ D t0 t1 t2, v = .ref D ∧ own = [(D, lsT [(S (preW d l), t0), (S (midW d l), t1), (S (posW d l), t2)] 0)] ∧ l.length ≤ n) := by
  intro N s hs
  have := Nat.le_of_ble_eq_true hn
  refine MethodCall_ (pl := pl) (wp_then (ha N s hs) ?_) he
  rintro v s₁ ⟨⟨⟨t, rfl⟩, hl⟩, h₁⟩
  refine GM.split (callWith_method1 (wp_then (EvA.cons hb EvA.nil h1 p2 N s₁ h₁) ?_) h1 rfl)
  rintro vs s₂ ⟨hv, h₂⟩
  obtain ⟨v1, rfl⟩ := lenP1 hv
  obtain ⟨⟨⟨t', rfl⟩, _⟩, _⟩ := hv
  · skip
    obtain ⟨h', tk, gs, m, rfl, hb, g, F, Nn, H⟩ := h₂
    refine KSpl.split1 F Nn (by rw [S_len]; rfl) (fun D ls h₂ k e a F₂ N₂ hD => ?_) (by rw [S_len]; have := sizeLine_eq; omega)
    rw [split_S h2] at e
    obtain ⟨t0, t1, t2, rfl⟩ := map3 e
    exact ⟨_, ⟨D, t0, t1, t2, rfl, rfl, hl⟩, (fun p hp q hq => by rw [List.mem_singleton.mp hp]; exact hD q hq), h₂, k, gs, m, rfl, hb, g, F₂, N₂, H⟩
theorem mid_len {d : Nat} {l : List Nat} (h : l.count d = 2) : (preW d l).length + (midW d l).length + (posW d l).length + 2 = l.length := by
  have := congrArg List.length (cut_two h).1
  simp at this
  omega
/-- x.split(one letter that occurs twice)[1] -/
theorem Ev.splitMid {a b : Expr} {p p2 p3 p4 : Pos} {k n m d : Nat} {l : List Nat} {pl : Sem Bool} (ha : Ev c Γ a (IsL n l)) (hb : Ev c Γ b (IsL m [d])) (h2 : l.count d = 2) (hn : Nat.ble n 1000 = true) (h1 : starEach [b] c.env = (false, eval b c.env) :: starEach [] c.env)
    (he : eval (.Call (.Attribute a "split" p) [b] [] p2) c.env = (do
      let ov ← eval a c.env
      standAt p.atName
      let (f, first) ← holding [ov] (getMethod ov "split" pl)
      callWith p2 f first (backTo p2 (starEach [b] c.env)) []))
    (hs : ∀ {D u}, subscripted (.Constant (.int 1) k p3) false (.ref D) (.int 1 u) = operate [.ref D, .int 1 u] (getItem (.ref D) (.int 1 u))) :
    Ev c Γ (.Subscript (.Call (.Attribute a "split" p) [b] [] p2) (.Constant (.int 1) k p3) p4) (IsL n (midW d l)) := by
  intro N s h
  refine Subscript_ (wp_then (EvN.splitW ha hb h2 hn h1 he N s h) ?_)
  rintro v s₁ ⟨own, ⟨D, t0, t1, t2, rfl, rfl, hll⟩, hl, h₁⟩
  refine wpAny_Constant_int ?_
  have h₂ := (h₁.toks (s₁.toks + 1)).led (N' := N) fun q hq => .tail _ hq
  obtain ⟨h', tk, gs, m, rfl, hb, g, F, Nn, H⟩ := h₁
  exact tail_any (s := { c.s₁ with heap := h', toks := tk + 1, gens := gs }) (Nn.isList (.head _)).typeIs slot_list_getitem.lookup (wpAny_getItem_list (k := 1) (Nn.isList (.head _)) (by decide) (by decide) rfl ⟨⟨⟨_, rfl⟩, by have := mid_len h2; omega⟩, h₂⟩) hs
/-- x[::-1] -/
theorem rev_S (l : List Nat) (u : Tok) : Txt.sliceBy (S l) none none (-1, u) = S l.reverse := by
  have h := step_rev_list (S l) u
  rw [← S_of (Txt.sliceBy (S l) none none (-1, u)), h]
  congr 1
  apply List.ext_getElem
  · simp [S, Str.length]
  · intro i h1 h2
    simp [S, Str.length]
    simp [S, Str.length] at h1
    rw [List.getElem?_eq_getElem (by omega)]
    rfl
theorem Ev.rev {a e : Expr} {p p2 : Pos} {n : Nat} {l : List Nat} (ha : Ev c Γ a (IsL n l)) (he : Ev c Γ e (IsI (-1))) (hn : Nat.ble n 1000000 = true)
    (hs : ∀ {x t r}, subscripted (.Slice none none (some e) p) false (.str x t) (.ref r) = operate [.ref r, .str x t] (getItem (.str x t) (.ref r)))
    (ht : ∀ {x t} r, letTemporaryGo a (.str x t) r = pure ()) : Ev c Γ (.Subscript a (.Slice none none (some e) p) p2) (IsL n l.reverse) := by
  intro N s hs'
  refine Subscript_ (wp_then (ha N s hs') ?_)
  rintro v s₁ ⟨⟨⟨t, rfl⟩, hl⟩, h₁⟩
  refine wpAny_Slice (evalPart_none_step (evalPart_none_step (evalPart_some_step (wp_then (he N s₁ h₁) ?_))))
  rintro v s₂ ⟨⟨t', rfl⟩, h₂⟩
  obtain ⟨h', tk, gs, m', rfl, hb, g, F, Nn, H⟩ := h₂
  have := Nat.le_of_ble_eq_true hn
  refine slice_strK_nn (s := { c.s₁ with heap := h', toks := tk, gens := gs }) F Nn (by decide) (fun h₃ t₃ k₃ F₃ N₃ => ?_) hs ht (by rw [S_len, sizeLine_eq]; omega)
  rw [rev_S]
  exact ⟨⟨⟨t₃, rfl⟩, by rw [List.length_reverse]; exact hl⟩, h₃, k₃, gs, m', rfl, hb, g, F₃, N₃, H⟩
/-- x, y, z = a list of three texts -/
theorem Ex.unpack3 {x y z : Str} {p1 p2 p3 p4 p5 : Pos} {k : Nat} {e : Expr} {P P' P'' : Value → Prop} {R : Value → Led → Prop} (he : EvN c Γ e R) (hR : ∀ v own, R v own → ∃ D a b d n, v = .ref D ∧ (D, listOf #[a, b, d] n) ∈ own ∧ P a ∧ P' b ∧ P'' d) (hh : c.A.handled = none)
    (hsub : ∀ q ∈ Γ', q ∈ Γ) (hf : fresh x Γ' = true) (hf2 : fresh y ((x, P) :: Γ') = true) (hf3 : fresh z ((y, P') :: (x, P) :: Γ') = true)
    (hx : c.env.kindOf x = some .local) (hy : c.env.kindOf y = some .local) (hz : c.env.kindOf z = some .local) (hp : (c.env.scope.kind == .class || (c.env.scope.kind == .module && c.env.locals != c.env.globals)) = false)
    (hs : swapsWithSole [.Tuple [.Name x p1, .Name y p2, .Name z p3] k p4] e p5.line c.env = pure false) (hw : swappedStores [.Tuple [.Name x p1, .Name y p2, .Name z p3] k p4] e c.env = pure none) :
    Ex c Γ N (.Assign [.Tuple [.Name x p1, .Name y p2, .Name z p3] k p4] e p5) ((z, P'') :: (y, P') :: (x, P) :: Γ') N := by
  intro s h
  refine Assign_Tuple (wp_then (he N s h) ?_) hs hw
  rintro v s₁ ⟨own, hv, _, h₁⟩
  obtain ⟨D, a, b, d, n, rfl, hm, ha, hb, hd⟩ := hR v own hv
  obtain ⟨h', tk, gs, m, rfl, hbr, g, F, Nn, H⟩ := h₁.weak hsub
  refine kun_list (s := { c.s₁ with heap := h', toks := tk, gens := gs }) F Nn (Nn.isList (List.mem_append_left _ hm)) hh rfl rfl fun h₂ F₂ N₂ => ?_
  have st : St c Γ' N { c.s₁ with heap := h₂, toks := tk, gens := gs } := ⟨h₂, tk, gs, m, rfl, hbr, g, F₂, fun q hq => N₂ q (List.mem_append_right _ hq), H⟩
  refine assignInOrder_cons (assign_Name (wp_then (st.set ha hf hx hp) fun _ s₂ h₂ => ?_))
  refine assignInOrder_cons (assign_Name (wp_then (h₂.set hb hf2 hy hp) fun _ s₃ h₃ => ?_))
  exact assignInOrder_cons (assign_Name (wp_then (h₃.set hd hf3 hz hp) fun _ s₄ h₄ => assignInOrder_nil ⟨rfl, h₄⟩))
theorem St.mono2 {s : Shared} (h : St c Γ N s) (hs : ∀ q ∈ Γ', ∃ P, (q.1, P) ∈ Γ ∧ ∀ v, P v → q.2 v) : St c Γ' N s := by
  obtain ⟨h', tk, gs, m, e, a, g, b, d, H⟩ := h
  refine ⟨h', tk, gs, m, e, a, g, b, d, fun q hq => ?_⟩
  obtain ⟨P, hP, k⟩ := hs q hq
  obtain ⟨v, hv, hPv⟩ := H _ hP
  exact ⟨v, hv, k v hPv⟩
end Mine

end
section
open PySem PySem.W PySem.Calls PyProof.Rows
set_option linter.unusedVariables false
set_option maxRecDepth 100000
namespace Mine
theorem ints_at : ∀ {l : List Value} {ns : List Int}, IntsAre l ns → ∀ {k : Nat}, k < l.length → ∃ z t, l[k]? = some (Value.int z t)
  | _, _, .nil, k, h => absurd h (Nat.not_lt_zero k)
  | _, _, .cons _ _ _, 0, _ => ⟨_, _, rfl⟩
  | _, _, .cons _ _ r, k + 1, h => by
    obtain ⟨z, t, e⟩ := ints_at r (Nat.lt_of_succ_lt_succ h)
    exact ⟨z, t, by simpa using e⟩
theorem tup_any {prog : Program} {w : World} {A : Around} {E : Value → Shared → Prop} {s : Shared} {h₀ : Heap} {L : Addr} {news : List (Addr × Obj)} {value slice : Expr} {t : Addr} {l : List Value} {ns : List Int} {k : Nat} {u : Tok} {Q : Value → Shared → Prop} (N : News h₀ L s.heap news) (hm : (t, tupOf l) ∈ news) (hi : IntsAre l ns) (hk : k < l.length) (hl : l.length ≤ 1000) (h : ∀ z t', Q (.int z t') s)
    (hs : subscripted slice false (.ref t) (.int k u) = operate [.ref t, .int k u] (getItem (.ref t) (.int k u)) := by with_unfolding_all rfl) :
    wpAny (model prog w) A (subscriptTail value slice (.ref t) (.int (k : Nat) u)) Q E s := by
  obtain ⟨z, t', hz⟩ := ints_at hi hk
  exact item_tupleT (j := k) (News.isTup N hm) (by omega) (by omega) (by
    unfold seqIndex?
    rw [if_neg (show ¬ (k : Int) < 0 by omega)]
    simp [hk]) hz (h z t') hs
local macro_rules | `(tactic| walk_at "subscriptTail Tuple Name ref int") => `(tactic| (k_here; (refine' tup_any ?k1 ?k2 ?k3 ?k4 ?k5 ?_; (case k1 => k_asm); (case k2 => exact .head _); (case k3 => repeat constructor); (case k4 => (simp only [List.length_cons, List.length_nil]; omega)); (case k5 => simp)); intro z9 t9; (try dsimp only)))
local macro_rules | `(tactic| walk_at "pyIter ref") => `(tactic| refine Held.mk ?_)
local macro_rules | `(tactic| walk_at "exec For") => `(tactic| refine Held.mk ?_)
theorem inter_snoc (x : Nat) : ∀ (r as : List Nat) (h : r.length < as.length), inter as (r ++ [x]) = inter as r ++ [as[r.length], x]
  | [], a :: as, _ => by simp [inter]
  | y :: r, a :: as, h => by simp [inter, inter_snoc x r as (by simpa using h)]
theorem inter_len : ∀ (as r : List Nat), (inter as r).length ≤ 2 * as.length
  | [], r => by simp [inter]
  | a :: as, [] => by simp [inter]
  | a :: as, r :: rs => by have := inter_len as rs; simp [inter]; omega
theorem take_perm {r rest L : List Nat} {n : Nat} (h : (r ++ rest).Perm L) (hn : n < rest.length) : ((r ++ [rest[n]]) ++ (rest.take n ++ rest.drop (n + 1))).Perm L := by
  refine List.Perm.trans ?_ h
  rw [List.append_assoc]
  refine List.Perm.append_left r ?_
  have h1 : rest = rest.take n ++ rest[n] :: rest.drop (n + 1) := by rw [← List.drop_eq_getElem_cons hn, List.take_append_drop]
  exact (List.perm_middle.symm.trans (List.Perm.of_eq h1.symm) : (rest[n] :: (rest.take n ++ rest.drop (n + 1))).Perm rest)

variable {c : Cx} {Γ Γ₁ Γ' : Tys} {N N₀ N₁ N' : Led} {Q : Flow → Shared → Prop}
/-- sum(y[a::b]) -/
theorem Ev.sumSliceK {ops : Addr → List Value} {x y : Str} {p1 p2 p3 p5 p6 p7 : Pos} {l : Addr} {a b : Int} {ea : Expr} {k2 : Nat} {vs : List Value} {ns : List Int} (hea : Ev c Γ ea (IsI a)) (hf : Gl c x (.builtin "sum")) (hy : Ev c Γ (.Name y p2) (IsV (.ref l))) (hl : c.g.IsList l vs.toArray) (hi : IntsAre vs ns) (hns : ns.length ≤ 1000) (hh : c.A.handled = none) (hb0 : b ≠ 0)
    (h1 : starEach [.Subscript (.Name y p2) (.Slice (some ea) none (some (.Constant (.int b) k2 p5)) p6) p7] c.env = (false, eval (.Subscript (.Name y p2) (.Slice (some ea) none (some (.Constant (.int b) k2 p5)) p6) p7) c.env) :: starEach [] c.env)
    (he : eval (.Call (.Name x p1) [.Subscript (.Name y p2) (.Slice (some ea) none (some (.Constant (.int b) k2 p5)) p6) p7] [] p3) c.env = (do callWith p3 (← eval (.Name x p1) c.env) [] (backTo p3 (starEach [.Subscript (.Name y p2) (.Slice (some ea) none (some (.Constant (.int b) k2 p5)) p6) p7] c.env)) (backToKw p3 (keywordEach [] c.env))))
    (hs : ∀ {r}, subscripted (.Slice (some ea) none (some (.Constant (.int b) k2 p5)) p6) false (.ref l) (.ref r) = operate (ops r) (getItem (.ref l) (.ref r))) (ht : ∀ r, letTemporaryGo (.Name y p2) (.ref l) r = pure ()) :
    Ev c Γ (.Call (.Name x p1) [.Subscript (.Name y p2) (.Slice (some ea) none (some (.Constant (.int b) k2 p5)) p6) p7] [] p3) AnyI := by
  intro N s hst
  obtain ⟨m0, F0⟩ := hst.fr
  refine Call_ (hf p1 s m0 _ _ F0 ?_) he
  refine PyProof.Rows.callWith_builtin1 ?_ h1
  rw [h1]
  refine Calls.spliced_cons (Subscript_ (wp_then (hy N s hst) ?_))
  rintro v s₁ ⟨rfl, h₁⟩
  refine wpAny_Slice (evalPart_some_step (wp_then (hea N s₁ h₁) ?_))
  rintro v s₂ ⟨⟨t2, rfl⟩, h₂⟩
  refine evalPart_none_step (evalPart_some_step (wp_then (Ev.int (c := c) (Γ := Γ) N s₂ h₂) ?_))
  rintro v s₃ ⟨⟨t3, rfl⟩, h₃⟩
  obtain ⟨h', tk, gs, m, rfl, hb, g, F, Nn, H⟩ := h₃
  have hlen := hi.length
  refine slice_list3 (s := { c.s₁ with heap := h', toks := tk, gens := gs }) F Nn (F.lst hl) (.int _ _) .none (.int _ _) (by simpa using hb0) (fun h₂ F₂ N₂ => ?_) hs ht (by rw [List.size_toArray, sizeLine_eq]; omega)
  refine Calls.spliced_nil ?_
  refine sumK (s := { c.s₁ with heap := h₂, toks := tk, gens := gs }) hh F₂ N₂ (vs := (slicePick vs.toArray (some a) none (some b)).toList) (News.isList N₂ (.head _)) (hi.pick _ _ _) fun h₄ tk₄ t₄ F₄ N₄ => ⟨⟨_, _, rfl⟩, h₄, tk₄, gs, m, rfl, hb, g, F₄, fun q hq => N₄ q (List.mem_cons_of_mem _ hq), H⟩

theorem Ev.any2 {a b : Expr} {p : Pos} (ha : Ev c Γ a AnyI) (hb : Ev c Γ b AnyI) : Ev c Γ (.BinOp a .Add b p) AnyI := by
  refine Ev.bin ha hb ?_
  rintro v v' ⟨z, t, rfl⟩ ⟨z', t', rfl⟩ N s hst
  exact add_int ⟨⟨_, _, rfl⟩, hst.toks _⟩
theorem anys_ints : ∀ (vs : List Value) (k : Nat), AllP (List.replicate k AnyI) vs → ∃ ns, IntsAre vs ns ∧ vs.length = k
  | [], 0, _ => ⟨[], .nil, rfl⟩
  | [], k + 1, h => h.elim
  | v :: vs, 0, h => h.elim
  | v :: vs, k + 1, ⟨⟨z, t, h⟩, r⟩ => by
    subst h
    obtain ⟨ns, h1, h2⟩ := anys_ints vs k r
    exact ⟨_, .cons _ _ h1, by simp [h2]⟩
/-- (a, ..)[e] -/
theorem Ev.tupItem {es : List Expr} {e : Expr} {k2 n k : Nat} {p p2 : Pos} (hes : EvA c Γ es (List.replicate n AnyI)) (he : Ev c Γ e (IsI (k : Int))) (hk : k < n) (hn : n ≤ 100)
    (hs : ∀ {T i t}, subscripted e false (.ref T) (.int i t) = operate [.ref T, .int i t] (getItem (.ref T) (.int i t))) : Ev c Γ (.Subscript (.Tuple es k2 p) e p2) AnyI := by
  intro N s h
  refine Subscript_ (Tuple_ (wp_then (hes p N s h) ?_))
  rintro vs s₁ ⟨hv, h₁⟩
  obtain ⟨ns, hi, hl⟩ := anys_ints vs n hv
  obtain ⟨h', tk, gs, m, rfl, hb, g, F, Nn, H⟩ := h₁
  refine kup_newTuple F Nn (fun D h₂ F₂ N₂ hD => ?_) (by rw [sizeLine_eq]; omega)
  refine wp_then (he ((D, tupOf vs) :: N) _ ⟨h₂, tk, gs, m, rfl, hb, g, F₂, N₂, H⟩) ?_
  rintro v s₂ ⟨⟨t', rfl⟩, h₃⟩
  have h₄ := h₃.led (N' := N) fun q hq => .tail _ hq
  obtain ⟨h', tk, gs, m, rfl, hb, g, F, Nn, H⟩ := h₃
  exact tup_any (s := { c.s₁ with heap := h', toks := tk, gens := gs }) Nn (.head _) hi (by omega) (by omega) (fun z t => ⟨⟨z, t, rfl⟩, h₄⟩) hs
theorem IsL.mono {n m : Nat} {l k : List Nat} {v : Value} (h : IsL n l v) (e : l = k) (hm : k.length ≤ m) : IsL m k v := by subst e; exact ⟨h.1, hm⟩
theorem perm_two {r rest : List Nat} (h : (r ++ rest).Perm abc) : r.length + rest.length = 5 := by have := h.length_eq; simpa [abc] using this
theorem letR' {p : Program} {n : Nat} (R : Rm c p n) {H : Prop} {N₀ : Led} {l : List Stmt} {P : Value → Led → Prop} (h : let c' := c; Rm c' p n → H → Rt c' N₀ Γ N l P) : H → Rt c N₀ Γ N l P := h R
end Mine

end
section
open PySem PySem.W PySem.Calls PyProof.Rows
set_option linter.unusedVariables false
set_option maxRecDepth 100000
namespace Mine
variable {c : Cx} {Γ Γ₁ Γ' : Tys} {N N₀ N₁ N' : Led} {Q : Flow → Shared → Prop}
theorem Rm.units {p : Program} {n : Nat} (R : Rm c p n) : c.A.units < cLine := by
  obtain ⟨_, ⟨loose, mean, mg, mb, dp, un, gd, cn, cs, a, ccd, cl, outer, A₀, base, hA, B, X, T, hk, hd, hu⟩, _⟩ := R
  rw [hA]
  show un < cLine
  omega
theorem Rm.nolimit {p : Program} {n : Nat} (R : Rm c p n) : c.g.NoLimit := by
  obtain ⟨_, ⟨loose, mean, mg, mb, dp, un, gd, cn, cs, a, ccd, cl, outer, A₀, base, hA, B, X, T, hk, hd, hu⟩, _⟩ := R
  exact T.nolimit
/-- a dict of one-letter keys and ints -/
def pgS (pg : List (Nat × Int)) : List (Str × Int) := pg.map fun p => (S [p.1], p.2)
def IsPg (prog : Program) (w : World) (o : Obj) (pg : List (Nat × Int)) : Prop := ∃ kvs, o.IsDictOf (strKind prog w) kvs ∧ PyProof.V.FlatPairs PyData.str kvs (kdpD (pgS pg))
theorem S1_inj {a b : Nat} : S [a] = S [b] ↔ a = b := by
  constructor
  · intro h
    have := congrArg (·.cps.toList) h
    simpa [S_def] using this
  · intro h; rw [h]
theorem pg_has (z : Nat) : ∀ pg, kdpHas (pgS pg) (S [z]) = pgHas z pg
  | [] => rfl
  | p :: l => by
    have := pg_has z l
    unfold kdpHas pgS at *
    rw [List.map_cons, List.any_cons, this]
    show (decide (S [p.1] = S [z]) || _) = (Nat.beq p.1 z || _)
    congr 1
    rw [Bool.eq_iff_iff, decide_eq_true_iff, S1_inj, Nat.beq_eq]
theorem pg_look (z : Nat) : ∀ pg, kdpLook (pgS pg) (S [z]) 0 = pgLook z pg
  | [] => rfl
  | p :: l => by
    have := pg_look z l
    unfold kdpLook pgS at *
    rw [List.map_cons, List.find?_cons]
    show Option.getD (Option.map _ (match decide (S [p.1] = S [z]) with | true => _ | false => _)) 0 = cond (Nat.beq p.1 z) _ _
    by_cases h : p.1 = z
    · rw [decide_eq_true (S1_inj.mpr h), Nat.beq_eq.mpr h]; rfl
    · rw [decide_eq_false (fun e => h (S1_inj.mp e)), beq_no h]; exact this
theorem pg_put {z : Nat} {v : Int} {pg : List (Nat × Int)} (h : pgHas z pg = false) : kdpPut (pgS pg) (S [z]) v = pgS (pg ++ [(z, v)]) := by
  have := pg_has z pg
  rw [h] at this
  unfold kdpHas at this
  unfold kdpPut
  rw [if_neg (by rw [this]; exact Bool.false_ne_true)]
  simp [pgS]
theorem EvN.dict0 {p : Program} {n : Nat} (R : Rm c p n) {pos : Pos} : EvN c Γ (.Dict [] [] pos) (fun v own => ∃ D o, v = .ref D ∧ own = [(D, o)] ∧ (D == sysModules) = false ∧ IsPg c.prog c.w o []) := by
  intro N s hs
  have hb := R.nolimit
  obtain ⟨h', tk, gs, m, rfl, hbr, g, F, Nn, H⟩ := hs
  exact newDict_K (s := { c.s₁ with heap := h', toks := tk, gens := gs }) F Nn hb fun D h₂ o F₂ N₂ hD lo a b _ _ => ⟨_, ⟨D, o, rfl, rfl, lo, _, a, b⟩, (fun p hp q hq => by rw [List.mem_singleton.mp hp]; exact hD q hq), h₂, tk, gs, m, rfl, hbr, g, F₂, N₂, H⟩
theorem pg_tab {D : Addr} {o : Obj} {pg : List (Nat × Int)} {h : Heap} {L : Addr} (Nn : News c.g L h N) (hm : (D, o) ∈ N) (lo : (D == sysModules) = false) (hp : IsPg c.prog c.w o pg) : StrTab c.prog c.w h D (kdpD (pgS pg)) := by
  obtain ⟨kvs, h1, h2⟩ := hp
  exact TabAt.ofNews Nn hm lo h1 h2
theorem TrAt.notin {a b : Expr} {p : Pos} {n z : Nat} {D : Addr} {o : Obj} {pg : List (Nat × Int)} (ha : Ev c Γ a (IsL n [z])) (hb : Ev c Γ b (IsV (.ref D))) (hm : (D, o) ∈ N) (lo : (D == sysModules) = false) (hp : IsPg c.prog c.w o pg) (hmk : behindInMarks .NotIn b = false) : TrAt c Γ N (.Compare a [.NotIn] [b] p) (!pgHas z pg) := by
  intro s hs
  refine wpAny_isTrue_Compare1 (wp_then (ha N s hs) ?_) hmk
  rintro v s₁ ⟨⟨⟨t, rfl⟩, _⟩, h₁⟩
  refine wp_then (hb N s₁ h₁) ?_
  rintro v s₂ ⟨rfl, h₂⟩
  have h₃ := h₂.toks (s₂.toks + 1)
  obtain ⟨h', tk, gs, m, rfl, hbr, g, F, Nn, H⟩ := h₂
  refine kdp_notin (s := { c.s₁ with heap := h', toks := tk, gens := gs }) (pg_tab Nn hm lo hp) (wpAny_truthy_bool ⟨by rw [pg_has], h₃⟩)
theorem EvAt.pgItem {x : Str} {px p : Pos} {e : Expr} {n z : Nat} {D : Addr} {o : Obj} {pg : List (Nat × Int)} (hx : Ev c Γ (.Name x px) (IsV (.ref D))) (he : Ev c Γ e (IsL n [z])) (hm : (D, o) ∈ N) (lo : (D == sysModules) = false) (hp : IsPg c.prog c.w o pg) (hh : pgHas z pg = true)
    (hs : ∀ {i u}, subscripted e false (.ref D) (.str i u) = operate [.ref D, .str i u] (getItem (.ref D) (.str i u))) (hg : ∀ r, letTemporaryGo (.Name x px) (.ref D) r = pure ()) : EvAt c Γ N (.Subscript (.Name x px) e p) (IsI (pgLook z pg)) := by
  intro s h
  refine Subscript_ (wp_then (hx N s h) ?_)
  rintro v s₁ ⟨rfl, h₁⟩
  refine wp_then (he N s₁ h₁) ?_
  rintro v s₂ ⟨⟨⟨t', rfl⟩, _⟩, h₂⟩
  have h₃ := h₂.toks (s₂.toks + 1)
  obtain ⟨h', tk, gs, m, rfl, hb, g, F, Nn, H⟩ := h₂
  exact kdp_item (s := { c.s₁ with heap := h', toks := tk, gens := gs }) (pg_tab Nn hm lo hp) (by rw [pg_has]; exact hh) (fun t => ⟨⟨t, by rw [pg_look]⟩, h₃⟩) hs hg
/-- x[e] = v, of a new key -/
theorem Bl.pgSet {x : Str} {px p p2 : Pos} {e v : Expr} {l : List Stmt} {n z : Nat} {D : Addr} {o : Obj} {pg : List (Nat × Int)} {i : Int} (hx : Ev c Γ (.Name x px) (IsV (.ref D))) (he : Ev c Γ e (IsL n [z])) (hv : EvAt c Γ ((D, o) :: N) v (IsI i)) (hap : ∀ p ∈ N, p.1 ≠ D) (hp : IsPg c.prog c.w o pg) (hh : pgHas z pg = false) (hl : pg.length ≤ 1000)
    (hk : ∀ o', IsPg c.prog c.w o' (pg ++ [(z, i)]) → Bl c Γ ((D, o') :: N) l Q) (hs : swapsWith v (some (.Subscript (.Name x px) e p)) p2.line c.env = pure false) : Bl c Γ ((D, o) :: N) (.Assign [.Subscript (.Name x px) e p] v p2 :: l) Q := by
  intro s h
  refine wpAny_execs_cons (wpAny_Assign_Subscript (wp_then (hv s h) ?_) hs)
  rintro u s₁ ⟨⟨t, rfl⟩, h₁⟩
  refine wp_then (hx _ s₁ h₁) ?_
  rintro u s₂ ⟨rfl, h₂⟩
  refine wp_then (he _ s₂ h₂) ?_
  rintro u s₃ ⟨⟨⟨t', rfl⟩, _⟩, h₃⟩
  obtain ⟨h', tk, gs, m, rfl, hb, g, F, Nn, H⟩ := h₃
  obtain ⟨kvs, h1, h2⟩ := hp
  refine kdp_setItem (s := { c.s₁ with heap := h', toks := tk, gens := gs }) F Nn (UpdF.head hap) h1 h2 (by simp [pgS]; omega) fun h₂ o' kvs' F₂ N₂ a b => ?_
  rw [pg_put hh] at b
  exact hk o' ⟨kvs', a, b⟩ _ ⟨h₂, tk + 1, gs, m, rfl, hb, g, F₂, N₂, H⟩
/-- x != [] -/
theorem TrAt.neNil {x : Str} {px p p2 : Pos} {D : Addr} {its : Array Value} {n : Nat} (hx : Ev c Γ (.Name x px) (IsV (.ref D))) (hm : (D, listOf its n) ∈ N) (hu : c.A.units < cLine) (hmk : behindInMarks .NotEq (.List [] p2) = false) : TrAt c Γ N (.Compare (.Name x px) [.NotEq] [.List [] p2] p) (its.size != 0) := by
  intro s hs
  refine wpAny_isTrue_Compare1 (wp_then (hx N s hs) ?_) hmk
  rintro v s₁ ⟨rfl, h₁⟩
  refine wp_then (EvN.list0 N s₁ h₁) ?_
  rintro v s₂ ⟨own, ⟨D2, rfl, rfl⟩, _, h₂⟩
  have h₃ := h₂.led (N' := N) fun q hq => .tail _ hq
  obtain ⟨h', tk, gs, m, rfl, hbr, g, F, Nn, H⟩ := h₂
  have l1 : Heap.IsList h' D its := Nn.isList (.tail _ hm)
  have l2 : Heap.IsList h' D2 #[] := Nn.isList (.head _)
  by_cases h0 : its.size = 0
  · refine cmp_ofNotEq (SeqAt.RcNeAt.lists (s := { c.s₁ with heap := h', toks := tk, gens := gs }) (e := fun _ => true) l1 l2 h0 hu (fun j hj _ => absurd hj (by omega)) _ _ _ _ (wpAny_truthy_bool ⟨?_, h₃⟩))
    simp [h0]
  · refine cmp_ofNotEq (SeqAt.RcNeAt.lists_lengths (s := { c.s₁ with heap := h', toks := tk, gens := gs }) l1 l2 (by simpa using h0) hu _ _ _ _ (wpAny_truthy_bool ⟨?_, h₃⟩))
    simp [h0]
theorem TrAt.and2 {a b : Expr} {p : Pos} {r r' : Bool} (ha : Tr c Γ a r) (hb : r = true → TrAt c Γ N b r') : TrAt c Γ N (.BoolOp .And [a, b] p) (r && r') := fun s hs =>
  isTrue_and (wp_then (ha N s hs) fun v s₁ h₁ => by
    rw [h₁.1]
    cases r with
    | true => exact isTrue_and (wp_then (hb rfl s₁ h₁.2) fun v' s₂ h₂ => by
        rw [h₂.1]
        cases r' with
        | true => exact isTrue_and_nil ⟨rfl, h₂.2⟩
        | false => exact ⟨rfl, h₂.2⟩)
    | false => exact ⟨rfl, h₁.2⟩)
theorem TrAt.eq {e : Expr} {r r' : Bool} (h : TrAt c Γ N e r) (he : r = r') : TrAt c Γ N e r' := he ▸ h
end Mine

end
section
open PySem PySem.W PySem.Calls PyProof.Rows
set_option linter.unusedVariables false
set_option maxRecDepth 100000
namespace Mine
variable {c : Cx} {Γ Γ₁ Γ' : Tys} {N N₀ N₁ N' : Led} {Q : Flow → Shared → Prop}
/-- the rest of a block, after a body -/
def Nx (c : Cx) (l : List Stmt) (Q : Flow → Shared → Prop) : Flow → Shared → Prop := fun f s => f = .next ∧ wpAny (model c.prog c.w) c.A (execs l c.env) Q noE s
theorem Bl.nx {l : List Stmt} (h : Bl c Γ N l Q) : Bl c Γ N [] (Nx c l Q) := Bl.nil fun s st => ⟨rfl, h s st⟩
theorem Bl.ifT {t : Expr} {body orelse l : List Stmt} {p : Pos} (ht : TrAt c Γ N t true) (h : Bl c Γ N body (Nx c l Q)) : Bl c Γ N (.If t body orelse p :: l) Q := fun s hs =>
  wpAny_execs_cons (wpAny_If (wp_then (ht s hs) fun b s₁ h₁ => by
    rw [h₁.1]
    exact wp_then (h s₁ h₁.2) fun f s₂ ⟨e, r⟩ => by subst e; exact r))
theorem Bl.ifE {t : Expr} {body orelse l : List Stmt} {p : Pos} (ht : TrAt c Γ N t false) (h : Bl c Γ N orelse (Nx c l Q)) : Bl c Γ N (.If t body orelse p :: l) Q := fun s hs =>
  wpAny_execs_cons (wpAny_If (wp_then (ht s hs) fun b s₁ h₁ => by
    rw [h₁.1]
    exact wp_then (h s₁ h₁.2) fun f s₂ ⟨e, r⟩ => by subst e; exact r))
theorem Bl.ifF {t : Expr} {body l : List Stmt} {p : Pos} (ht : TrAt c Γ N t false) (h : Bl c Γ N l Q) : Bl c Γ N (.If t body [] p :: l) Q := Bl.ifE ht (Bl.nx h)
/-- while, with a ledger that changes -/
theorem Bl.whileL {α : Type} {t : Expr} {body l : List Stmt} {p : Pos} (Γf : α → Tys) (Nf : α → Led) (ms : α → Nat) (bt : α → Bool) (Inv : α → Prop) {a₀ : α} (hkp : c.keep = true) (h0 : Inv a₀) (ht : ∀ a, Inv a → TrAt c (Γf a) (Nf a) t (bt a))
    (hb : ∀ a, Inv a → bt a = true → Bl c (Γf a) (Nf a) body (fun f s' => f = .next ∧ ∃ a', Inv a' ∧ ms a' < ms a ∧ St c (Γf a') (Nf a') s')) (hk : ∀ a, Inv a → bt a = false → Bl c (Γf a) (Nf a) l Q) : Bl c (Γf a₀) (Nf a₀) (.While t body [] p :: l) Q := by
  intro s hs
  obtain ⟨h', tk, gs, m, rfl, hbr, g, F, Nn, H⟩ := hs
  refine wpAny_execs_cons (While_out (h₀ := c.g) (n₀ := ms a₀) (s := { c.s₁ with heap := h', toks := tk, gens := gs }) (fun n m nx => ∃ a, nx = Nf a ∧ ms a = n ∧ Inv a ∧ Has m (Γf a)) (fun m nx => ∃ a, nx = Nf a ∧ Inv a ∧ bt a = false ∧ Has m (Γf a)) F Nn ⟨a₀, rfl, rfl, h0, H⟩ ?_ ?_ PassesOwn.never)
  · rintro n m₁ nx₁ h₁ tk₁ F₁ N₁ ⟨a, rfl, rfl, hI, H₁⟩
    refine wp_then (ht a hI _ ⟨h₁, tk₁, gs, m₁, rfl, hbr, g, F₁, N₁, H₁⟩) ?_
    rintro b s₂ ⟨rfl, h₂⟩
    cases hbt : bt a with
    | true =>
      rw [if_pos rfl]
      refine wp_then (hb a hI hbt _ h₂) ?_
      rintro f s₃ ⟨rfl, a', hI', hms, h'', tk'', gs'', m'', rfl, hb'', g'', F'', N'', H''⟩
      obtain rfl : gs'' = gs := (g'' hkp).trans (g hkp).symm
      exact ⟨rfl, h'', tk'', m'', _, _, rfl, F'', N'', hms, a', rfl, rfl, hI', H''⟩
    | false =>
      rw [if_neg (by simp)]
      obtain ⟨h'', tk'', gs'', m'', rfl, hb'', g'', F'', N'', H''⟩ := h₂
      obtain rfl : gs'' = gs := (g'' hkp).trans (g hkp).symm
      exact ⟨h'', tk'', m'', _, rfl, F'', N'', a, rfl, hI, hbt, H''⟩
  · rintro m₁ nx₁ h₁ tk₁ ⟨a, rfl, hI, hbt, H₁⟩ F₁ N₁
    exact hk a hI hbt _ ⟨h₁, tk₁, gs, m₁, rfl, hbr, g, F₁, N₁, H₁⟩
/-- x[1:] of a list of texts -/
theorem EvNAt.tail {x : Str} {px p p2 p3 : Pos} {k : Nat} {D : Addr} {q : Str × Tok} {ls : List (Str × Tok)} {n : Nat} (hx : Ev c Γ (.Name x px) (IsV (.ref D))) (hm : (D, lsT (q :: ls) n) ∈ N) (hl : ls.length ≤ 1000)
    (hs : ∀ {r}, subscripted (.Slice (some (.Constant (.int 1) k p2)) none none p3) false (.ref D) (.ref r) = operate [.ref r, .ref D] (getItem (.ref D) (.ref r))) (hg : ∀ r, letTemporaryGo (.Name x px) (.ref D) r = pure ()) :
    EvNAt c Γ N (.Subscript (.Name x px) (.Slice (some (.Constant (.int 1) k p2)) none none p3) p) (fun v own => ∃ D', v = .ref D' ∧ own = [(D', lsT ls 0)]) := by
  intro s h
  refine Subscript_ (wp_then (hx N s h) ?_)
  rintro v s₁ ⟨rfl, h₁⟩
  refine wpAny_Slice (evalPart_some_step (wp_then (Ev.int (c := c) (Γ := Γ) (i := 1) N s₁ h₁) ?_))
  rintro v s₂ ⟨⟨t, rfl⟩, h₂⟩
  refine evalPart_none_step (evalPart_none_step ?_)
  obtain ⟨h', tk, gs, m, rfl, hb, g, F, Nn, H⟩ := h₂
  have hsz : (strValues (q :: ls)).toArray.size = ls.length + 1 := by simp [strValues]
  refine kmk_slice_lit (s := { c.s₁ with heap := h', toks := tk, gens := gs }) F Nn (Nn.isList hm) (.int _ _) .none (zs := strValues ls) ?_ (fun D' h₂ F₂ N₂ hD => ⟨_, ⟨D', rfl, rfl⟩, (fun p hp q hq => by rw [List.mem_singleton.mp hp]; exact hD q hq), h₂, tk, gs, m, rfl, hb, g, F₂, N₂, H⟩) hs hg (by rw [hsz, sizeLine_eq]; omega)
  have := slicePick_from (strValues (q :: ls)).toArray 1 (by rw [hsz]; omega)
  rw [show ((1 : Int)) = ((1 : Nat) : Int) from rfl, this]
  simp [strValues]
/-- x + [e], a list of texts -/
theorem EvNAt.snoc {x : Str} {px p p2 : Pos} {e : Expr} {D : Addr} {z : Str} {ls : List (Str × Tok)} {n : Nat} (hx : Ev c Γ (.Name x px) (IsV (.ref D))) (he : Ev c Γ e (IsX z)) (hm : (D, lsT ls n) ∈ N) (hl : ls.length ≤ 1000) (h1 : starEach [e] c.env = (false, eval e c.env) :: starEach [] c.env) :
    EvNAt c Γ N (.BinOp (.Name x px) .Add (.List [e] p2) p) (fun v own => ∃ D' t, v = .ref D' ∧ own = [(D', lsT (ls ++ [(z, t)]) 0)]) := by
  intro s h
  refine wpAny_BinOp (wp_then (hx N s h) ?_)
  rintro v s₁ ⟨rfl, h₁⟩
  refine wp_then (EvN.list1 he h1 N s₁ h₁) ?_
  rintro v s₂ ⟨own, ⟨D2, u, rfl, rfl, t, rfl⟩, hl2, h₂⟩
  obtain ⟨h', tk, gs, m, rfl, hb, g, F, Nn, H⟩ := h₂
  refine kmk_add_lit (s := { c.s₁ with heap := h', toks := tk, gens := gs }) F Nn (Nn.isList (.tail _ hm)) (Nn.isList (.head _)) (zs := strValues (ls ++ [(z, t)])) (by simp [strValues]) (fun D' h₂ F₂ N₂ hD => ⟨[(D', lsT (ls ++ [(z, t)]) 0)], ⟨D', t, rfl, rfl⟩, (fun p hp q hq => by rw [List.mem_singleton.mp hp]; exact hD q (.tail _ hq)), h₂, tk, gs, m, rfl, hb, g, F₂, (fun q hq => N₂ q (by rcases List.mem_cons.mp hq with rfl | hq; exact .head _; exact .tail _ (.tail _ hq))), H⟩) (by simp [strValues]; rw [sizeLine_eq]; omega)
theorem count_S (z : Nat) (l : List Nat) : Txt.count (S l) (S [z]) = (cnt z l : Int) := by
  rw [show S [z] = ⟨#[z]⟩ by rw [S_def], count_cnt]
  simp only [S_def]
  induction l with
  | nil => rfl
  | cons d l ih =>
    rw [cnt_cons, ih]
    show _ = ((cond (Nat.beq d z) (cnt z l + 1) (cnt z l) : Nat) : Int)
    by_cases h : d = z
    · rw [if_pos h, Nat.beq_eq.mpr h]; show (1 : Int) + _ = ((cnt z l + 1 : Nat) : Int); omega
    · rw [if_neg h, beq_no h]; show (0 : Int) + _ = ((cnt z l : Nat) : Int); omega
theorem Ev.count {a b : Expr} {p p2 : Pos} {n m z : Nat} {l : List Nat} {pl : Sem Bool} (ha : Ev c Γ a (IsL n l)) (hb : Ev c Γ b (IsL m [z])) (h1 : starEach [b] c.env = (false, eval b c.env) :: starEach [] c.env)
    (he : eval (.Call (.Attribute a "count" p) [b] [] p2) c.env = (do
      let ov ← eval a c.env
      standAt p.atName
      let (f, first) ← holding [ov] (getMethod ov "count" pl)
      callWith p2 f first (backTo p2 (starEach [b] c.env)) [])) : Ev c Γ (.Call (.Attribute a "count" p) [b] [] p2) (IsI (cnt z l : Int)) := by
  intro N s hs
  refine MethodCall_ (pl := pl) (wp_then (ha N s hs) ?_) he
  rintro v s₁ ⟨⟨⟨t, rfl⟩, _⟩, h₁⟩
  refine GM.count (callWith_method1 (wp_then (EvA.cons hb EvA.nil h1 p2 N s₁ h₁) ?_) h1 rfl)
  rintro vs s₂ ⟨hv, h₂⟩
  obtain ⟨v1, rfl⟩ := lenP1 hv
  obtain ⟨⟨⟨t', rfl⟩, _⟩, _⟩ := hv
  exact SC.count ⟨⟨_, by rw [count_S]⟩, h₂.toks _⟩
theorem pre_first (z : Nat) : ∀ (l : List Nat), z ∈ l → l[(preW z l).length]? = some z ∧ ∀ k, k < (preW z l).length → l[k]? ≠ some z
  | [], h => nomatch h
  | d :: l, h => by
    by_cases e : d = z
    · rw [preW_same e]; exact ⟨by rw [e]; rfl, fun k hk => absurd hk (Nat.not_lt_zero k)⟩
    · rw [preW_ne e]
      have h2 : z ∈ l := by rcases List.mem_cons.mp h with q | q; exact absurd q.symm e; exact q
      obtain ⟨h3, h4⟩ := pre_first z l h2
      refine ⟨by simpa using h3, fun k hk => ?_⟩
      cases k with
      | zero => simpa using e
      | succ k => simpa using h4 k (by simpa using hk)
theorem occ_S {z : Nat} {l : List Nat} (h : z ∈ l) : ∃ r, PySem.Builtin.Str.occurrences (S l) (S [z]) 0 (S l).length 1 = (preW z l).length :: r := by
  obtain ⟨p1, p2⟩ := pre_first z l h
  have hat : ∀ k, StrLaws.At (S l) (S [z]) (S l).length k ↔ l[k]? = some z := fun k => by
    rw [show S [z] = ⟨#[z]⟩ by rw [S_def]]
    exact (StrLaws.subAt_one (S l) z k).trans (by simp [S_def])
  rcases StrLaws.occ_head (S l) (S [z]) 1 (Nat.le_refl 1) with ⟨_, h2⟩ | ⟨i, r, h1, h2, h3⟩
  · exact absurd ((hat _).mpr p1) (h2 _)
  · have e : i = (preW z l).length := by
      rcases Nat.lt_trichotomy i (preW z l).length with q | q | q
      · exact absurd ((hat i).mp h2) (p2 i q)
      · exact q
      · exact absurd ((hat _).mpr p1) (h3 _ q)
    exact ⟨r, by rw [h1, e]⟩
theorem Ev.index {a b : Expr} {p p2 : Pos} {n m z : Nat} {l : List Nat} {pl : Sem Bool} (ha : Ev c Γ a (IsL n l)) (hb : Ev c Γ b (IsL m [z])) (hz : z ∈ l) (h1 : starEach [b] c.env = (false, eval b c.env) :: starEach [] c.env)
    (he : eval (.Call (.Attribute a "index" p) [b] [] p2) c.env = (do
      let ov ← eval a c.env
      standAt p.atName
      let (f, first) ← holding [ov] (getMethod ov "index" pl)
      callWith p2 f first (backTo p2 (starEach [b] c.env)) [])) : Ev c Γ (.Call (.Attribute a "index" p) [b] [] p2) (IsI ((preW z l).length : Int)) := by
  intro N s hs
  refine MethodCall_ (pl := pl) (wp_then (ha N s hs) ?_) he
  rintro v s₁ ⟨⟨⟨t, rfl⟩, _⟩, h₁⟩
  refine GM.index (callWith_method1 (wp_then (EvA.cons hb EvA.nil h1 p2 N s₁ h₁) ?_) h1 rfl)
  rintro vs s₂ ⟨hv, h₂⟩
  obtain ⟨v1, rfl⟩ := lenP1 hv
  obtain ⟨⟨⟨t', rfl⟩, _⟩, _⟩ := hv
  · skip
    obtain ⟨r, hr⟩ := occ_S hz
    exact SC.index hr ⟨⟨_, rfl⟩, h₂.toks _⟩
end Mine

end
section
open PySem PySem.W PySem.Calls PyProof.Rows
set_option linter.unusedVariables false
set_option maxRecDepth 100000
namespace Mine
variable {c : Cx} {Γ Γ₁ Γ' : Tys} {N N₀ N₁ N' : Led} {Q : Flow → Shared → Prop}
/-- two names at once, from a written pair of new objects -/
theorem Bl.swap2N {x y : Str} {p1 p2 p3 p4 p5 : Pos} {k k2 : Nat} {a b : Expr} {l : List Stmt} {R R' : Value → Led → Prop} (ha : EvN c Γ a R) (hb : EvN c Γ b R') (hh : c.A.handled = none)
    (hk : ∀ v v' own own', R v own → R' v' own' → (∀ p ∈ own, ∀ q ∈ N, q.1 < p.1) → (∀ p ∈ own', ∀ q ∈ own ++ N, q.1 < p.1) → Bl c ((x, IsV v) :: (y, IsV v') :: Γ') (own' ++ (own ++ N)) l Q)
    (hsub : ∀ q ∈ Γ', q ∈ Γ) (hf : fresh y Γ' = true) (hf2 : ∀ v, fresh x ((y, IsV v) :: Γ') = true)
    (hx : c.env.kindOf x = some .local) (hy : c.env.kindOf y = some .local) (hp : (c.env.scope.kind == .class || (c.env.scope.kind == .module && c.env.locals != c.env.globals)) = false)
    (h1 : starEach [a, b] c.env = (false, eval a c.env) :: starEach [b] c.env) (h2 : starEach [b] c.env = (false, eval b c.env) :: starEach [] c.env)
    (hs : swapsWithSole [.Tuple [.Name x p1, .Name y p2] k p3] (.Tuple [a, b] k2 p5) p4.line c.env = pure false) (hw : swappedStores [.Tuple [.Name x p1, .Name y p2] k p3] (.Tuple [a, b] k2 p5) c.env = pure (some [x, y])) :
    Bl c Γ N (.Assign [.Tuple [.Name x p1, .Name y p2] k p3] (.Tuple [a, b] k2 p5) p4 :: l) Q := by
  intro s h
  refine wpAny_execs_cons (Assign_Tuple_swapped (names := [x, y]) (Tuple_ ?_) hs hw)
  rw [h1]
  refine Calls.spliced_cons (wp_then (ha N s h) ?_)
  rintro v s₁ ⟨own, hv, hl, h₁⟩
  rw [h2]
  refine Calls.spliced_cons (wp_then (hb (own ++ N) s₁ h₁) ?_)
  rintro v' s₂ ⟨own', hv', hl', h₂⟩
  refine Calls.spliced_nil ?_
  obtain ⟨h', tk, gs, m, rfl, hbr, g, F, Nn, H⟩ := h₂
  refine kup_newTuple F Nn (fun D h₂ F₂ N₂ _ => ?_) (by rw [sizeLine_eq]; simp)
  refine unpackItemsN_ F₂ N₂ (News.isTup N₂ (.head _)) hh rfl fun h₃ F₃ N₃ => ?_
  have st : St c Γ (own' ++ (own ++ N)) { c.s₁ with heap := h₃, toks := tk, gens := gs } := ⟨h₃, tk, gs, m, rfl, hbr, g, F₃, fun q hq => N₃ q (List.mem_cons_of_mem _ hq), H⟩
  refine assignInOrder_cons (bindName_ (wp_then ((st.weak hsub).set (P := IsV v') rfl hf hy hp) fun _ s₂ h₂ => ?_))
  exact assignInOrder_cons (bindName_ (wp_then (h₂.set (P := IsV v) rfl (hf2 _) hx hp) fun _ s₃ h₃ => assignInOrder_nil (hk v v' own own' hv hv' hl hl' s₃ h₃)))
theorem Bl.retOwn {e : Expr} {p : Pos} {l : List Stmt} {own : Led} {P : Value → Led → Prop} {R : Value → Prop} (he : Ev c Γ e R) (hP : ∀ v, R v → P v own) (hl : ∀ p ∈ own, ∀ q ∈ N₀, q.1 < p.1) (hs : ∀ q ∈ own ++ N₀, q ∈ N) : Bl c Γ N (.Return (some e) p :: l) (RetP c N₀ P) := fun s h =>
  wpAny_execs_cons (wpAny_Return_some (wp_then (he N s h) fun v s₁ h₁ => ⟨v, own, rfl, hP v h₁.1, hl, (h₁.2.weak (Γ' := []) fun _ q => nomatch q).led hs⟩))
/-- for x in e, a text; the ledger may change -/
theorem Bl.forStrA {α : Type} {x : Str} {p1 p4 : Pos} {e : Expr} {body l : List Stmt} {ls : List Nat} {n : Nat} (Γf : Nat → α → Tys) (Nf : Nat → α → Led) (Inv : Nat → α → Prop) {a₀ : α} (hkp : c.keep = true) (hh : c.A.handled = none)
    (he : Ev c (Γf 0 a₀) e (IsL n ls)) (h0 : Inv 0 a₀) (hf : ∀ i a, fresh x (Γf i a) = true) (hdis : ∀ i a, Inv i a → ∀ q ∈ Nf i a, ∀ r ∈ N, r.1 ≠ q.1)
    (turn : ∀ i a z, ls[i]? = some z → Inv i a → ∀ N', (∀ q ∈ N, q ∈ N') → (∀ q ∈ Nf i a, ∀ r ∈ N', r.1 ≠ q.1) → Bl c ((x, IsL 1 [z]) :: Γf i a) (Nf i a ++ N') body (TurnP Q fun s' => ∃ a', Inv (i + 1) a' ∧ (∀ q ∈ Nf (i + 1) a', q.1 ∈ (Nf i a).map (·.1) ∨ ∀ r ∈ N', r.1 < q.1) ∧ St c (Γf (i + 1) a') (Nf (i + 1) a' ++ N') s'))
    (done : ∀ a, Inv ls.length a → Bl c (Γf ls.length a) (Nf ls.length a ++ N) l Q) (hx : c.env.kindOf x = some .local) (hp : (c.env.scope.kind == .class || (c.env.scope.kind == .module && c.env.locals != c.env.globals)) = false)
    (hs : ∀ v, foldedSetIterable e c.env v = pure v) : Bl c (Γf 0 a₀) (Nf 0 a₀ ++ N) (.For (.Name x p1) e body [] p4 :: l) Q := by
  intro s hs0
  obtain ⟨m0, F0⟩ := hs0.fr
  refine wpAny_execs_cons (For_invVF (h₀ := c.g) F0 hx hp ?_ hs PassesOwn.never)
  refine wp_then (he _ s hs0) ?_
  rintro v s₁ ⟨⟨⟨t, rfl⟩, _⟩, h₁⟩
  obtain ⟨h', tk, gs, m₁, rfl, hbr, g, F, Nn, H⟩ := h₁
  refine iter_text (s := { c.s₁ with heap := h', toks := tk, gens := gs }) (fun i m nx => ∃ a, Inv i a ∧ nx = Nf i a ++ N ∧ Has m (Γf i a)) hh F Nn ⟨a₀, h0, rfl, H⟩ ?_ ?_
  · rintro i z u m₃ nx h₃ tk₃ own I hz hI hown hno ⟨a, hIa, rfl, H₃⟩ F₃ N₃
    replace hz : ls[i]? = some z := by simpa [S] using hz
    have st : St c ((x, IsL 1 [z]) :: Γf i a) (Nf i a ++ (N ++ own)) { c.s₁ with heap := h₃, toks := tk₃, gens := gs } := ⟨h₃, tk₃, gs, _, rfl, hbr, g, F₃, by rw [← List.append_assoc]; exact N₃, fun r hr => by
      rcases List.mem_cons.mp hr with rfl | hr
      · exact ⟨.str ⟨#[z]⟩ u, by simp, ⟨u, by rw [S_def]⟩, Nat.le_refl 1⟩
      · obtain ⟨u, hu, hPu⟩ := H₃ r hr
        exact ⟨u, by simp only [if_neg (fresh_ne (hf i a) r hr)]; exact hu, hPu⟩⟩
    refine wp_then (turn i a z hz hIa (N ++ own) (fun q hq => List.mem_append_left _ hq) (fun q hq r hr => (List.mem_append.mp hr).elim (fun h => hdis i a hIa q hq r h) fun h => by rw [hown r h]; exact fun e => hno q (List.mem_append_left _ hq) e.symm) _ st) ?_
    rintro f s₄ hT
    rcases turnCases hT with ⟨v, rfl, hT⟩ | ⟨rfl, a', hIa', hadr, h₄, tk₄, gs₄, m₄, e₄, hb₄, g₄, F₄, N₄, H₄⟩
    · exact hT
    · skip
      obtain rfl : gs₄ = gs := (g₄ hkp).trans (g hkp).symm
      refine ⟨h₄, tk₄, m₄, _, Nf (i + 1) a' ++ N, e₄, F₄, N₄, fun q hq => ?_, fun q hq => ?_, fun q hq => ?_, a', hIa', rfl, H₄⟩
      · rw [← List.append_assoc]; exact List.mem_append_left _ hq
      · exact List.mem_append_right _ (List.mem_append_right _ hq)
      · rcases List.mem_append.mp hq with hq | hq
        · rcases hadr q hq with h5 | h5
          · obtain ⟨q', hq', e⟩ := List.mem_map.mp h5
            rw [← e]; exact hno q' (List.mem_append_left _ hq')
          · obtain ⟨o, ho⟩ := hI
            exact Nat.ne_of_gt (h5 _ (List.mem_append_right _ ho))
        · exact hno q (List.mem_append_right _ hq)
  · rintro m₃ nx h₃ tk₃ ⟨a, hIa, rfl, H₃⟩ F₃ N₃
    rw [show (S ls).cps.size = ls.length by simp [S]] at hIa H₃ N₃
    exact done a hIa _ ⟨h₃, tk₃, gs, m₃, rfl, hbr, g, F₃, N₃, H₃⟩
/-- one statement, then the rest -/
theorem Bl.seqX {α : Type} {st : Stmt} {l : List Stmt} (Γf : α → Tys) (Nf : α → Led) (Inv : α → Prop) (h : Bl c Γ N [st] (fun f s => f = .next ∧ ∃ a, Inv a ∧ St c (Γf a) (Nf a) s)) (hk : ∀ a, Inv a → Bl c (Γf a) (Nf a) l Q) : Bl c Γ N (st :: l) Q := by
  intro s hs
  exact cutN (l := st :: l) 1 (fun s' => ∃ a, Inv a ∧ St c (Γf a) (Nf a) s') (wp_then (h s hs) fun f s' r => r) fun s' r => let ⟨a, hI, st'⟩ := r; hk a hI s' st'
theorem Tr.bool {e : Expr} {r : Bool} (h : Ev c Γ e (IsB r)) (he : isTrue e c.env (eval e c.env) = (do let v ← eval e c.env; standAt e.pos; holding [v] (truthy v))) : Tr c Γ e r := fun N s hs =>
  isTrue_plain (wp_then (h N s hs) fun v s₁ h₁ => by
    rw [show v = .bool r from h₁.1]
    exact wpAny_truthy_bool ⟨rfl, h₁.2⟩) he
end Mine

end
section
open PySem PySem.W PySem.Calls PyProof.Rows
set_option linter.unusedVariables false
set_option maxRecDepth 100000
set_option maxHeartbeats 6000000
namespace Mine
theorem turn1_eq (c : Nat) (l : List Nat) : ((((preW c l ++ [c]) ++ (midW c l).reverse) ++ [c]) ++ posW c l) = turn1 l c := by
  unfold turn1
  simp only [List.append_assoc, List.cons_append, List.nil_append]
theorem turned_fn (w : World) (x o : List Nat) (t u : Tok) (hx : ∀ c ∈ o, x.count c = 2) (hl : x.length ≤ 10) (ho : o.length ≤ 5) :
   Fn PySem.Challenge.rw_rw0063_01.row.prog w (Mine.hd.heap_39 w.params) Mine.hd.view_39 70 1 [.str (S x) t, .str (S o) u] (isS (S (turnL x o))) := by
  k_fill
  refine' Fn.of_rt (n := 0) ?ho ?hcd ?hbd ?hlc [("word", IsL 10 x), ("order", IsL 5 o)] ?hΓ ?g1 ?g2 ?g3 ?g4 ?hr
  case ho => k_is
  case hcd => k_is
  case hbd => exact fun _ => BindsTo.of_eq rfl
  case hlc => exact locs rfl
  case g1 => exact rfl
  case g2 => exact rfl
  case g3 => exact rfl
  case g4 => decide
  case hΓ => simp only [Has, List.forall_mem_cons]; exact ⟨⟨_, rfl, ⟨t, rfl⟩, hl⟩, ⟨_, rfl, ⟨u, rfl⟩, ho⟩, fun _ h => nomatch h⟩
  case hr =>
  intro A L' g s R N
  refine letR R ?_
  intro c R
  have hh : c.A.handled = none := R.1
  refine Rt.of ?_
  refine' Bl.forStrA (n := 5) (ls := o) (N := N) (a₀ := ()) (fun i _ => [("word", IsL 10 (turnL x (o.take i))), ("order", IsL 5 o)]) (fun i z => []) (fun i z => True) rfl hh ?e1 trivial (fun _ _ => rfl) (fun _ _ _ _ h => nomatch h) ?turn ?done rfl rfl (fun _ => rfl)
  case e1 => walk_at "ev"
  case done =>
    intro _ _
    rw [List.take_length]
    refine' Bl.ret ?e2 ?e3 sub_led
    case e2 => walk_at "ev"
    case e3 => rintro v ⟨⟨t, rfl⟩, _⟩; exact ⟨⟨t, rfl⟩, rfl⟩
  case turn =>
    intro j _ d hj _ N' hN' _
    have hst : turnL x (o.take (j + 1)) = turn1 (turnL x (o.take j)) d := by unfold turnL; rw [List.take_add_one, hj, List.foldl_append]; rfl
    have hp := turns_perm (o.take j) x (fun d hd => hx d (List.mem_of_mem_take hd))
    have hc : (turnL x (o.take j)).count d = 2 := by rw [hp.count_eq]; exact hx d (List.mem_of_getElem? hj)
    have hlen : (turnL x (o.take j)).length ≤ 10 := by rw [hp.length_eq]; exact hl
    rw [hst]
    generalize turnL x (o.take j) = y at *
    have hm := mid_len hc
    refine' Bl.cons (Ex.unpack3 (P := IsL 10 (preW d y)) (P' := IsL 10 (midW d y)) (P'' := IsL 10 (posW d y)) (EvN.splitW (n := 10) (m := 1) ?f1 ?f2 hc rfl rfl rfl) ?f3 hh (Γ' := [("x", IsL 1 [d]), ("order", IsL 5 o)]) ?f4 rfl rfl rfl rfl rfl rfl rfl rfl rfl) ?n1
    case f1 => walk_at "ev"
    case f2 => walk_at "ev"
    case f3 =>
      rintro v own ⟨D, t0, t1, t2, rfl, rfl, _⟩
      exact ⟨D, _, _, _, 0, rfl, .head _, ⟨⟨_, rfl⟩, by omega⟩, ⟨⟨_, rfl⟩, by omega⟩, ⟨⟨_, rfl⟩, by omega⟩⟩
    case f4 => walk_at "sub"
    refine' Bl.cons (Ex.assign (Ev.add (n := 10 + 1 + 10 + 1) (m := 10) (Ev.add (n := 10 + 1 + 10) (m := 1) (Ev.add (n := 10 + 1) (m := 10) ?f5 (Ev.rev (n := 10) ?f6 (Ev.neg Ev.int) rfl rfl (fun _ => rfl)) rfl) ?f7 rfl) ?f8 rfl) (Γ' := [("order", IsL 5 o)]) ?f9 rfl rfl rfl rfl) ?n2
    case f5 => walk_at "ev"
    case f6 => walk_at "ev"
    case f7 => walk_at "ev"
    case f8 => walk_at "ev"
    case f9 => walk_at "sub"
    refine' Bl.nil fun s' st => ⟨(), trivial, (fun q hq => nomatch hq), ?f10⟩
    case f10 =>
      refine st.mono2 ?_
      rintro q hq
      rcases List.mem_cons.mp hq with rfl | hq
      · exact ⟨_, .head _, fun v h => ⟨turn1_eq d y ▸ h.1, by rw [(turn_perm hc).length_eq]; exact hlen⟩⟩
      · exact ⟨_, .tail _ hq, fun v h => h⟩
end Mine

end
section
open PySem PySem.W PySem.Calls PyProof.Rows
set_option linter.unusedVariables false
set_option maxRecDepth 100000
set_option maxHeartbeats 6000000
namespace Mine
theorem litAbc : Str.ofString "abcde" = S abc := by rw [S_def]; decide
theorem litNil : Str.ofString "" = S [] := by rw [S_def]; rfl
local macro_rules | `(tactic| walk_at "ev_lit") => `(tactic| first | exact litAbc | exact litNil)
abbrev isW : Value → List (Addr × Obj) → Prop := fun v own => ∃ (T : Addr) (t1 t2 : Tok) (r o : List Nat), v = .ref T ∧ own = [(T, tupOf [.str (S (inter abc r)) t1, .str (S o) t2])] ∧ r.Perm abc ∧ o.Perm abc
theorem word_fn (w : World) (l : Addr) (vs : List Value) (ns : List Int) (hi : IntsAre vs ns) (hns : ns.length ≤ 1000) :
   FnH PySem.Challenge.rw_rw0063_01.row.prog w (Mine.hd.heap_39 w.params) Mine.hd.view_39 63 1 (fun h _ => h.IsList l vs.toArray) [.ref l] isW := by
  k_fill
  refine' FnH.of_rt (n := 0) (fun h g N hk hh => hh.at fun o e => hk _ o e) ?ho ?hcd ?hbd ?hlc [("script", IsV (.ref l))] ?hΓ ?g1 ?g2 ?g3 ?g4 ?hr
  case ho => k_is
  case hcd => k_is
  case hbd => exact fun _ => BindsTo.of_eq rfl
  case hlc => exact locs rfl
  case g1 => exact rfl
  case g2 => exact rfl
  case g3 => exact rfl
  case g4 => decide
  case hΓ => simp only [Has, List.forall_mem_cons]; exact ⟨⟨_, rfl, rfl⟩, fun _ h => nomatch h⟩
  case hr =>
  intro A L' g s R N
  refine letR' R ?_
  intro c R hlg
  have Grange : Gl c "range" (.type "range") := R.bi boot_range rfl (by decide) rfl rfl
  have Gsum : Gl c "sum" (.builtin "sum") := R.bi boot_sum rfl (by decide) rfl rfl
  have Glen : Gl c "len" (.builtin "len") := R.bi boot_len rfl (by decide) rfl rfl
  have hh : c.A.handled = none := R.1
  refine Rt.of ?_
  refine' Bl.cons (Ex.unpack2 (P := IsL 10 (inter abc [])) (P' := IsL 5 []) (EvN.tup2 (EvA.cons (Ev.lit (n := 0) litNil rfl) (EvA.cons (Ev.lit (n := 0) litNil rfl) EvA.nil rfl) rfl)) ?hR1 hh sub_refl rfl rfl rfl rfl rfl rfl rfl) ?n1
  case hR1 =>
    rintro v own ⟨T, u, u', rfl, rfl, h1, h2⟩
    exact ⟨T, u, u', rfl, .head _, h1.mono rfl (by decide), h2.mono rfl (by decide)⟩
  refine' Bl.cons (Ex.unpack2 (P := IsL 5 abc) (P' := IsL 5 abc) (EvN.tup2 (EvA.cons (Ev.lit (n := 5) litAbc rfl) (EvA.cons (Ev.lit (n := 5) litAbc rfl) EvA.nil rfl) rfl)) ?hR2 hh sub_refl rfl rfl rfl rfl rfl rfl rfl) ?n2
  case hR2 =>
    rintro v own ⟨T, u, u', rfl, rfl, h1, h2⟩
    exact ⟨T, u, u', rfl, .head _, h1, h2⟩
  refine' Bl.forRange (n := 5) (m := 5) (N := N) (a₀ := (([], abc, [], abc) : List Nat × List Nat × List Nat × List Nat)) (fun k z => [("wait", IsL 5 z.2.2.2), ("rest", IsL 5 z.2.1), ("order", IsL 5 z.2.2.1), ("word", IsL 10 (inter abc z.1)), ("script", IsV (.ref l))]) (fun _ _ => [])
    (fun k z => z.1.length = k ∧ z.2.2.1.length = k ∧ (z.1 ++ z.2.1).Perm abc ∧ (z.2.2.1 ++ z.2.2.2).Perm abc) rfl hh Grange (Ev.kstn (k := 5) 5 rfl rfl) rfl ?h0 ?hadr ?hfr ?hdis ?turn ?done rfl rfl rfl rfl (fun _ => rfl)
  case h0 => exact ⟨rfl, rfl, List.Perm.refl _, List.Perm.refl _⟩
  case hadr => intro _ _ _ _ _; rfl
  case hfr => intro _ _; rfl
  case hdis => exact fun _ _ _ _ h => nomatch h
  case done =>
    rintro ⟨r, rest, o, wt⟩ ⟨hr, ho, pr, po⟩
    dsimp only at hr ho pr po ⊢
    have e1 : rest = [] := List.eq_nil_of_length_eq_zero (by have := perm_two pr; omega)
    have e2 : wt = [] := List.eq_nil_of_length_eq_zero (by have := perm_two po; omega)
    subst e1 e2
    rw [List.append_nil] at pr po
    refine' Rt.mono (Rt.retN (EvN.tup2 (EvA.cons ?e3 (EvA.cons ?e4 EvA.nil rfl) rfl))) ?e5
    case e3 => walk_at "ev"
    case e4 => walk_at "ev"
    case e5 =>
      rintro v own ⟨T, _, _, rfl, rfl, ⟨⟨t1, rfl⟩, _⟩, ⟨⟨t2, rfl⟩, _⟩⟩
      exact ⟨T, t1, t2, r, o, rfl, rfl, pr, po⟩
  case turn =>
    rintro k ⟨r, rest, o, wt⟩ hk ⟨hr, ho, pr, po⟩ N' _ _
    dsimp only at hr ho pr po ⊢
    have lr := perm_two pr
    have lo := perm_two po
    refine' Bl.assignEx (R := fun x : Nat => x ≤ 999999) (P := fun x => IsK 999999 x) (Ev.at (Ev.mono (Ev.anyMod (j := 1000000) (Ev.any2 (Ev.sumSliceK (a := (k : Int)) ?f1 Gsum ?f2 hlg hi hns hh (by decide) rfl rfl rfl (fun _ => rfl)) (Ev.tupItem (n := 5) (k := k) ?f3 ?f4 hk (by decide) rfl)) (Ev.eqI (Ev.pow (i := 10) (k := 6) Ev.int Ev.int (by decide) (by decide)) rfl) (by decide)) ?f5)) ?n3 sub_refl rfl rfl rfl rfl
    case f1 => walk_at "ev"
    case f2 => walk_at "ev"
    case f3 => exact EvA.cons (Ev.mono Ev.int fun v h => ⟨_, h⟩) (EvA.cons (Ev.mono Ev.int fun v h => ⟨_, h⟩) (EvA.cons (Ev.mono Ev.int fun v h => ⟨_, h⟩) (EvA.cons (Ev.mono Ev.int fun v h => ⟨_, h⟩) (EvA.cons (Ev.mono Ev.int fun v h => ⟨_, h⟩) EvA.nil rfl) rfl) rfl) rfl) rfl
    case f4 => walk_at "ev"
    case f5 => rintro v ⟨x, hx, h⟩; exact ⟨x, by omega, h, by omega⟩
    case' n3 => skip
    intro x hx
    refine' Bl.cons (Ex.swap2 (P := IsK 999999 (x % rest.length)) (P' := IsK 999999 (x / rest.length % wt.length)) (EvA.cons (Ev.mod (n := 999999) (m := 5) ?f6 ?f7 (by omega) rfl) (EvA.cons (Ev.mod (n := 999999) (m := 5) (Ev.fdiv (n := 999999) (m := 5) ?f8 ?f9 (by omega) rfl) ?f10 (by omega) rfl) EvA.nil rfl) rfl) hh sub_refl rfl rfl rfl rfl rfl rfl rfl) ?n4
    case f6 => walk_at "ev"
    case f7 => walk_at "ev"
    case f8 => walk_at "ev"
    case f9 => walk_at "ev"
    case f10 => walk_at "ev"
    have hn : x % rest.length < rest.length := Nat.mod_lt _ (by omega)
    have hm : x / rest.length % wt.length < wt.length := Nat.mod_lt _ (by omega)
    generalize x % rest.length = n at *
    generalize x / rest.length % wt.length = m at *
    subst hr
    refine' Bl.cons (Ex.assign (P := IsL 10 (inter abc (r ++ [rest[n]]))) (Ev.mono (Ev.add (n := 10 + 1) (m := 1) (Ev.add (n := 10) (m := 1) ?g5 (Ev.item (n := 5) (l := abc) (k := r.length) (Ev.lit (n := 5) litAbc rfl) ?g6 hk rfl rfl (fun _ => rfl)) rfl) (Ev.item (n := 5) ?g7 (Ev.I ?g8) hn rfl rfl (fun _ => rfl)) rfl) ?g9)
      (Γ' := [("n", IsK 999999 n), ("m", IsK 999999 m), ("wait", IsL 5 wt), ("rest", IsL 5 rest), ("order", IsL 5 o), ("script", IsV (.ref l))]) ?g10 rfl rfl rfl rfl) ?n5
    case g5 => walk_at "ev"
    case g6 => walk_at "ev"
    case g7 => walk_at "ev"
    case g8 => walk_at "ev"
    case g9 =>
      intro v h
      refine h.mono ?_ (inter_len abc _)
      rw [inter_snoc (rest[n]) r abc (by exact hk), List.append_assoc]; rfl
    case g10 => walk_at "sub"
    refine' Bl.cons (Ex.assign (P := IsL 5 (o ++ [wt[m]])) (Ev.mono (Ev.add (n := 5) (m := 1) ?g11 (Ev.item (n := 5) ?g12 (Ev.I ?g13) hm rfl rfl (fun _ => rfl)) rfl) fun v h => h.mono rfl (by rw [List.length_append]; simp; omega))
      (Γ' := [("word", IsL 10 (inter abc (r ++ [rest[n]]))), ("n", IsK 999999 n), ("m", IsK 999999 m), ("wait", IsL 5 wt), ("rest", IsL 5 rest), ("script", IsV (.ref l))]) ?g14 rfl rfl rfl rfl) ?n6
    case g11 => walk_at "ev"
    case g12 => walk_at "ev"
    case g13 => walk_at "ev"
    case g14 => walk_at "sub"
    have hl5 : ∀ (u : List Nat) (i : Nat), u.length ≤ 5 → i < u.length → (u.take i ++ u.drop (i + 1)).length ≤ 5 := by
      intro u i h1 h2
      rw [List.length_append, List.length_take, List.length_drop]; omega
    refine' Bl.cons (Ex.swap2 (P := IsL 5 (rest.take n ++ rest.drop (n + 1))) (P' := IsL 5 (wt.take m ++ wt.drop (m + 1)))
      (EvA.cons (Ev.mono (Ev.add (n := 5) (m := 5) (Ev.sliceTo (n := 5) ?g15 ?g16 (Nat.le_of_lt hn) rfl rfl (fun _ => rfl)) (Ev.sliceFrom (n := 5) ?g17 (Ev.addK ?g18 (Ev.kst (k := 1) rfl)) hn rfl rfl (fun _ => rfl)) rfl) fun v h => h.mono rfl (hl5 _ _ (by omega) hn))
        (EvA.cons (Ev.mono (Ev.add (n := 5) (m := 5) (Ev.sliceTo (n := 5) ?g19 ?g20 (Nat.le_of_lt hm) rfl rfl (fun _ => rfl)) (Ev.sliceFrom (n := 5) ?g21 (Ev.addK ?g22 (Ev.kst (k := 1) rfl)) hm rfl rfl (fun _ => rfl)) rfl) fun v h => h.mono rfl (hl5 _ _ (by omega) hm)) EvA.nil rfl) rfl) hh (Γ' := [("order", IsL 5 (o ++ [wt[m]])), ("word", IsL 10 (inter abc (r ++ [rest[n]]))), ("script", IsV (.ref l))]) ?g23 rfl rfl rfl rfl rfl rfl rfl) ?n7
    case g15 => walk_at "ev"
    case g16 => walk_at "ev"
    case g17 => walk_at "ev"
    case g18 => walk_at "ev"
    case g19 => walk_at "ev"
    case g20 => walk_at "ev"
    case g21 => walk_at "ev"
    case g22 => walk_at "ev"
    case g23 => walk_at "sub"
    refine' Bl.nil fun s' st => ⟨(r ++ [rest[n]], rest.take n ++ rest.drop (n + 1), o ++ [wt[m]], wt.take m ++ wt.drop (m + 1)), ⟨by simp, by simp; exact ho, take_perm pr hn, take_perm po hm⟩, st.weak ?g24⟩
    case g24 => walk_at "sub"
end Mine

end
section
open PySem PySem.W PySem.Calls PyProof.Rows
set_option linter.unusedVariables false
set_option maxRecDepth 100000
set_option maxHeartbeats 6000000
namespace Mine
theorem litAbc2 : Str.ofString "abcde" = S abc := by rw [S_def]; decide
local macro_rules | `(tactic| walk_at "ev_lit") => `(tactic| exact litAbc2)
structure PgSt where
  o : Obj
  W : Addr
  ls : List (Str × Tok)
  n : Nat
  pg : List (Nat × Int)
  wt : List Nat
  fuel : Nat
def PInv (prog : Program) (w : World) (D W0 : Addr) (N' : Led) (T : List Nat) (a : PgSt) : Prop :=
  IsPg prog w a.o a.pg ∧ a.ls.map (·.1) = a.wt.map (fun z => S [z]) ∧ a.W ≠ D ∧ (a.W = W0 ∨ ∀ r ∈ N', r.1 < a.W) ∧ GoodP a.pg a.wt
abbrev isPg (prog : Program) (w : World) (pg : List (Nat × Int)) : Value → List (Addr × Obj) → Prop := fun v own => ∃ D o, v = .ref D ∧ own = [(D, o)] ∧ (D == sysModules) = false ∧ IsPg prog w o pg
theorem pages_fn (w : World) (T : List Nat) (t : Tok) (pgF : List (Nat × Int)) (hT : ∀ x ∈ abc, T.count x = 2) (hs : ∀ x ∈ T, x ∈ abc) (hl : T.length ≤ 10) (hF : pagesO T abc [] = some pgF) (hFl : pgF.length ≤ 1000) :
   Fn PySem.Challenge.rw_rw0063_01.row.prog w (Mine.hd.heap_39 w.params) Mine.hd.view_39 77 1 [.str (S T) t] (isPg PySem.Challenge.rw_rw0063_01.row.prog w pgF) := by
  k_fill
  refine' Fn.of_rt (n := 0) ?ho ?hcd ?hbd ?hlc [("word", IsL 10 T)] ?hΓ ?g1 ?g2 ?g3 ?g4 ?hr
  case ho => k_is
  case hcd => k_is
  case hbd => exact fun _ => BindsTo.of_eq rfl
  case hlc => exact locs rfl
  case g1 => exact rfl
  case g2 => exact rfl
  case g3 => exact rfl
  case g4 => decide
  case hΓ => simp only [Has, List.forall_mem_cons]; exact ⟨⟨_, rfl, ⟨t, rfl⟩, hl⟩, fun _ h => nomatch h⟩
  case hr =>
  intro A L' g s R N
  refine letR R ?_
  intro c R
  have hh : c.A.handled = none := R.1
  refine Rt.of ?_
  refine' Bl.swap2N (EvN.dict0 R) EvN.list0 hh ?n1 sub_refl rfl (fun _ => rfl) rfl rfl rfl rfl rfl rfl rfl
  rintro _ _ _ _ ⟨D, o0, rfl, rfl, lo, hp0⟩ ⟨W0, rfl, rfl⟩ hD hW
  refine Bl.led (N₁ := [(D, o0), (W0, lsT [] 0)] ++ N) (fun q hq => ?_) ?_
  · rcases List.mem_cons.mp hq with rfl | hq
    · exact .tail _ (.head _)
    · rcases List.mem_cons.mp hq with rfl | hq
      · exact .head _
      · exact .tail _ (.tail _ hq)
  have hWD : W0 ≠ D := Nat.ne_of_gt (hW _ (.head _) _ (.head _))
  have hDN : ∀ r ∈ N, r.1 ≠ D := fun r hr => Nat.ne_of_lt (hD _ (.head _) r hr)
  have hWN : ∀ r ∈ N, r.1 ≠ W0 := fun r hr => Nat.ne_of_lt (hW _ (.head _) r (.tail _ hr))
  refine' Bl.forStrA (n := 5) (ls := abc) (N := N) (a₀ := (⟨o0, W0, [], 0, [], [], 0⟩ : PgSt)) (fun i a => [("pages", IsV (.ref D)), ("waiting", IsV (.ref a.W)), ("word", IsL 10 T)]) (fun i a => [(D, a.o), (a.W, lsT a.ls a.n)])
    (fun i a => PInv c.prog c.w D W0 N T a ∧ a.wt = [] ∧ pagesO T (abc.drop i) a.pg = some pgF) rfl hh ?e1 ?h0 (fun _ _ => rfl) ?hdis ?turn ?done rfl rfl (fun _ => rfl)
  case e1 => walk_at "ev"
  case h0 => exact ⟨⟨hp0, rfl, hWD, .inl rfl, Nat.zero_le _, fun _ h => nomatch h⟩, rfl, hF⟩
  case hdis =>
    rintro i a ⟨⟨_, _, _, hf, _⟩, _⟩ q hq r hr
    rcases List.mem_cons.mp hq with rfl | hq
    · exact hDN r hr
    · rw [List.mem_singleton.mp hq]
      rcases hf with e | h
      · show r.1 ≠ a.W; rw [e]; exact hWN r hr
      · exact Nat.ne_of_lt (h r hr)
  case done =>
    rintro a ⟨⟨hpg, _⟩, _, hpo⟩
    rw [List.drop_length] at hpo
    have e : a.pg = pgF := Option.some.inj hpo
    refine' Bl.retOwn (own := [(D, a.o)]) ?e2 ?e3 (fun p hp q hq => by rw [List.mem_singleton.mp hp]; exact hD _ (.head _) q hq) (fun q hq => ?_)
    case e2 => walk_at "ev"
    case e3 => rintro v rfl; exact ⟨D, a.o, rfl, rfl, lo, by rw [← e]; exact hpg⟩
    rcases List.mem_cons.mp hq with rfl | hq
    · exact .head _
    · exact .tail _ (.tail _ hq)
  case turn =>
    rintro i a x hx ⟨⟨hpg, hls, haD, haW, hgood⟩, hwt, hpo⟩ N' hN' hap
    have hxm : x ∈ abc := List.mem_of_getElem? hx
    have hdr : abc.drop i = x :: abc.drop (i + 1) := by
      obtain ⟨hi, e⟩ := List.getElem?_eq_some_iff.mp hx
      rw [List.drop_eq_getElem_cons hi, e]
    rw [hdr] at hpo
    have hDN' : ∀ r ∈ N', r.1 ≠ D := fun r hr => hap _ (.head _) r hr
    refine' Bl.seqX (α := PgSt × List (Nat × Int)) (fun b => [("pages", IsV (.ref D)), ("waiting", IsV (.ref b.1.W)), ("word", IsL 10 T)]) (fun b => (D, b.1.o) :: (b.1.W, lsT b.1.ls b.1.n) :: N')
      (fun b => PInv c.prog c.w D a.W N' T b.1 ∧ bfs T b.1.fuel b.1.pg b.1.wt = some b.2 ∧ pagesO T (abc.drop (i + 1)) b.2 = some pgF) ?first ?second
    case first =>
      cases e : pgHas x a.pg with
      | true =>
        refine' Bl.ifF (TrAt.eq (TrAt.notin (n := 1) (z := x) (pg := a.pg) ?f1 ?f2 (.head _) lo hpg rfl) (by rw [e]; rfl)) (Bl.nil fun s' st => ⟨rfl, (⟨a.o, a.W, a.ls, a.n, a.pg, [], 6⟩, a.pg), ⟨⟨hpg, by rw [hls, hwt], haD, .inl rfl, Nat.zero_le _, fun _ h => nomatch h⟩, rfl, pagesO_old hpo e⟩, st.weak ?f3⟩)
        case f1 => walk_at "ev"
        case f2 => walk_at "ev"
        case f3 => walk_at "sub"
      | false =>
        obtain ⟨pg', hb, hp'⟩ := pagesO_new hpo e
        have hlen : a.pg.length ≤ 1000 := Nat.le_trans (pagesO_len _ _ _ _ hpo) hFl
        refine' Bl.ifT (TrAt.eq (TrAt.notin (n := 1) (z := x) (pg := a.pg) ?f4 ?f5 (.head _) lo hpg rfl) (by rw [e]; rfl)) (Bl.pgSet (n := 1) (z := x) (i := 0) ?f6 ?f7 (Ev.at Ev.int) ?f8 hpg e hlen ?f9 rfl)
        case f4 => walk_at "ev"
        case f5 => walk_at "ev"
        case f6 => walk_at "ev"
        case f7 => walk_at "ev"
        case f8 =>
          intro p hp
          rcases List.mem_cons.mp hp with rfl | hp
          · exact haD
          · exact hDN' p hp
        case f9 =>
          intro o' hpg'
          refine' Bl.assignN (EvN.list1 (P := IsL 1 [x]) ?k1 rfl) ?k2 (Γ' := [("pages", IsV (.ref D)), ("word", IsL 10 T)]) ?k3 rfl rfl rfl rfl
          case k1 => walk_at "ev"
          case k3 => walk_at "sub"
          rintro _ _ ⟨W1, _, rfl, rfl, ⟨⟨t1, rfl⟩, _⟩⟩ hW1
          refine Bl.led (N₁ := (D, o') :: (W1, lsT [(S [x], t1)] 0) :: N') (fun q hq => ?_) (Bl.nx (Bl.nil fun s' st => ⟨rfl, (⟨o', W1, [(S [x], t1)], 0, a.pg ++ [(x, 0)], [x], 6⟩, pg'), ⟨⟨hpg', rfl, Nat.ne_of_gt (hW1 _ (.head _) _ (.head _)), .inr fun r hr => hW1 _ (.head _) r (.tail _ (.tail _ hr)), ?_⟩, hb, hp'⟩, st.weak ?k4⟩))
          case k4 => walk_at "sub"
          · rcases List.mem_cons.mp hq with rfl | hq
            · exact .tail _ (.head _)
            · rcases List.mem_cons.mp hq with rfl | hq
              · exact .head _
              · exact .tail _ (.tail _ (.tail _ hq))
          · refine ⟨by simp, fun y hy => ?_⟩
            rw [List.mem_singleton.mp hy]
            exact ⟨by rw [pgHas_app]; simp, hxm⟩
    case second =>
      rintro ⟨a1, pg'⟩ ⟨hP1, hb1, hp'⟩
      have hlF : pg'.length ≤ 1000 := Nat.le_trans (pagesO_len _ _ _ _ hp') hFl
      refine' Bl.whileL (α := PgSt) (a₀ := a1) (fun b => [("pages", IsV (.ref D)), ("waiting", IsV (.ref b.W)), ("word", IsL 10 T)]) (fun b => (D, b.o) :: (b.W, lsT b.ls b.n) :: N') (fun b => b.fuel) (fun b => b.wt.length != 0)
        (fun b => PInv c.prog c.w D a.W N' T b ∧ bfs T b.fuel b.pg b.wt = some pg') rfl ⟨hP1, hb1⟩ ?htest ?hbody ?hend
      case htest =>
        rintro b ⟨⟨_, hls, _⟩, _⟩
        refine' TrAt.eq (TrAt.neNil (its := (strValues b.ls).toArray) (n := b.n) ?w1 (.tail _ (.head _)) R.units rfl) ?w2
        case w1 => walk_at "ev"
        case w2 =>
          have := congrArg List.length hls
          simp at this
          simp [strValues, this]
      case hend =>
        rintro b ⟨⟨h1, h2, h3, h4, h5⟩, hb⟩ hbt
        have hw0 : b.wt = [] := by simpa using hbt
        have hbp : b.pg = pg' := by
          rw [hw0] at hb
          cases hf : b.fuel with
          | zero => rw [hf] at hb; exact Option.some.inj hb
          | succ n => rw [hf] at hb; exact Option.some.inj hb
        refine' Bl.nil fun s' st => ⟨b, ⟨⟨h1, h2, h3, ?w3, h5⟩, hw0, by rw [hbp]; exact hp'⟩, ?w4, st⟩
        case w3 =>
          rcases h4 with e | h
          · rw [e]
            rcases haW with e2 | h2
            · exact .inl e2
            · exact .inr h2
          · exact .inr fun r hr => h r (hN' r hr)
        case w4 =>
          intro q hq
          rcases List.mem_cons.mp hq with rfl | hq
          · exact .inl (.head _)
          · rw [List.mem_singleton.mp hq]
            rcases h4 with e | h
            · exact .inl (by show b.W ∈ [D, a.W]; rw [e]; exact .tail _ (.head _))
            · exact .inr h
      case hbody =>
        rintro ⟨o, W, ls, n, pg, wt, fuel⟩ ⟨⟨h1, h2, h3, h4, h5⟩, hb⟩ hbt
        dsimp only at h1 h2 h3 h4 h5 hb hbt ⊢
        match wt, fuel, h2, h5, hb with
        | y :: wt', f + 1, h2, h5, hb =>
        match ls, h2 with
        | (_, ty) :: ls', h2 =>
        simp only [List.map_cons, List.cons.injEq] at h2
        obtain ⟨rfl, h2⟩ := h2
        obtain ⟨hyp, hya⟩ := h5.2 y (.head _)
        have hpl : pg.length ≤ 1000 := Nat.le_trans (bfs_len _ _ _ _ _ hb) hlF
        have hlw : ls'.length ≤ 1000 := by
          have := congrArg List.length h2
          simp only [List.length_map] at this
          have h6 := h5.1
          simp only [List.length_cons] at h6
          omega
        refine' Bl.cons (Ex.assignAt (P := IsL 1 [y]) (EvAt.mono (EvAt.first (ls := ls') (n := n) (tz := ty) ?x1 (.tail _ (.head _)) rfl (fun _ => rfl)) fun v h => ⟨h, Nat.le_refl 1⟩) sub_refl rfl rfl rfl rfl) ?x2
        case x1 => walk_at "ev"
        refine' Bl.assignNAt (EvNAt.tail (ls := ls') (n := n) ?x3 (.tail _ (.head _)) hlw rfl (fun _ => rfl)) ?x4 (Γ' := [("y", IsL 1 [y]), ("pages", IsV (.ref D)), ("word", IsL 10 T)]) ?x5 rfl rfl rfl rfl
        case x3 => walk_at "ev"
        case x5 => walk_at "sub"
        rintro _ _ ⟨W1, rfl, rfl⟩ hW1
        have hW1D : W1 ≠ D := Nat.ne_of_gt (hW1 _ (.head _) _ (.head _))
        have hW1N : ∀ r ∈ N', r.1 < W1 := fun r hr => hW1 _ (.head _) r (.tail _ (.tail _ hr))
        refine Bl.led (N₁ := (D, o) :: (W1, lsT ls' 0) :: N') (fun q hq => ?_) ?_
        · rcases List.mem_cons.mp hq with rfl | hq
          · exact .tail _ (.head _)
          · rcases List.mem_cons.mp hq with rfl | hq
            · exact .head _
            · exact .tail _ (.tail _ (.tail _ hq))
        refine' Bl.cons (Ex.assign (Ev.splitMid (n := 10) (m := 1) (d := y) ?x6 ?x7 (hT y hya) rfl rfl rfl rfl) sub_refl rfl rfl rfl rfl) ?x8
        case x6 => walk_at "ev"
        case x7 => walk_at "ev"
        generalize hwi : midW y T = wi
        have hwia : ∀ z ∈ wi, z ∈ abc := fun z hz => hs z (mid_sub y T z (hwi ▸ hz))
        have hbf : bfs T f (wi.foldl (zstep wi (pgLook y pg)) (pg, wt')).1 (wi.foldl (zstep wi (pgLook y pg)) (pg, wt')).2 = some pg' := by rw [← hwi]; exact hb
        refine' Bl.forStrA (n := 10) (ls := wi) (N := N') (a₀ := (⟨o, W1, ls', 0, pg, wt', f⟩ : PgSt)) (fun i b => [("within", IsL 10 wi), ("waiting", IsV (.ref b.W)), ("y", IsL 1 [y]), ("pages", IsV (.ref D)), ("word", IsL 10 T)]) (fun i b => [(D, b.o), (b.W, lsT b.ls b.n)])
          (fun i b => PInv c.prog c.w D a.W N' T b ∧ (b.pg, b.wt) = (wi.take i).foldl (zstep wi (pgLook y pg)) (pg, wt') ∧ pgHas y b.pg = true ∧ pgLook y b.pg = pgLook y pg) rfl hh ?y1 ?y2 (fun _ _ => rfl) ?y3 ?turn2 ?done2 rfl rfl (fun _ => rfl)
        case y1 => walk_at "ev"
        case y2 => exact ⟨⟨h1, h2, hW1D, .inr hW1N, Nat.le_trans (Nat.le_succ _) h5.1, fun z hz => h5.2 z (.tail _ hz)⟩, rfl, hyp, rfl⟩
        case y3 =>
          rintro i b ⟨⟨_, _, _, hf, _⟩, _⟩ q hq r hr
          rcases List.mem_cons.mp hq with rfl | hq
          · exact hDN' r hr
          · rw [List.mem_singleton.mp hq]
            rcases hf with e | h
            · show r.1 ≠ b.W; rw [e]; exact hap _ (.tail _ (.head _)) r hr
            · exact Nat.ne_of_lt (h r hr)
        case done2 =>
          rintro b ⟨hP, hfold, _, _⟩
          rw [List.take_length] at hfold
          rw [← hfold] at hbf
          refine' Bl.nil fun s' st => ⟨rfl, ⟨b.o, b.W, b.ls, b.n, b.pg, b.wt, f⟩, ⟨hP, hbf⟩, Nat.lt_succ_self f, st.weak ?y4⟩
          case y4 => walk_at "sub"
        case turn2 =>
          rintro j b z hz ⟨⟨k1, k2, k3, k4, k5⟩, hfold, hy1, hy2⟩ N'' hN'' hap2
          have hza : z ∈ abc := hwia z (List.mem_of_getElem? hz)
          have hstep : (wi.take (j + 1)).foldl (zstep wi (pgLook y pg)) (pg, wt') = zstep wi (pgLook y pg) (b.pg, b.wt) z := by rw [List.take_add_one, hz, List.foldl_append, ← hfold]; rfl
          have hbl : b.pg.length ≤ 1000 := by
            have q1 := zfold_len wi (pgLook y pg) (wi.drop j) ((wi.take j).foldl (zstep wi (pgLook y pg)) (pg, wt'))
            rw [← List.foldl_append, List.take_append_drop, ← hfold] at q1
            exact Nat.le_trans q1 (Nat.le_trans (bfs_len _ _ _ _ _ hbf) hlF)
          have hbw : b.ls.length ≤ 1000 := by
            have q1 := congrArg List.length k2
            have q2 := k5.1
            simp only [List.length_map] at q1
            omega
          rw [hstep]
          cases hbz : (Nat.beq (cnt z wi) 1 && !pgHas z b.pg) with
          | false =>
            refine' Bl.ifF (TrAt.eq (TrAt.and2 (Tr.cmp (Ev.count (n := 10) (m := 1) (z := z) (l := wi) ?z1 ?z2 rfl rfl) Ev.int (op_eq rfl) rfl) fun _ => TrAt.notin (n := 1) (z := z) (pg := b.pg) ?z3 ?z4 (.head _) lo k1 rfl) (by rw [beq_cast]; exact hbz))
              (Bl.nil fun s' st => ⟨b, ⟨⟨k1, k2, k3, k4, k5⟩, (zstep_no hbz).symm, hy1, hy2⟩, fun q hq => .inl (List.mem_map_of_mem hq), st.weak ?z5⟩)
            case z1 => walk_at "ev"
            case z2 => walk_at "ev"
            case z3 => walk_at "ev"
            case z4 => walk_at "ev"
            case z5 => walk_at "sub"
          | true =>
            obtain ⟨hc1, hc2⟩ := Bool.and_eq_true _ _ ▸ hbz
            have hnew : pgHas z b.pg = false := by simpa using hc2
            refine' Bl.ifT (TrAt.eq (TrAt.and2 (Tr.cmp (Ev.count (n := 10) (m := 1) (z := z) (l := wi) ?u1 ?u2 rfl rfl) Ev.int (op_eq rfl) rfl) fun _ => TrAt.notin (n := 1) (z := z) (pg := b.pg) ?u3 ?u4 (.head _) lo k1 rfl) (by rw [beq_cast]; exact hbz))
              (Bl.pgSet (n := 1) (z := z) (i := 1 - pgLook y b.pg) ?u5 ?u6 (EvAt.subI (Ev.at Ev.int) (EvAt.pgItem (n := 1) (z := y) (pg := b.pg) ?u7 ?u8 (.head _) lo k1 hy1 rfl (fun _ => rfl))) ?u9 k1 hnew hbl ?u10 rfl)
            case u1 => walk_at "ev"
            case u2 => walk_at "ev"
            case u3 => walk_at "ev"
            case u4 => walk_at "ev"
            case u5 => walk_at "ev"
            case u6 => walk_at "ev"
            case u7 => walk_at "ev"
            case u8 => walk_at "ev"
            case u9 =>
              intro p hp
              rcases List.mem_cons.mp hp with rfl | hp
              · exact k3
              · exact hap2 _ (.head _) p hp
            case u10 =>
              intro o' hpg'
              refine' Bl.assignNAt (EvNAt.snoc (ls := b.ls) (n := b.n) (z := S [z]) ?v1 (Ev.mono ?v2 IsL.X) (.tail _ (.head _)) hbw rfl) ?v3 (Γ' := [("within", IsL 10 wi), ("y", IsL 1 [y]), ("pages", IsV (.ref D)), ("word", IsL 10 T)]) ?v4 rfl rfl rfl rfl
              case v1 => walk_at "ev"
              case v2 => walk_at "ev"
              case v4 => walk_at "sub"
              rintro _ _ ⟨W2, t2, rfl, rfl⟩ hW2
              refine Bl.led (N₁ := [(D, o'), (W2, lsT (b.ls ++ [(S [z], t2)]) 0)] ++ N'') (fun q hq => ?_) (Bl.nx (Bl.nil fun s' st => ⟨⟨o', W2, b.ls ++ [(S [z], t2)], 0, b.pg ++ [(z, 1 - pgLook y b.pg)], b.wt ++ [z], b.fuel⟩, ⟨⟨hpg', ?v5, Nat.ne_of_gt (hW2 _ (.head _) _ (.head _)), .inr fun r hr => hW2 _ (.head _) r (.tail _ (.tail _ (hN'' r hr))), good_add _ k5 hza⟩, ?v6, ?v7, ?v8⟩, ?v9, st.weak ?v10⟩))
              · rcases List.mem_cons.mp hq with rfl | hq
                · exact .tail _ (.head _)
                · rcases List.mem_cons.mp hq with rfl | hq
                  · exact .head _
                  · exact .tail _ (.tail _ (.tail _ hq))
              case v5 => simp [k2]
              case v6 => rw [zstep_yes hc1 hnew, hy2]
              case v7 => rw [pgHas_app, hy1]; rfl
              case v8 => rw [pgLook_app _ _ hy1]; exact hy2
              case v9 =>
                intro q hq
                rcases List.mem_cons.mp hq with rfl | hq
                · exact .inl (.head _)
                · rw [List.mem_singleton.mp hq]
                  exact .inr fun r hr => hW2 _ (.head _) r (.tail _ (.tail _ hr))
              case v10 => walk_at "sub"
end Mine

end
section
open PySem PySem.W PySem.Calls PyProof.Rows
set_option linter.unusedVariables false
set_option maxRecDepth 100000
set_option maxHeartbeats 6000000
namespace Mine
theorem textP_app : ∀ (a b : List Nat), textP (a ++ b) = textP a ++ textP b
  | [], b => rfl
  | k :: a, b => by show pieceT k ++ textP (a ++ b) = (pieceT k ++ textP a) ++ textP b; rw [textP_app a b, List.append_assoc]
theorem pieceT_len (k : Nat) : (pieceT k).length ≤ 5 := by
  unfold pieceT; split <;> decide
theorem textP_len : ∀ l : List Nat, (textP l).length ≤ 5 * l.length
  | [] => Nat.le_refl 0
  | k :: l => by
    have h1 := pieceT_len k
    have h2 := textP_len l
    show (pieceT k ++ textP l).length ≤ _
    rw [List.length_append, List.length_cons]; omega
theorem piecesC_get (T : List Nat) (pg : List (Nat × Int)) (x : Nat) : ∀ (l : List Nat) (n k : Nat) (h : k < l.length), (piecesC T pg x n l)[k]? = some (pieceC T pg x (n + k) l[k])
  | [], n, k, h => absurd h (Nat.not_lt_zero k)
  | z :: l, n, 0, h => rfl
  | z :: l, n, k + 1, h => by
    show (piecesC T pg x (n + 1) l)[k]? = _
    rw [piecesC_get T pg x l (n + 1) k (Nat.lt_of_succ_lt_succ h)]
    congr 2
    omega
theorem piecesC_len (T : List Nat) (pg : List (Nat × Int)) (x : Nat) : ∀ (l : List Nat) (n : Nat), (piecesC T pg x n l).length = l.length
  | [], n => rfl
  | z :: l, n => congrArg (· + 1) (piecesC_len T pg x l (n + 1))
theorem beq_at (a b k : Nat) : ((a : Int) == (b : Int) + 1 + (k : Int)) = Nat.beq a (b + 1 + k) := by
  rw [Bool.eq_iff_iff, Nat.beq_eq, beq_iff_eq]; omega
theorem litS0 : Str.ofString "" = S [] := by rw [S_def]; rfl
theorem litS1 : Str.ofString "(" = S [40] := by rw [S_def]; decide
theorem litS2 : Str.ofString "\\\\)" = S [92, 92, 41] := by rw [S_def]; decide
theorem litS3 : Str.ofString "\"\\\"(\"" = S [34, 92, 34, 40, 34] := by rw [S_def]; decide
theorem litS4 : Str.ofString "\\)" = S [92, 41] := by rw [S_def]; decide
theorem Ev.litM {c : Cx} {Γ : Tys} {x : Str} {k : Nat} {p : Pos} {l : List Nat} (n : Nat) (hx : x = S l) (hl : Nat.ble l.length n = true) : Ev c Γ (.Constant (.str x) k p) (IsL n l) := Ev.mono (Ev.lit hx rfl) fun v h => ⟨h.1, Nat.le_of_ble_eq_true hl⟩
theorem stretch_fn (w : World) (T : List Nat) (x : Nat) (t u : Tok) (D : Addr) (o : Obj) (pg : List (Nat × Int)) (hT : T.count x = 2) (hs : ∀ x ∈ T, x ∈ abc) (hx : x ∈ abc) (hl : T.length ≤ 10) (lo : (D == sysModules) = false) (hpg : IsPg PySem.Challenge.rw_rw0063_01.row.prog w o pg) (hall : ∀ z ∈ abc, pgHas z pg = true) :
   FnH PySem.Challenge.rw_rw0063_01.row.prog w (Mine.hd.heap_39 w.params) Mine.hd.view_39 84 1 (fun _ N => (D, o) ∈ N) [.str (S T) t, .ref D, .str (S [x]) u] (isS (S (textP (piecesC T pg x 0 (midW x T))))) := by
  k_fill
  refine' FnH.of_rt (n := 0) (fun h g N hk hh => hh) ?ho ?hcd ?hbd ?hlc [("word", IsL 10 T), ("pages", IsV (.ref D)), ("x", IsL 1 [x])] ?hΓ ?g1 ?g2 ?g3 ?g4 ?hr
  case ho => k_is
  case hcd => k_is
  case hbd => exact fun _ => BindsTo.of_eq rfl
  case hlc => exact locs rfl
  case g1 => exact rfl
  case g2 => exact rfl
  case g3 => exact rfl
  case g4 => decide
  case hΓ => simp only [Has, List.forall_mem_cons]; exact ⟨⟨_, rfl, ⟨t, rfl⟩, hl⟩, ⟨_, rfl, rfl⟩, ⟨_, rfl, ⟨u, rfl⟩, Nat.le_refl 1⟩, fun _ h => nomatch h⟩
  case hr =>
  intro A L' g s R N
  refine letR' R ?_
  intro c R hDN
  have Grange : Gl c "range" (.type "range") := R.bi boot_range rfl (by decide) rfl rfl
  have Glen : Gl c "len" (.builtin "len") := R.bi boot_len rfl (by decide) rfl rfl
  have hh : c.A.handled = none := R.1
  have hxT : x ∈ T := List.count_pos_iff.mp (by rw [hT]; decide)
  refine Rt.of ?_
  refine' Bl.cons (Ex.assign (Ev.litM 50 litS0 rfl) sub_refl rfl rfl rfl rfl) ?n1
  refine' Bl.cons (Ex.assign (Ev.index (n := 10) (m := 1) (z := x) ?e1 ?e2 hxT rfl rfl) sub_refl rfl rfl rfl rfl) ?n2
  case e1 => walk_at "ev"
  case e2 => walk_at "ev"
  refine' Bl.cons (Ex.assign (Ev.splitMid (n := 10) (m := 1) (d := x) ?e3 ?e4 hT rfl rfl rfl rfl) sub_refl rfl rfl rfl rfl) ?n3
  case e3 => walk_at "ev"
  case e4 => walk_at "ev"
  have hwl : (midW x T).length ≤ 8 := by have := mid_len hT; omega
  have hwa : ∀ z ∈ midW x T, z ∈ T := mid_sub x T
  generalize midW x T = wi at *
  have hpl := piecesC_len T pg x wi 0
  have htl : ∀ k, (textP ((piecesC T pg x 0 wi).take k)).length ≤ 50 := by
    intro k
    have h1 := textP_len ((piecesC T pg x 0 wi).take k)
    rw [List.length_take] at h1
    omega
  refine' Bl.forRange (n := wi.length) (m := 10) (N := N) (a₀ := ()) (fun k _ => [("within", IsL 10 wi), ("first", IsI ((preW x T).length : Int)), ("text", IsL 50 (textP ((piecesC T pg x 0 wi).take k))), ("word", IsL 10 T), ("pages", IsV (.ref D)), ("x", IsL 1 [x])]) (fun _ _ => []) (fun _ _ => True) rfl hh Grange ?e5 rfl trivial ?hadr ?hfr ?hdis ?turn ?done rfl rfl rfl rfl (fun _ => rfl)
  case hadr => intro _ _ _ _ _; rfl
  case hfr => intro _ _; rfl
  case hdis => exact fun _ _ _ _ h => nomatch h
  case done =>
    intro _ _
    refine' Bl.ret ?e6 ?e7 sub_led
    case e6 => walk_at "ev"
    case e7 => rintro v ⟨⟨t, rfl⟩, _⟩; exact ⟨⟨t, by rw [List.take_of_length_le (Nat.le_of_eq hpl)]⟩, rfl⟩
  case e5 => walk_at "ev"
  case turn =>
    intro k _ hk _ N' hN' _
    have hzT : wi[k] ∈ T := hwa _ (List.getElem_mem hk)
    have hza : wi[k] ∈ abc := hs _ hzT
    have hnx : (piecesC T pg x 0 wi).take (k + 1) = (piecesC T pg x 0 wi).take k ++ [pieceC T pg x k wi[k]] := by
      rw [List.take_add_one, piecesC_get T pg x wi 0 k hk, Nat.zero_add]; rfl
    have hln := htl (k + 1)
    have hDN' : (D, o) ∈ N' := hN' _ hDN
    refine' Bl.cons (Ex.assign (Ev.cmp (Ev.index (n := 10) (m := 1) (z := wi[k]) ?t1 (Ev.item (n := 10) ?t2 ?t3 hk rfl rfl (fun _ => rfl)) hzT rfl rfl) (Ev.addI (Ev.addI ?t4 Ev.int) ?t5) (op_eq rfl) rfl) sub_refl rfl rfl rfl rfl) ?t6
    case t1 => walk_at "ev"
    case t2 => walk_at "ev"
    case t3 => walk_at "ev"
    case t4 => walk_at "ev"
    case t5 => walk_at "ev"
    rw [beq_at]
    generalize hop : Nat.beq (preW wi[k] T).length ((preW x T).length + 1 + k) = op
    have hpc : pieceC T pg x k wi[k] = bif (pgLook wi[k] pg == pgLook x pg) then (bif op then 0 else 1) else (bif op then 2 else 3) := by rw [← hop]; rfl
    cases hpp : (pgLook wi[k] pg == pgLook x pg) with
    | true =>
      have hst : textP ((piecesC T pg x 0 wi).take (k + 1)) = textP ((piecesC T pg x 0 wi).take k) ++ pieceT (bif op then 0 else 1) := by
        rw [hnx, textP_app, hpc, hpp]; show _ ++ (_ ++ []) = _; rw [List.append_nil]; rfl
      rw [hst] at hln
      refine' Bl.ifT (TrAt.cmp (EvAt.pgItem (n := 1) (z := wi[k]) (pg := pg) ?u1 (Ev.item (n := 10) ?u2 ?u3 hk rfl rfl (fun _ => rfl)) hDN' lo hpg (hall _ hza) rfl (fun _ => rfl)) (EvAt.pgItem (n := 1) (z := x) (pg := pg) ?u4 ?u5 hDN' lo hpg (hall _ hx) rfl (fun _ => rfl)) (op_eq hpp) rfl)
        (Bl.cons (Ex.aug (R := IsL 50 (textP ((piecesC T pg x 0 wi).take k) ++ pieceT (bif op then 0 else 1))) ?u6 (Ev.ifexp (r := op) (P := IsL 5 (pieceT (bif op then 0 else 1))) (Tr.bool ?u7 rfl) (fun h => by rw [h]; exact Ev.litM 5 litS1 rfl) (fun h => by rw [h]; exact Ev.litM 5 litS2 rfl)) (iop_mono (iop_addL (n := 50) (m := 5) rfl) fun v h => ⟨h.1, hln⟩) (Γ' := [("within", IsL 10 wi), ("first", IsI ((preW x T).length : Int)), ("word", IsL 10 T), ("pages", IsV (.ref D)), ("x", IsL 1 [x])]) ?u8 rfl rfl rfl rfl)
          (Bl.nx (Bl.nil fun s' st => ⟨(), trivial, ?u9⟩)))
      case u1 => walk_at "ev"
      case u2 => walk_at "ev"
      case u3 => walk_at "ev"
      case u4 => walk_at "ev"
      case u5 => walk_at "ev"
      case u6 => walk_at "ev_in"
      case u7 => walk_at "ev"
      case u8 => walk_at "sub"
      case u9 =>
        rw [hst]
        refine st.weak ?_
        walk_at "sub"
    | false =>
      have hst : textP ((piecesC T pg x 0 wi).take (k + 1)) = textP ((piecesC T pg x 0 wi).take k) ++ pieceT (bif op then 2 else 3) := by
        rw [hnx, textP_app, hpc, hpp]; show _ ++ (_ ++ []) = _; rw [List.append_nil]; rfl
      rw [hst] at hln
      refine' Bl.ifE (TrAt.cmp (EvAt.pgItem (n := 1) (z := wi[k]) (pg := pg) ?w1 (Ev.item (n := 10) ?w2 ?w3 hk rfl rfl (fun _ => rfl)) hDN' lo hpg (hall _ hza) rfl (fun _ => rfl)) (EvAt.pgItem (n := 1) (z := x) (pg := pg) ?w4 ?w5 hDN' lo hpg (hall _ hx) rfl (fun _ => rfl)) (op_eq hpp) rfl)
        (Bl.cons (Ex.aug (R := IsL 50 (textP ((piecesC T pg x 0 wi).take k) ++ pieceT (bif op then 2 else 3))) ?w6 (Ev.ifexp (r := op) (P := IsL 5 (pieceT (bif op then 2 else 3))) (Tr.bool ?w7 rfl) (fun h => by rw [h]; exact Ev.litM 5 litS3 rfl) (fun h => by rw [h]; exact Ev.litM 5 litS4 rfl)) (iop_mono (iop_addL (n := 50) (m := 5) rfl) fun v h => ⟨h.1, hln⟩) (Γ' := [("within", IsL 10 wi), ("first", IsI ((preW x T).length : Int)), ("word", IsL 10 T), ("pages", IsV (.ref D)), ("x", IsL 1 [x])]) ?w8 rfl rfl rfl rfl)
          (Bl.nx (Bl.nil fun s' st => ⟨(), trivial, ?w9⟩)))
      case w1 => walk_at "ev"
      case w2 => walk_at "ev"
      case w3 => walk_at "ev"
      case w4 => walk_at "ev"
      case w5 => walk_at "ev"
      case w6 => walk_at "ev_in"
      case w7 => walk_at "ev"
      case w8 => walk_at "sub"
      case w9 =>
        rw [hst]
        refine st.weak ?_
        walk_at "sub"
end Mine

end
section
open PySem PySem.W PySem.Calls PyProof.Rows
open Builtin Builtin.Str
set_option linter.unusedVariables false
namespace Mine
theorem one_eq (c : Nat) : (⟨#[c]⟩ : Str) = S [c] := by rw [S_def]
theorem two_eq (c : Nat) : (⟨#[92]⟩ : Str) ++ ⟨#[c]⟩ = S [92, c] := by rw [one_eq, one_eq, S_app]; rfl
theorem lp40 : Str.ofString "(" = S [40] := by rw [S_def]; decide
theorem lp41 : Str.ofString ")" = S [41] := by rw [S_def]; decide
theorem lp34 : Str.ofString "\"" = S [34] := by rw [S_def]; decide
theorem lp0 : Str.ofString "" = S [] := by rw [S_def]; decide
theorem contains_one (l : List Nat) (c : Nat) : Txt.contains (S l) (S [c]) = true ↔ c ∈ l := by
  unfold Txt.contains
  rw [StrLaws.found_iff]
  have hat : ∀ k, StrLaws.At (S l) (S [c]) (S l).length k ↔ l[k]? = some c := fun k => by
    rw [show S [c] = ⟨#[c]⟩ by rw [S_def]]
    exact (StrLaws.subAt_one (S l) c k).trans (by simp [S_def])
  constructor
  · rintro ⟨i, h⟩; exact List.mem_of_getElem? ((hat i).mp h)
  · intro h
    obtain ⟨i, hi, he⟩ := List.getElem_of_mem h
    exact ⟨i, (hat i).mpr (List.getElem?_eq_some_iff.mpr ⟨hi, he⟩)⟩
def chkStep (st : Option Int) (c : Nat) : Option Int := match st with
  | none => none
  | some o => if c = 40 then some (o + 1) else if c = 41 then (if o - 1 < 0 then none else some (o - 1)) else some o
theorem checkStep_one (st : Option Int) (i c : Nat) : checkStep st (i, (⟨#[c]⟩ : Str)) = chkStep st c := by
  cases st with
  | none => rfl
  | some o =>
    simp only [checkStep, chkStep, one_eq, lp40, lp41, S_beq, List.cons.injEq, and_true, decide_eq_true_eq]
theorem checkStep_two (st : Option Int) (i c : Nat) : checkStep st (i, (⟨#[92]⟩ : Str) ++ ⟨#[c]⟩) = st := by
  cases st with
  | none => rfl
  | some o =>
    simp only [checkStep, two_eq, lp40, lp41, S_beq]
    simp
theorem stripStep_one (X : Str) (st : Int × Option Int × List Str) (i c : Nat) (h : c ≠ 34) : stripStep X st (i, (⟨#[c]⟩ : Str)) = st := by
  unfold stripStep
  rw [if_neg]
  rw [one_eq, lp34, S_beq]
  simpa using h
theorem stripStep_two (X : Str) (st : Int × Option Int × List Str) (i c : Nat) : stripStep X st (i, (⟨#[92]⟩ : Str) ++ ⟨#[c]⟩) = st := by
  unfold stripStep
  rw [if_neg]
  rw [two_eq, lp34, S_beq]
  simp
def no2 : List Nat → List Nat
  | [] => []
  | k :: l => bif Nat.beq k 2 then no2 l else k :: no2 l
theorem tokP0 (i : Nat) (v : List Nat) : tokList i false (pieceT 0 ++ v) = (i, (⟨#[40]⟩ : Str)) :: tokList (i + 1) false v := by simp [pieceT, tokList]
theorem tokP1 (i : Nat) (v : List Nat) : tokList i false (pieceT 1 ++ v) = (i + 1, (⟨#[92]⟩ : Str) ++ ⟨#[92]⟩) :: (i + 2, (⟨#[41]⟩ : Str)) :: tokList (i + 3) false v := by simp [pieceT, tokList]
theorem tokP2 (i : Nat) (v : List Nat) : tokList i false (pieceT 2 ++ v) = (i, (⟨#[34]⟩ : Str)) :: (i + 2, (⟨#[92]⟩ : Str) ++ ⟨#[34]⟩) :: (i + 3, (⟨#[40]⟩ : Str)) :: (i + 4, (⟨#[34]⟩ : Str)) :: tokList (i + 5) false v := by simp [pieceT, tokList]
theorem tokP3 (i k : Nat) (v : List Nat) : tokList i false (pieceT (k + 3) ++ v) = (i + 1, (⟨#[92]⟩ : Str) ++ ⟨#[41]⟩) :: tokList (i + 2) false v := by simp [pieceT, tokList]
theorem join_cat : ∀ (res : List Str) (R a : List Nat), Txt.join (Str.ofString "") res = S R → Txt.join (Str.ofString "") (res ++ [S a]) = S (R ++ a) := by
  have key : ∀ (l : List Str) (b : Array Nat), l.foldl (fun acc p => acc ++ (Str.ofString "").cps ++ p.cps) b = (b.toList ++ (l.map (·.cps.toList)).flatten).toArray := by
    intro l
    induction l with
    | nil => intro b; simp
    | cons p l ih => intro b; rw [List.foldl_cons, ih, lp0, S_def]; simp
  have all : ∀ l : List Str, Txt.join (Str.ofString "") l = S (l.map (·.cps.toList)).flatten := by
    intro l
    show glued _ l = _
    unfold glued
    cases l with
    | nil => rw [S_def]; rfl
    | cons p l => rw [List.drop_one, List.tail_cons, key, List.headD_cons, S_def]; simp
  intro res R a h
  rw [all] at h ⊢
  have h2 := congrArg (·.cps.toList) h
  simp only [S_def] at h2
  rw [List.map_append, List.flatten_append]
  rw [show (res.map (·.cps.toList)).flatten = R by simpa using h2]
  simp [S_def]
theorem slice_mid (L : List Nat) (i j : Nat) (h1 : i ≤ j) (h2 : j ≤ L.length) : Txt.slice (S L) (some (i : Int)) (some (j : Int)) = S ((L.drop i).take (j - i)) := by
  rw [eq_of_beq (slice_closesL (x := S L) (i := (i : Int)) (j := (j : Int)) (by omega) (by omega) (by rw [S_len]; omega)), show (S L).cps.toList = L by rw [S_def], S_def]
  congr 3
  omega
theorem stripStep_q0 (X : Str) (s i : Nat) (res : List Str) : stripStep X ((s : Int), none, res) (i, (⟨#[34]⟩ : Str)) = ((s : Int), some (i : Int), res) := by
  unfold stripStep; rw [if_pos (by rw [one_eq, lp34]; simp)]
theorem stripStep_q1 (X : Str) (s o i : Nat) (res : List Str) : stripStep X ((s : Int), some (o : Int), res) (i, (⟨#[34]⟩ : Str)) = (((i + 1 : Nat) : Int), none, if (s : Int) != (o : Int) then res ++ [Txt.slice X (some (s : Int)) (some (o : Int))] else res) := by
  unfold stripStep; rw [if_pos (by rw [one_eq, lp34]; simp)]; rfl
theorem no2_ne {k : Nat} {l : List Nat} (h : Nat.beq k 2 = false) : no2 (k :: l) = k :: no2 l := by show cond _ _ _ = _; rw [h]; rfl
theorem strip_pieces (L v : List Nat) : ∀ (ks done : List Nat) (start : Nat) (res : List Str) (R : List Nat), L = done ++ (textP ks ++ v) → start ≤ done.length → Txt.join (Str.ofString "") res = S R →
    ∃ (start' : Nat) (res' : List Str) (R' : List Nat), (tokList done.length false (textP ks ++ v)).foldl (stripStep (S L)) ((start : Int), none, res) = (tokList (done ++ textP ks).length false v).foldl (stripStep (S L)) ((start' : Int), none, res') ∧ start' ≤ (done ++ textP ks).length ∧
      Txt.join (Str.ofString "") res' = S R' ∧ R' ++ (done ++ textP ks).drop start' = R ++ (done.drop start ++ textP (no2 ks)) := by
  intro ks
  induction ks with
  | nil =>
    intro done start res R hL hs hj
    have e : textP [] = [] := rfl
    refine ⟨start, res, R, ?_, ?_, hj, ?_⟩
    · rw [e, List.nil_append, List.append_nil]
    · rw [e, List.append_nil]; exact hs
    · rw [show no2 [] = [] from rfl, e, List.append_nil, List.append_nil]
  | cons k ks ih =>
    intro done start res R hL hs hj
    have e : textP (k :: ks) = pieceT k ++ textP ks := rfl
    rw [e, List.append_assoc] at hL
    have hL2 : L = (done ++ pieceT k) ++ (textP ks ++ v) := by rw [hL, List.append_assoc]
    have hlen : (done ++ pieceT k).length = done.length + (pieceT k).length := List.length_append
    rw [e, List.append_assoc, ← List.append_assoc done]
    have plain : Nat.beq k 2 = false → (tokList done.length false (pieceT k ++ (textP ks ++ v))).foldl (stripStep (S L)) ((start : Int), none, res) = (tokList (done ++ pieceT k).length false (textP ks ++ v)).foldl (stripStep (S L)) ((start : Int), none, res) →
        ∃ (start' : Nat) (res' : List Str) (R' : List Nat), (tokList done.length false (pieceT k ++ (textP ks ++ v))).foldl (stripStep (S L)) ((start : Int), none, res) = (tokList ((done ++ pieceT k) ++ textP ks).length false v).foldl (stripStep (S L)) ((start' : Int), none, res') ∧ start' ≤ ((done ++ pieceT k) ++ textP ks).length ∧
          Txt.join (Str.ofString "") res' = S R' ∧ R' ++ ((done ++ pieceT k) ++ textP ks).drop start' = R ++ (done.drop start ++ textP (no2 (k :: ks))) := by
      intro hk hf
      obtain ⟨s', r', R', a, b, c, d⟩ := ih (done ++ pieceT k) start res R hL2 (by omega) hj
      refine ⟨s', r', R', hf.trans a, b, c, ?_⟩
      rw [d, no2_ne hk, List.drop_append_of_le_length hs, List.append_assoc]; rfl
    match k, hlen, hL2, plain with
    | 0, hlen, hL2, plain => exact plain rfl (by rw [tokP0, List.foldl_cons, stripStep_one _ _ _ _ (by decide), hlen]; rfl)
    | 1, hlen, hL2, plain => exact plain rfl (by rw [tokP1, List.foldl_cons, List.foldl_cons, stripStep_two, stripStep_one _ _ _ _ (by decide), hlen]; rfl)
    | k + 3, hlen, hL2, plain => exact plain rfl (by rw [tokP3, List.foldl_cons, stripStep_two, hlen]; rfl)
    | 2, hlen, hL2, plain =>
      clear plain
      have hll := congrArg List.length hL2
      simp only [List.length_append] at hll
      have h5 : (pieceT 2).length = 5 := rfl
      have hj2 : Txt.join (Str.ofString "") (if (start : Int) != (done.length : Int) then res ++ [Txt.slice (S L) (some (start : Int)) (some (done.length : Int))] else res) = S (R ++ done.drop start) := by
        rw [slice_mid L start done.length hs (by omega)]
        cases hz : ((start : Int) != (done.length : Int)) with
        | true =>
          rw [if_pos rfl, join_cat res R _ hj]
          congr 2
          rw [hL, List.drop_append_of_le_length hs, List.take_append_of_le_length (by rw [List.length_drop]; omega), List.take_of_length_le (by rw [List.length_drop]; omega)]
        | false =>
          have : start = done.length := by simp at hz; omega
          rw [if_neg (by simp), hj, this, List.drop_length, List.append_nil]
      obtain ⟨s', r', R', a, b, c, d⟩ := ih (done ++ pieceT 2) (done.length + 4 + 1) _ _ hL2 (by omega) hj2
      refine ⟨s', r', R', ?_, b, c, ?_⟩
      · rw [tokP2, List.foldl_cons, List.foldl_cons, List.foldl_cons, List.foldl_cons, stripStep_q0, stripStep_two, stripStep_one _ _ _ 40 (by decide), stripStep_q1, ← a, hlen, h5]
      · have hd0 : (done ++ pieceT 2).drop (done.length + 4 + 1) = [] := List.drop_of_length_le (by rw [hlen, h5]; exact Nat.le_refl _)
        rw [d, hd0, List.nil_append, List.append_assoc]; rfl
theorem mem_pieces : ∀ (ks : List Nat), 34 ∉ textP ks → no2 ks = ks
  | [], _ => rfl
  | k :: ks, h => by
    have e : textP (k :: ks) = pieceT k ++ textP ks := rfl
    rw [e, List.mem_append, not_or] at h
    cases hk : Nat.beq k 2 with
    | true => rw [Nat.eq_of_beq_eq_true hk] at h; exact absurd (by simp [pieceT]) h.1
    | false => rw [no2_ne hk, mem_pieces ks h.2]
theorem strip_none {l : List Nat} (h : 34 ∉ l) : stripQ (S l) = S l := by
  unfold stripQ
  rw [lp34, if_neg]
  rw [contains_one]
  exact h
/-- u and v have no quotes -/
theorem strip_text (u ks v : List Nat) (hu : ∀ c ∈ u, c ≠ 92 ∧ c ≠ 34) (hv : ∀ (X : Str) (i s : Nat) (res : List Str), ∃ o, (tokList i false v).foldl (stripStep X) ((s : Int), none, res) = ((s : Int), o, res)) :
    34 ∈ u ++ (textP ks ++ v) ∨ 34 ∉ v → stripQ (S (u ++ (textP ks ++ v))) = S (u ++ (textP (no2 ks) ++ v)) := by
  intro hq
  have run : ∀ (X : Str) (u w : List Nat) (i : Nat) (st : Int × Option Int × List Str), (∀ c ∈ u, c ≠ 92 ∧ c ≠ 34) → (tokList i false (u ++ w)).foldl (stripStep X) st = (tokList (i + u.length) false w).foldl (stripStep X) st := by
    intro X u
    induction u with
    | nil => intro w i st _; rfl
    | cons c r ih =>
      intro w i st h
      have hc := h c (List.mem_cons_self ..)
      rw [List.cons_append, tokList, if_neg hc.1, List.foldl_cons, stripStep_one X st i c hc.2, ih w (i + 1) _ (fun d hd => h d (List.mem_cons_of_mem _ hd)), List.length_cons, show i + 1 + r.length = i + (r.length + 1) by omega]
  by_cases h34 : 34 ∈ u ++ (textP ks ++ v)
  · have hc : Txt.contains (S (u ++ (textP ks ++ v))) (Str.ofString "\"") = true := by rw [lp34, contains_one]; exact h34
    unfold stripQ
    rw [if_pos hc, show (S (u ++ (textP ks ++ v))).cps.toList = u ++ (textP ks ++ v) by rw [S_def]]
    obtain ⟨s', r', R', a, b, c, d⟩ := strip_pieces (u ++ (textP ks ++ v)) v ks u 0 [] [] rfl (Nat.zero_le _) (by rw [S_def]; rfl)
    obtain ⟨o, ho⟩ := hv (S (u ++ (textP ks ++ v))) (u ++ textP ks).length s' r'
    have hall : (tokList 0 false (u ++ (textP ks ++ v))).foldl (stripStep (S (u ++ (textP ks ++ v)))) (0, none, []) = ((s' : Int), o, r') := by
      rw [run _ u _ 0 _ hu, Nat.zero_add]
      exact a.trans ho
    rw [hall]
    dsimp only
    have hd : (u ++ (textP ks ++ v)).drop s' = (u ++ textP ks).drop s' ++ v := by rw [← List.append_assoc, List.drop_append_of_le_length b]
    have hlen : (u ++ (textP ks ++ v)).length = (u ++ textP ks).length + v.length := by rw [← List.append_assoc, List.length_append]
    have fin : R' ++ ((u ++ textP ks).drop s' ++ v) = u ++ (textP (no2 ks) ++ v) := by
      rw [← List.append_assoc, d, List.drop_zero, List.nil_append, List.append_assoc]
    by_cases hs : (s' : Int) < ((S (u ++ (textP ks ++ v))).length : Int)
    · rw [if_pos hs, slice_drop _ s' (by omega), join_cat _ _ _ c, hd, fin]
    · rw [if_neg hs, c, ← fin]
      rw [S_len] at hs
      have hv0 : v = [] := List.eq_nil_of_length_eq_zero (by omega)
      rw [hv0, List.append_nil, List.drop_of_length_le (by omega), List.append_nil]
  · rw [strip_none h34]
    rw [List.mem_append, List.mem_append, not_or, not_or] at h34
    rw [mem_pieces ks h34.2.1]
/-- what the check does -/
def stepP (st : Option Int) (k : Nat) : Option Int := match st, k with
  | none, _ => none
  | some o, 0 => some (o + 1)
  | some o, 1 => if o - 1 < 0 then none else some (o - 1)
  | some o, _ => some o
theorem check_pieces : ∀ (ks v : List Nat) (i : Nat) (st : Option Int), (tokList i false (textP (no2 ks) ++ v)).foldl checkStep st = (tokList (i + (textP (no2 ks)).length) false v).foldl checkStep (ks.foldl stepP st) := by
  intro ks
  induction ks with
  | nil => intro v i st; rfl
  | cons k ks ih =>
    intro v i st
    have e : ∀ k l, textP (k :: l) = pieceT k ++ textP l := fun _ _ => rfl
    match k with
    | 0 => rw [no2_ne rfl, e, List.append_assoc, tokP0, List.foldl_cons, checkStep_one, ih, List.foldl_cons, List.length_append]
           have : chkStep st 40 = stepP st 0 := by cases st <;> rfl
           rw [this, show (pieceT 0).length = 1 from rfl, Nat.add_assoc]
    | 1 => rw [no2_ne rfl, e, List.append_assoc, tokP1, List.foldl_cons, List.foldl_cons, checkStep_two, checkStep_one, ih, List.foldl_cons, List.length_append]
           have : chkStep st 41 = stepP st 1 := by cases st <;> rfl
           rw [this, show (pieceT 1).length = 3 from rfl, Nat.add_assoc]
    | 2 => rw [show no2 (2 :: ks) = no2 ks from rfl, ih, List.foldl_cons]
           have : stepP st 2 = st := by cases st <;> rfl
           rw [this]
    | k + 3 => rw [no2_ne rfl, e, List.append_assoc, tokP3, List.foldl_cons, checkStep_two, ih, List.foldl_cons, List.length_append]
               have : stepP st (k + 3) = st := by cases st <;> rfl
               rw [this, show (pieceT (k + 3)).length = 2 from rfl, Nat.add_assoc]
theorem stepP_none : ∀ ks : List Nat, ks.foldl stepP none = none
  | [] => rfl
  | k :: ks => by rw [List.foldl_cons]; exact stepP_none ks
theorem stepP_bal : ∀ (ks : List Nat) (o : Nat), (match ks.foldl stepP (some (o : Int)) with | some z => z == 0 | none => false) = balC o ks ∧ ∀ z, ks.foldl stepP (some (o : Int)) = some z → 0 ≤ z
  | [], o => ⟨by show ((o : Int) == 0) = Nat.beq o 0; rw [Bool.eq_iff_iff, Nat.beq_eq, beq_iff_eq]; omega, fun z h => by have := Option.some.inj h; omega⟩
  | k :: ks, o => by
    rw [List.foldl_cons]
    match k, o with
    | 0, o =>
      rw [show stepP (some (o : Int)) 0 = some ((o + 1 : Nat) : Int) from rfl, show balC o (0 :: ks) = balC (o + 1) ks by cases o <;> rfl]
      exact stepP_bal ks (o + 1)
    | 1, 0 =>
      rw [show stepP (some ((0 : Nat) : Int)) 1 = none from rfl, stepP_none]
      exact ⟨rfl, fun z h => nomatch h⟩
    | 1, o + 1 =>
      rw [show stepP (some ((o + 1 : Nat) : Int)) 1 = some (o : Int) by show (if ((o + 1 : Nat) : Int) - 1 < 0 then none else some (((o + 1 : Nat) : Int) - 1)) = _; rw [if_neg (by omega)]; congr 1; omega]
      exact stepP_bal ks o
    | k + 2, o =>
      rw [show stepP (some (o : Int)) (k + 2) = some (o : Int) from rfl, show balC o ((k + 2) :: ks) = balC o ks by cases o <;> rfl]
      exact stepP_bal ks o
theorem plain_tail {v : List Nat} (hv : ∀ c ∈ v, c ≠ 92 ∧ c ≠ 34) : ∀ (X : Str) (i s : Nat) (res : List Str), ∃ o, (tokList i false v).foldl (stripStep X) ((s : Int), none, res) = ((s : Int), o, res) := by
  intro X i s res
  refine ⟨none, ?_⟩
  induction v generalizing i with
  | nil => rfl
  | cons c r ih =>
    have hc := hv c (List.mem_cons_self ..)
    rw [tokList, if_neg hc.1, List.foldl_cons, stripStep_one X _ i c hc.2]
    exact ih (fun d hd => hv d (List.mem_cons_of_mem _ hd)) (i + 1)
theorem check_text (ks : List Nat) : checkP (S (textP ks)) = balC 0 ks := by
  have h := strip_text [] ks [] (fun _ h => nomatch h) (plain_tail fun _ h => nomatch h) (.inr fun h => nomatch h)
  rw [List.nil_append, List.nil_append, List.append_nil, List.append_nil] at h
  unfold checkP
  rw [h, show (S (textP (no2 ks))).cps.toList = textP (no2 ks) ++ [] by rw [S_def, List.append_nil], check_pieces]
  exact (stepP_bal ks 0).1
theorem check_open (ks : List Nat) : checkP (S (textP ks ++ [40])) = false := by
  have h := strip_text [] ks [40] (fun _ h => nomatch h) (plain_tail (by simp)) (.inr (by simp))
  rw [List.nil_append, List.nil_append] at h
  unfold checkP
  rw [h, show (S (textP (no2 ks) ++ [40])).cps.toList = textP (no2 ks) ++ [40] by rw [S_def], check_pieces]
  have hb := (stepP_bal ks 0).2
  cases e : ks.foldl stepP (some 0) with
  | none => rfl
  | some z =>
    have := hb z e
    show ((z + 1 : Int) == 0) = false
    simp; omega
theorem check_close (ks : List Nat) : checkP (S (([41] ++ textP ks) ++ [40])) = false := by
  have h := strip_text [41] ks [40] (by simp) (plain_tail (by simp)) (.inr (by simp))
  rw [List.append_assoc]
  unfold checkP
  rw [h, show (S ([41] ++ (textP (no2 ks) ++ [40]))).cps.toList = 41 :: (textP (no2 ks) ++ [40]) by rw [S_def]; rfl]
  rw [tokList, if_neg (by decide), List.foldl_cons, checkStep_one, check_pieces, show chkStep (some 0) 41 = none from rfl, stepP_none]
  rfl
theorem check_quote (ks : List Nat) : checkP (S (textP ks ++ [34, 40])) = false := by
  have h := strip_text [] ks [34, 40] (fun _ h => nomatch h) (fun X i s res => ⟨some (i : Int), by
    rw [tokList, if_neg (by decide), List.foldl_cons, stripStep_q0, tokList, if_neg (by decide), List.foldl_cons, stripStep_one _ _ _ _ (by decide)]; rfl⟩) (.inl (by simp))
  rw [List.nil_append, List.nil_append] at h
  unfold checkP
  rw [h, show (S (textP (no2 ks) ++ [34, 40])).cps.toList = textP (no2 ks) ++ [34, 40] by rw [S_def], check_pieces]
  have hb := (stepP_bal ks 0).2
  cases e : ks.foldl stepP (some 0) with
  | none => rfl
  | some z =>
    have := hb z e
    show ((z + 1 : Int) == 0) = false
    simp; omega
end Mine

end
section
open PySem PySem.W PySem.Calls PyProof.Rows
set_option linter.unusedVariables false
set_option maxRecDepth 100000
namespace Mine
def evB (W : List Nat) (i j : Nat) : Bool :=
  bif (maskF W (abc.getD i 0)).getD j false then true else Nat.beq ((crossF W (abc.getD i 0) + crossF W (abc.getD j 0) - hamB (maskF W (abc.getD j 0)) (maskF W (abc.getD i 0))) % 4) 0
def evI (W : List Nat) (i : Nat) : Bool := (List.range i).all fun j => evB W i j
theorem all_succ (p : Nat → Bool) (n : Nat) : (List.range (n + 1)).all p = ((List.range n).all p && p n) := by
  rw [List.range_succ, List.all_append]
  rw [show [n].all p = (p n && true) from rfl, Bool.and_true]
theorem even_yes {W : List Nat} {i j : Nat} (h : (maskF W (abc.getD i 0)).getD j false = true) : evB W i j = true := by unfold evB; rw [h]; rfl
theorem even_no {W : List Nat} (F : FW W) {i j : Nat} (hi : abc.getD i 0 ∈ abc) (hj : abc.getD j 0 ∈ abc) (h : (maskF W (abc.getD i 0)).getD j false = false) :
    ((((popB (maskF W (abc.getD i 0)) : Int) + (popB (maskF W (abc.getD j 0)) : Int)) - (hamB (maskF W (abc.getD j 0)) (maskF W (abc.getD i 0)) : Int)).fmod 4 == 0) = evB W i j := by
  unfold evB
  rw [h, crossF_len, crossF_len, F.cross _ hi, F.cross _ hj]
  have hl := (lev_two W (abc.getD i 0) (abc.getD j 0)).2
  generalize popB (maskF W (abc.getD i 0)) = a at *
  generalize popB (maskF W (abc.getD j 0)) = b at *
  generalize hamB (maskF W (abc.getD j 0)) (maskF W (abc.getD i 0)) = d at *
  rw [Int.fmod_eq_emod_of_nonneg _ (by decide)]
  show _ = Nat.beq _ 0
  rw [Bool.eq_iff_iff, Nat.beq_eq, beq_iff_eq]
  omega
theorem no46w {W : List Nat} (h : ∀ z ∈ W, z ∈ abc) : 46 ∉ W := fun hm => absurd (h 46 hm) (by decide)
theorem t_one {W T : List Nat} (h : ∀ z ∈ W, z ∈ abc) : ellM (S W) (S T) = decide (W = T) := ell_eq (no46w h)
theorem t_more {T : List Nat} (h : ∀ z ∈ T, z ∈ abc) : ellM (S T) (S (T ++ [101])) = false := by
  rw [ell_eq (no46w h), decide_eq_false_iff_not]
  intro e
  have := congrArg List.length e
  simp at this
theorem t_dots {T : List Nat} (h : ∀ z ∈ T, z ∈ abc) (hl : T.length = 10) : ellM (S ((T.take 5 ++ dots) ++ T.drop 5)) (S T) = true := by
  rw [ell_one (fun hm => no46w h (List.mem_of_mem_take hm)) (fun hm => no46w h (List.mem_of_mem_drop hm)) (by rw [List.length_take]; omega) (by rw [List.length_drop]; omega), decide_eq_true_eq]
  rw [List.length_take, List.length_drop, hl]
  exact ⟨by decide, rfl, rfl⟩
theorem t_over {T : List Nat} (h : ∀ z ∈ T, z ∈ abc) (hl : T.length = 10) : ellM (S ((T.take 6 ++ dots) ++ T.drop 5)) (S T) = false := by
  rw [ell_one (fun hm => no46w h (List.mem_of_mem_take hm)) (fun hm => no46w h (List.mem_of_mem_drop hm)) (by rw [List.length_take]; omega) (by rw [List.length_drop]; omega), decide_eq_false_iff_not]
  rw [List.length_take, List.length_drop, hl]
  rintro ⟨q, _⟩
  exact absurd q (by decide)
end Mine

end
section
open PySem PySem.W PySem.Calls PyProof.Rows
set_option linter.unusedVariables false
set_option maxRecDepth 100000
namespace Mine
variable {c : Cx} {Γ Γ₁ Γ' : Tys} {N N₀ N₁ N' : Led} {Q : Flow → Shared → Prop}
/-- from here on generators may be made -/
def Cx.loose (c : Cx) : Cx := { c with keep := false }
theorem Bl.loosen {l : List Stmt} (hk : c.keep = true) (hg : AllBare c.s₁.gens) (h : Bl c.loose Γ N l Q) : Bl c Γ N l Q := by
  intro s hs
  refine h s ?_
  obtain ⟨h', tk, gs, m, rfl, hb, g, r⟩ := hs
  exact ⟨h', tk, gs, m, rfl, (fun _ => by rw [g hk]; exact hg), (fun q => nomatch q), r⟩
/-- for x in e, a text; generators may be made, the ledger stays -/
theorem Bl.forStrG {α : Type} {x : Str} {p1 p4 : Pos} {e : Expr} {body l : List Stmt} {ls : List Nat} {n : Nat} (Γf : Nat → α → Tys) (Inv : Nat → α → Prop) {a₀ : α} (hkp : c.keep = false) (hh : c.A.handled = none)
    (he : Ev c (Γf 0 a₀) e (IsL n ls)) (h0 : Inv 0 a₀) (hf : ∀ i a, fresh x (Γf i a) = true)
    (turn : ∀ i a z, ls[i]? = some z → Inv i a → ∀ N', (∀ q ∈ N, q ∈ N') → Bl c ((x, IsL 1 [z]) :: Γf i a) N' body (TurnP Q fun s' => ∃ a', Inv (i + 1) a' ∧ St c (Γf (i + 1) a') N' s'))
    (done : ∀ a, Inv ls.length a → Bl c (Γf ls.length a) N l Q) (hx : c.env.kindOf x = some .local) (hp : (c.env.scope.kind == .class || (c.env.scope.kind == .module && c.env.locals != c.env.globals)) = false)
    (hs : ∀ v, foldedSetIterable e c.env v = pure v) : Bl c (Γf 0 a₀) N (.For (.Name x p1) e body [] p4 :: l) Q := by
  intro s hs0
  refine wpAny_execs_cons (wpAny_For (wp_then (he _ s hs0) ?_) hs)
  rintro v s₁ ⟨⟨⟨t, rfl⟩, _⟩, h₁⟩
  obtain ⟨h', tk, gs, m₁, rfl, hbr, g, F, Nn, H⟩ := h₁
  refine wpAny_pyIter_strU ?_
  dsimp only
  generalize hI : h'.objs.size = I at *
  have hLI : c.env.locals ≠ I := by rw [← hI]; exact Nat.ne_of_lt F.ns.lt
  have hI0 : c.g.get? I = none := by rw [← hI]; exact next_is_new F
  have hNI : ∀ p ∈ N, p.1 ≠ I := fun p hp => by rw [← hI]; exact Nat.ne_of_lt (Heap.lt_size (Nn p hp).1)
  have main : ∀ ty, Walks c.prog c.w c.A I [I] [I] (S ls).cps.size (SignAt (S ls)) (fun i h => h.IsStrIter I ty (S ls) t i) →
      codeAny (model c.prog c.w) c.A (.forLoop (.Name x p1) (.ref I) body [] c.env) (fun r s' => match r with | .ok f => (match f with | .next => wpAny (model c.prog c.w) c.A (execs l c.env) Q noE s' | f => Q f s') | .error e => cameBackBy (model c.prog c.w) c.A c.env noE e s') { c.s₁ with heap := h'.push { cls := .type ty, data := .fields #[.str (S ls) t, .int 0 0] }, toks := tk, gens := gs } := by
    intro ty W
    have hsz : (S ls).cps.size = ls.length := by simp [S]
    refine codeAny_forLoop
      (fun k s' => ∃ h' tk gs m' i a, s' = { c.s₁ with heap := h', toks := tk, gens := gs } ∧ h'.IsStrIter I ty (S ls) t i ∧ AllBare gs ∧ Fr c.g c.env.locals h' m' ∧ News c.g c.env.locals h' N ∧ Has m' (Γf i a) ∧ Inv i a ∧ i ≤ ls.length ∧ k = ls.length + 1 - i) ?_ (ls.length + 1)
      ⟨_, tk, gs, m₁, 0, a₀, rfl, ⟨_, by rw [← hI]; exact Heap.get?_push_size _ rfl, rfl, rfl⟩, hbr hkp, F.push _, (fun p hp => ⟨Heap.get?_push_of_some _ (Nn p hp).1, (Nn p hp).2⟩), H, h0, Nat.zero_le _, rfl⟩
    rintro k s' ⟨h₂, tk₂, gs₂, m₂, i, a, rfl, st₂, hb₂, F₂, N₂, H₂, hIa, hi, rfl⟩
    have next : ∀ h₃ : Heap, (∀ b o, b ∉ [I] → h₂.get? b = some o → h₃.get? b = some o) → Fr c.g c.env.locals h₃ m₂ ∧ News c.g c.env.locals h₃ N := fun h₃ hk =>
      ⟨⟨F₂.ns.at' fun o e => hk _ o (by simpa using hLI) e, fun b o e => hk b o (fun hm => by rw [List.mem_singleton.mp hm, hI0] at e; cases e) (F₂.keep b o e), F₂.above⟩, fun p hp => ⟨hk _ _ (by simpa using hNI p hp) (N₂ p hp).1, (N₂ p hp).2⟩⟩
    by_cases hlt : i < ls.length
    · refine W.item i _ _ _ (by rw [hsz]; exact hlt) st₂ fun v h₃ tk₃ hP st₃ hk₃ => ?_
      obtain ⟨z, u, hz, rfl⟩ := hP
      obtain ⟨F₃, N₃⟩ := next h₃ hk₃
      have hz' : ls[i]? = some z := by simpa [S] using hz
      refine wpAny_assign_Name (wpAny_storeName_local hx F₃.ns (fun h₄ hn₄ hs₄ => ?_) hp)
      have F₄ := F₃.set hn₄ hs₄
      have N₄ := N₃.set hs₄
      have st₄ : h₄.IsStrIter I ty (S ls) t (i + 1) := W.frame _ _ _ st₃ fun b hb o e => (hs₄.2 b fun q => hLI (by have q' : b = c.env.locals := q; rw [← q']; exact List.mem_singleton.mp hb)).trans e
      obtain ⟨oI, hoI, hoc, hod⟩ := st₄
      have st : St c ((x, IsL 1 [z]) :: Γf i a) (N ++ [(I, oI)]) { c.s₁ with heap := h₄, toks := tk₃ + 1, gens := gs₂ } := ⟨h₄, tk₃ + 1, gs₂, _, rfl, fun _ => hb₂, (fun q => by rw [hkp] at q; cases q), F₄, (fun p hp => by
        rcases List.mem_append.mp hp with hp | hp
        · exact N₄ p hp
        · rw [List.mem_singleton.mp hp]; exact ⟨hoI, Ne.symm hLI, hI0⟩), fun r hr => by
        rcases List.mem_cons.mp hr with rfl | hr
        · exact ⟨.str ⟨#[z]⟩ u, by simp, ⟨u, by rw [S_def]⟩, Nat.le_refl 1⟩
        · obtain ⟨w', hw, hPw⟩ := H₂ r hr
          exact ⟨w', by simp only [if_neg (fresh_ne (hf i a) r hr)]; exact hw, hPw⟩⟩
      refine wp_then (turn i a z hz' hIa (N ++ [(I, oI)]) (fun q hq => List.mem_append_left _ hq) _ st) ?_
      rintro f s₅ hT
      rcases turnCases hT with ⟨v, rfl, hT⟩ | ⟨rfl, a', hIa', h₅, tk₅, gs₅, m₅, e₅, hb₅, _, F₅, N₅, H₅⟩
      · exact hT
      · skip
        exact ⟨ls.length + 1 - (i + 1), by omega, h₅, tk₅, gs₅, m₅, i + 1, a', e₅, ⟨oI, (N₅ _ (List.mem_append_right _ (.head _))).1, hoc, hod⟩, hb₅ hkp, F₅, (fun p hp => N₅ p (List.mem_append_left _ hp)), H₅, hIa', hlt, rfl⟩
    · have hin : i = ls.length := by omega
      subst hin
      refine W.done _ _ _ (by rw [hsz]; exact st₂) fun h₃ tk₃ hk₃ => wpAny_execs_nil ?_
      obtain ⟨F₃, N₃⟩ := next h₃ hk₃
      exact done a hIa _ ⟨h₃, tk₃, gs₂, m₂, rfl, fun _ => hb₂, (fun q => by rw [hkp] at q; cases q), F₃, N₃, H₂⟩
  cases ha : (S ls).cps.all (· < 128)
  · rw [show strIterType (S ls) = "str_iterator" from by simp [strIterType, ha]]
    exact main _ (Walks.strWide hh _ (S ls) t)
  · rw [show strIterType (S ls) = "str_ascii_iterator" from by simp [strIterType, ha]]
    exact main _ (Walks.strAscii hh _ (S ls) t)
/-- values that ask the ledger -/
theorem EvAt.addL {a b : Expr} {p : Pos} {n m : Nat} {l j : List Nat} (ha : EvAt c Γ N a (IsL n l)) (hb : EvAt c Γ N b (IsL m j)) (hs : Nat.ble (n + m) 1000000 = true) : EvAt c Γ N (.BinOp a .Add b p) (IsL (n + m) (l ++ j)) := by
  refine EvAt.bin ha hb ?_
  rintro v v' ⟨⟨t, rfl⟩, hl⟩ ⟨⟨t', rfl⟩, hj⟩ s hst
  exact SB.add (fun t'' k => ⟨⟨⟨t'', by rw [S_cat]⟩, by rw [List.length_append]; omega⟩, hst.toks _⟩) (IsL.fits hl hj hs)
theorem EvAt.modI {a b : Expr} {p : Pos} {i j : Int} (ha : EvAt c Γ N a (IsI i)) (hb : EvAt c Γ N b (IsI j)) (hj : j ≠ 0) : EvAt c Γ N (.BinOp a .Mod b p) (IsI (i.fmod j)) := by
  refine EvAt.bin ha hb ?_
  rintro v v' ⟨t, rfl⟩ ⟨t', rfl⟩ s hst
  exact mod_int' hj ⟨⟨_, rfl⟩, hst.toks _⟩
def EvAAt (c : Cx) (Γ : Tys) (N : Led) (es : List Expr) (Ps : List (Value → Prop)) : Prop := ∀ p s, St c Γ N s → wpAny (model c.prog c.w) c.A (spliced (backTo p (starEach es c.env))) (fun vs s' => AllP Ps vs ∧ St c Γ N s') noE s
theorem EvAAt.nil : EvAAt c Γ N [] [] := fun p s hs => Calls.spliced_nil ⟨trivial, hs⟩
theorem EvAAt.cons {e : Expr} {es : List Expr} {P : Value → Prop} {Ps : List (Value → Prop)} (h : EvAt c Γ N e P) (hr : EvAAt c Γ N es Ps) (h1 : starEach (e :: es) c.env = (false, eval e c.env) :: starEach es c.env) : EvAAt c Γ N (e :: es) (P :: Ps) := by
  intro p s hs
  rw [h1]
  exact Calls.spliced_cons (wp_then (h s hs) fun v s₁ h₁ => wp_then (hr p s₁ h₁.2) fun vs s₂ h₂ => ⟨⟨h₁.1, h₂.1⟩, h₂.2⟩)
theorem EvAt.callA {x : Str} {p p2 : Pos} {e : Expr} {es : List Expr} {f : Value} {Ps : List (Value → Prop)} {R : Value → Prop} (hf : Fc c x f) (ha : EvAAt c Γ N (e :: es) Ps) (hc : ∀ vs, AllP Ps vs → Cn c f vs R)
    (h1 : starEach (e :: es) c.env = (false, eval e c.env) :: starEach es c.env) (h2 : (backTo p2 (starEach es c.env)).any (·.1) = false)
    (he : eval (.Call (.Name x p) (e :: es) [] p2) c.env = (do callWith p2 (← eval (.Name x p) c.env) [] (backTo p2 (starEach (e :: es) c.env)) (backToKw p2 (keywordEach [] c.env)))) : EvAt c Γ N (.Call (.Name x p) (e :: es) [] p2) R := by
  intro s hs
  obtain ⟨m, F⟩ := hs.fr
  refine Call_ (hf.1 p s m _ _ F ?_) he
  refine callWith_K hf.2.2 hf.2.1 ?_ h1 h2
  refine wp_then (ha p2 s hs) fun vs s₂ h₂ => ⟨?_, hc vs h₂.1 Γ N s₂ h₂.2⟩
  obtain ⟨m₂, F₂⟩ := h₂.2.fr
  exact hf.2.2.keeps F₂.keep
theorem EvAt.type1 {x : Str} {T : String} {p p2 : Pos} {e : Expr} {P R : Value → Prop} (hf : Gl c x (.type T)) (ha : EvAt c Γ N e P) (hc : ∀ v, P v → Cn c (.type T) [v] R)
    (h1 : starEach [e] c.env = (false, eval e c.env) :: starEach [] c.env)
    (he : eval (.Call (.Name x p) [e] [] p2) c.env = (do callWith p2 (← eval (.Name x p) c.env) [] (backTo p2 (starEach [e] c.env)) (backToKw p2 (keywordEach [] c.env)))) : EvAt c Γ N (.Call (.Name x p) [e] [] p2) R := by
  intro s hs
  obtain ⟨m, F⟩ := hs.fr
  refine Call_ (hf p s m _ _ F ?_) he
  refine PySem.Pv.callWith_type1 ?_ h1 rfl
  refine wp_then (EvAAt.cons ha EvAAt.nil h1 p2 s hs) fun vs s₂ h₂ => ?_
  have hv := h₂.1
  obtain ⟨v, rfl⟩ := lenP1 hv
  exact hc v hv.1 Γ N s₂ h₂.2
theorem TrAt.or2 {a b : Expr} {p : Pos} (ha : TrAt c Γ N a false) {r : Bool} (hb : TrAt c Γ N b r) : TrAt c Γ N (.BoolOp .Or [a, b] p) r := fun s hs =>
  isTrue_or (wp_then (ha s hs) fun v s₁ h₁ => by
    rw [h₁.1]
    exact isTrue_or (wp_then (hb s₁ h₁.2) fun v s₂ h₂ => by
      rw [h₂.1]
      cases r with
      | true => exact ⟨rfl, h₂.2⟩
      | false => exact isTrue_or_nil ⟨rfl, h₂.2⟩))
theorem op_isB {a b r : Bool} (hr : (a == b) = r) : ∀ v v', IsB a v → IsB b v' → ∀ s Q E, Q (.bool r) s → wpAny (model c.prog c.w) c.A (compareOp .Is v v') Q E s := by
  rintro v v' rfl rfl s Q E h; subst hr; exact is_bool h
/-- a name that lives in a cell -/
theorem EvAt.inCell {x : Str} {p : Pos} {C : Addr} {o : Obj} {v : Value} (hk : c.env.scope.kind = .function) (hx : c.env.kindOf x = some .cell) (hc : c.env.cells.lookup x = some C) (hm : (C, o) ∈ N) (hd : o.data = .cell (some v)) (hb : (x == ("__debug__" : Str)) = false) : EvAt c Γ N (.Name x p) (IsV v) := by
  intro s hs
  have hs0 := hs
  obtain ⟨h', tk, gs, m, rfl, hbr, g, F, Nn, H⟩ := hs
  exact wpAny_Name (wpAny_loadName_cell (s := { c.s₁ with heap := h', toks := tk, gens := gs }) hk hx hc ⟨o, Nn.get hm, hd⟩ ⟨rfl, hs0⟩) hb
theorem Bl.assignCell {x : Str} {p p2 : Pos} {e : Expr} {l : List Stmt} {C : Addr} {o : Obj} {v₀ : Option Value} {P : Value → Prop} (he : Ev c Γ e P) (hk : c.env.scope.kind = .function) (hx : c.env.kindOf x = some .cell) (hc : c.env.cells.lookup x = some C) (hd : o.data = .cell v₀) (hap : ∀ p ∈ N, p.1 ≠ C)
    (hl : ∀ v o', P v → o'.data = .cell (some v) → Bl c Γ ((C, o') :: N) l Q)
    (hs : swapsWith e (some (.Name x p)) p2.line c.env = pure false) : Bl c Γ ((C, o) :: N) (.Assign [.Name x p] e p2 :: l) Q := by
  intro s h
  refine wpAny_execs_cons (wpAny_Assign_Name (wp_then (he _ s h) ?_) hs)
  rintro v s₁ ⟨hv, h', tk, gs, m, rfl, hb, g, F, Nn, H⟩
  have hmem := Nn (C, o) (.head _)
  refine wpAny_storeName_cell (s := { c.s₁ with heap := h', toks := tk, gens := gs }) hk hx hc ⟨o, hmem.1, hd⟩ fun h₂ hv₂ hs₂ => ?_
  obtain ⟨o', ho', hd'⟩ := hv₂
  exact hl v o' hv hd' _ ⟨h₂, tk, gs, m, rfl, hb, g, F.change hs₂ hmem.2.1 hmem.2.2, Nn.setHead hap hs₂ ho', H⟩
/-- x.upper(), of one letter -/
theorem Ev.upper {a : Expr} {p p2 : Pos} {n z : Nat} {pl : Sem Bool} (ha : Ev c Γ a (IsL n [z])) (hz : 97 ≤ z ∧ z ≤ 122)
    (he : eval (.Call (.Attribute a "upper" p) [] [] p2) c.env = (do
      let ov ← eval a c.env
      standAt p.atName
      let (f, first) ← holding [ov] (getMethod ov "upper" pl)
      callWith p2 f first (backTo p2 (starEach [] c.env)) [])) : Ev c Γ (.Call (.Attribute a "upper" p) [] [] p2) (IsL 1 [z - 32]) := by
  intro N s hs
  refine MethodCall_ (pl := pl) (wp_then (ha N s hs) ?_) he
  rintro v s₁ ⟨⟨⟨t, rfl⟩, _⟩, h₁⟩
  refine GM.upper (callWith_method0 ?_)
  refine SCL.upper (by rw [S_len]; simp) fun _ => ⟨⟨⟨s₁.toks, ?_⟩, Nat.le_refl _⟩, h₁.toks _⟩
  rw [show S [z] = ⟨#[z]⟩ by rw [S_def], KOpn.upper_one (by omega), if_pos hz, S_def]
/-- an item of a list of texts -/
theorem EvAt.textAt {x : Str} {px p : Pos} {e : Expr} {D : Addr} {n : Nat} {ls : List (Str × Tok)} {k : Nat} {z : Str} (hx : Ev c Γ (.Name x px) (IsV (.ref D))) (hm : (D, lsT ls n) ∈ N) (he : Ev c Γ e (IsI (k : Int))) (hk : (ls.map (·.1))[k]? = some z) (hl : ls.length ≤ 2000)
    (hs : ∀ {i u}, subscripted e false (.ref D) (.int i u) = operate [.ref D, .int i u] (getItem (.ref D) (.int i u))) (hg : ∀ r, letTemporaryGo (.Name x px) (.ref D) r = pure ()) : EvAt c Γ N (.Subscript (.Name x px) e p) (IsX z) := by
  intro s h
  refine Subscript_ (wp_then (hx N s h) ?_)
  rintro v s₁ ⟨rfl, h₁⟩
  refine wp_then (he N s₁ h₁) ?_
  rintro v s₂ ⟨⟨t', rfl⟩, h₂⟩
  obtain ⟨h', tk, gs, m, rfl, hb, g, F, Nn, H⟩ := h₂
  rw [List.getElem?_map, Option.map_eq_some_iff] at hk
  obtain ⟨q, hq, rfl⟩ := hk
  obtain ⟨hk, _⟩ := List.getElem?_eq_some_iff.mp hq
  exact item_list (x := .str q.1 q.2) (Nn.isList hm) (by omega) (by omega) (by simp [strValues, hq]) ⟨⟨q.2, rfl⟩, h', tk, gs, m, rfl, hb, g, F, Nn, H⟩ hs hg
/-- an item of a text -/
theorem EvAt.itemS {a e : Expr} {p : Pos} {n k : Nat} {l : List Nat} (ha : EvAt c Γ N a (IsL n l)) (he : Ev c Γ e (IsI (k : Int))) (hk : k < l.length) (hn : Nat.ble n 1000000 = true)
    (hs : ∀ {x t i u}, subscripted e false (.str x t) (.int i u) = operate [.str x t, .int i u] (getItem (.str x t) (.int i u))) (ht : ∀ {x t} r, letTemporaryGo a (.str x t) r = pure ()) : EvAt c Γ N (.Subscript a e p) (IsL 1 [l[k]]) := by
  intro s hs'
  refine Subscript_ (wp_then (ha s hs') ?_)
  rintro v s₁ ⟨⟨⟨t, rfl⟩, hl⟩, h₁⟩
  refine wp_then (he N s₁ h₁) ?_
  rintro v s₂ ⟨⟨t', rfl⟩, h₂⟩
  have := Nat.le_of_ble_eq_true hn
  exact item_str (fitsSsize_of (N := 10000000) (by omega) (by omega) (by decide)) (by rw [S_len]; omega) (by rw [S_len]; omega) (fun _ => ⟨⟨⟨_, by rw [item_at l k hk]⟩, Nat.le_refl _⟩, h₂.toks _⟩) hs ht
end Mine

end
section
open PySem PySem.W PySem.Calls PyProof.Rows LCt LCg
set_option linter.unusedVariables false
set_option maxRecDepth 100000
namespace Mine
section
variable {prog : Program} {w : World} {A : Around} {E : Value → Shared → Prop} {s : Shared} {h₀ : Heap} {L : Addr} {m : Str → Option Value} {env : Env} {N : Led}
/-- the test «wn.count(x) == 1» in a comprehension's block, wn in a cell -/
theorem comp_test {C cc : Addr} {oC o : Obj} {m₂ : Str → Option Value} {x wn : Str} {scope : PySem.Scope} {cl : List (Str × Addr)} {z : Nat} {ls : List Nat} {t u : Tok} {p1 p2 p3 p4 p5 p6 : Pos} {k : Nat} {pl : Sem Bool} {Q : Bool → Shared → Prop}
    (hC : s.heap.get? C = some oC) (hns : NsObj oC m₂) (hx : m₂ x = some (.str ⟨#[z]⟩ t)) (hcl : cl.lookup wn = some cc) (hcc : s.heap.get? cc = some o) (hod : o.data = .cell (some (.str (S ls) u)))
    (hk : (compEnvC scope cl C env).scope.kind = .function) (hkx : (compEnvC scope cl C env).kindOf x = some .local) (hkw : (compEnvC scope cl C env).kindOf wn = some .cell) (hb1 : (x == ("__debug__" : Str)) = false) (hb2 : (wn == ("__debug__" : Str)) = false)
    (h1 : starEach [.Name x p3] (compEnvC scope cl C env) = (false, eval (.Name x p3) (compEnvC scope cl C env)) :: starEach [] (compEnvC scope cl C env))
    (he : eval (.Call (.Attribute (.Name wn p1) "count" p2) [.Name x p3] [] p4) (compEnvC scope cl C env) = (do
      let ov ← eval (.Name wn p1) (compEnvC scope cl C env)
      standAt p2.atName
      let (f, first) ← holding [ov] (getMethod ov "count" pl)
      callWith p4 f first (backTo p4 (starEach [.Name x p3] (compEnvC scope cl C env))) []))
    (hQ : ∀ n, Q (Nat.beq (cnt z ls) 1) { s with toks := n }) :
    wpAny (model prog w) A (isTrue (.Compare (.Call (.Attribute (.Name wn p1) "count" p2) [.Name x p3] [] p4) [.Eq] [.Constant (.int 1) k p5] p6) (compEnvC scope cl C env) (eval (.Compare (.Call (.Attribute (.Name wn p1) "count" p2) [.Name x p3] [] p4) [.Eq] [.Constant (.int 1) k p5] p6) (compEnvC scope cl C env))) Q E s := by
  refine wpAny_isTrue_Compare1 (MethodCall_ (pl := pl) (wpAny_Name (wpAny_loadName_cell hk hkw hcl ⟨o, hcc, hod⟩ ?_) hb2) he) rfl
  refine GM.count (callWith_method1 ?_ h1 rfl)
  rw [h1]
  refine Calls.spliced_cons (wpAny_Name (wpAny_loadName_local hk hkx (hns.ns hC) hx (Calls.spliced_nil ?_)) hb1)
  refine SC.count ?_
  refine wpAny_Constant_int ?_
  refine eq_int (wpAny_truthy_bool ?_)
  rw [show (⟨#[z]⟩ : Str) = S [z] by rw [S_def], count_S, beq_cast]
  exact hQ _
/-- [x for x in a text if wn.count(x) == 1] -/
theorem comp_text {cc : Addr} {o : Obj} {x wn : Str} {scope : PySem.Scope} {cl : List (Str × Addr)} {ls : List Nat} {t u : Tok} {iter : Expr} {px p0 p1 p2 p3 p4 p5 p6 pos : Pos} {k : Nat} {pl : Addr → Sem Bool} {Q : Value → Shared → Prop}
    (hh : A.handled = none) (hclos : closureFor scope env = pure cl) (hcell : ∀ y ∈ scope.names, y.2 ≠ .cell) (hkind : scope.kind = .function)
    (hnames : ∀ y ∈ scope.names, y.2 = .local → scope.names.lookup y.1 = some .local) (hx : scope.names.lookup x = some .local)
    (hit : wpAny (model prog w) A (eval iter env) (fun v s' => v = .str (S ls) t ∧ ∃ h' tk, s' = { s with heap := h', toks := tk } ∧ Fr h₀ L h' m ∧ News h₀ L h' N) E s) (hl : ls.length ≤ 1000) (hs : ∀ v, foldedSetIterable iter env v = pure v)
    (hcl : cl.lookup wn = some cc) (hcc : (cc, o) ∈ N) (hod : o.data = .cell (some (.str (S ls) u)))
    (hk : ∀ C, (compEnvC scope cl C env).scope.kind = .function) (hkx : ∀ C, (compEnvC scope cl C env).kindOf x = some .local) (hkw : ∀ C, (compEnvC scope cl C env).kindOf wn = some .cell) (hb1 : (x == ("__debug__" : Str)) = false) (hb2 : (wn == ("__debug__" : Str)) = false)
    (h1 : ∀ C, starEach [.Name x p3] (compEnvC scope cl C env) = (false, eval (.Name x p3) (compEnvC scope cl C env)) :: starEach [] (compEnvC scope cl C env))
    (he : ∀ C, eval (.Call (.Attribute (.Name wn p1) "count" p2) [.Name x p3] [] p4) (compEnvC scope cl C env) = (do
      let ov ← eval (.Name wn p1) (compEnvC scope cl C env)
      standAt p2.atName
      let (f, first) ← holding [ov] (getMethod ov "count" (pl C))
      callWith p4 f first (backTo p4 (starEach [.Name x p3] (compEnvC scope cl C env))) []))
    (fin : ∀ D ys h' tk, Fr h₀ L h' m → News h₀ L h' ((D, lst ys) :: N) → ys.length = (ls.filter fun y => Nat.beq (cnt y ls) 1).length → Q (.ref D) { s with heap := h', toks := tk }) :
    wpAny (model prog w) A (eval (.ListComp (.Name x p0) [⟨.Name x px, iter, [.Compare (.Call (.Attribute (.Name wn p1) "count" p2) [.Name x p3] [] p4) [.Eq] [.Constant (.int 1) k p5] p6], 0⟩] scope pos) env) Q E s := by
  rw [eval_ListComp]
  refine wpAny_comprehension_free (use := none) rfl hs hclos hkind hnames (wpAny_mono hit (fun xv s₁ h₁ => ?_) fun _ _ e => e)
  obtain ⟨rfl, h', tk, rfl, F, Nn⟩ := h₁
  refine wpAny_pyIter_strU ?_
  dsimp only
  have hsz : (S ls).cps.size = ls.length := by simp [S]
  have up : ∀ (ob : Obj) b o, h'.get? b = some o → (h'.push ob).get? b = some o := fun ob b o e => Heap.get?_push_of_some _ e
  have main : ∀ ty, Walks prog w A h'.objs.size [h'.objs.size] [h'.objs.size] (S ls).cps.size (SignAt (S ls)) (fun i h => h.IsStrIter h'.objs.size ty (S ls) t i) → _ := fun ty W =>
    block_T (prog := prog) (w := w) (A := A) (E := E) (h₀ := h₀) (L := L) (m := m) (env := env) (elt := .Name x p0) (ct := .Compare (.Call (.Attribute (.Name wn p1) "count" p2) [.Name x p3] [] p4) [.Eq] [.Constant (.int 1) k p5] p6) (iter := iter) (x := x) (px := px) (scope := scope) (cl := cl) (pos := pos)
      (s₂ := { s with heap := h'.push { cls := .type ty, data := .fields #[.str (S ls) t, .int 0 0] }, toks := tk }) (S := fun nw => nw = N) (news := N) (Fin := fun ys nw => nw = N ∧ ys.length = (ls.filter fun y => Nat.beq (cnt y ls) 1).length)
      (RR := fun acc a r s' => compPost (model prog w) A E none Q acc a r s')
      W (by rw [hsz]; have := sizeLine_eq; omega) (fun i h st => let ⟨o, e, _⟩ := st; ⟨o, e⟩) (fun i h h2 o nw st e e2 _ _ _ => by obtain ⟨o2, e3, r⟩ := st; rw [e] at e3; cases e3; exact ⟨o, e2, r⟩)
      hcell hkind hx ⟨_, Heap.get?_push_size _ rfl, rfl, rfl⟩ (fun b hb => by rw [List.mem_singleton.mp hb]; show _ < (h'.push _).objs.size; rw [Heap.size_push]; exact Nat.lt_succ_self _)
      (F.push _) (Nn.grown (up _)) (Nat.ne_of_lt F.ns.lt) (next_is_new F) (fun p hp => Nat.ne_of_lt (Heap.lt_size (Nn p hp).1)) rfl
      (by
        have key : ∀ (j i : Nat) (ys : List Value), i + j = ls.length → ys.length = ((ls.take i).filter fun y => Nat.beq (cnt y ls) 1).length →
            CompRestT prog w A h₀ L m env (.Compare (.Call (.Attribute (.Name wn p1) "count" p2) [.Name x p3] [] p4) [.Eq] [.Constant (.int 1) k p5] p6) (.Name x p0) x scope cl { s with heap := h'.push { cls := .type ty, data := .fields #[.str (S ls) t, .int 0 0] }, toks := tk } (fun nw => nw = N) (SignAt (S ls))
              (fun ys nw => nw = N ∧ ys.length = (ls.filter fun y => Nat.beq (cnt y ls) 1).length) j i ys N := by
          intro j
          induction j with
          | zero =>
            intro i ys hi hy
            have e : i = ls.length := by omega
            subst e
            rw [List.take_length] at hy
            exact CompRestT.zero ⟨rfl, hy⟩
          | succ j ih =>
            intro i ys hi hy
            refine CompRestT.succ ?_
            intro v I oI C oC D m₂ h tk₂ E' hv hC hxv F₂ N₂ off ne
            obtain ⟨z, t2, hz, rfl⟩ := hv
            replace hz : ls[i]? = some z := by simpa [S] using hz
            have hst : (ls.take (i + 1)).filter (fun y => Nat.beq (cnt y ls) 1) = (ls.take i).filter (fun y => Nat.beq (cnt y ls) 1) ++ (if Nat.beq (cnt z ls) 1 = true then [z] else []) := by
              rw [List.take_add_one, hz, List.filter_append]
              congr 1
              rw [show (some z).toList = [z] from rfl, List.filter_cons]
              rfl
            have hIC : s.heap = s.heap := rfl
            refine comp_test (s := { s with heap := h, toks := tk₂ }) (N₂ _ (.tail _ (.head _))).1 hC hxv hcl (N₂ _ (.tail _ (.tail _ (.tail _ hcc)))).1 hod (hk C) (hkx C) (hkw C) hb1 hb2 (h1 C) (he C) fun n => ?_
            cases hb : Nat.beq (cnt z ls) 1 with
            | true =>
              rw [if_pos rfl]
              refine wpAny_Name (wpAny_loadName_local (hk C) (hkx C) (hC.ns (N₂ _ (.tail _ (.head _))).1) hxv ?_) hb1
              refine ⟨h, n, N, rfl, F₂, N₂, off, rfl, ?_⟩
              refine ih (i + 1) _ (by omega) ?_
              rw [hst, hb, if_pos rfl, List.length_append, List.length_append, hy]; rfl
            | false =>
              rw [if_neg (by simp)]
              refine ⟨h, n, N, rfl, F₂, N₂, off, rfl, ?_⟩
              refine ih (i + 1) _ (by omega) ?_
              rw [hst, hb, if_neg (by simp), List.append_nil]; exact hy
        rw [hsz]
        exact key ls.length 0 [] (by omega) rfl)
      (by
        rintro D C h tk₂ m' ys news' F' N' o1 hn hC₀ hD₀ hCL hDL hCD offC ⟨rfl, hy⟩
        refine ⟨m', hn, fun h'' hs'' => fin D ys h'' tk₂ (F'.change hs'' hCL hC₀) (fun p hp => ?_) hy⟩
        refine ⟨hs''.extBut _ _ ?_ (N' p hp).1, (N' p hp).2⟩
        rcases List.mem_cons.mp hp with rfl | hp
        · exact Ne.symm hCD
        · exact offC p hp)
  cases ha : (S ls).cps.all (· < 128)
  · rw [show strIterType (S ls) = "str_iterator" from by simp [strIterType, ha]]
    exact main _ (Walks.strWide hh _ (S ls) t)
  · rw [show strIterType (S ls) = "str_ascii_iterator" from by simp [strIterType, ha]]
    exact main _ (Walks.strAscii hh _ (S ls) t)
variable {c : Cx} {Γ : Tys} {N : Led}
theorem EvAt.lenComp {C : Addr} {o : Obj} {x wn lenN : Str} {scope : PySem.Scope} {cl : List (Str × Addr)} {ls : List Nat} {t : Tok} {px pi p0 p1 p2 p3 p4 p5 p6 p7 p8 pos : Pos} {k : Nat} {pl : Addr → Sem Bool}
    (hf : Gl c lenN (.builtin "len")) (hh : c.A.handled = none) (hclos : closureFor scope c.env = pure cl) (hcell : ∀ y ∈ scope.names, y.2 ≠ .cell) (hkind : scope.kind = .function)
    (hnames : ∀ y ∈ scope.names, y.2 = .local → scope.names.lookup y.1 = some .local) (hx : scope.names.lookup x = some .local) (hl : ls.length ≤ 1000)
    (hcl : cl.lookup wn = some C) (hm : (C, o) ∈ N) (hod : o.data = .cell (some (.str (S ls) t))) (hek : c.env.scope.kind = .function) (hew : c.env.kindOf wn = some .cell) (hec : c.env.cells.lookup wn = some C)
    (hs : ∀ v, foldedSetIterable (.Name wn pi) c.env v = pure v)
    (hk : ∀ C, (compEnvC scope cl C c.env).scope.kind = .function) (hkx : ∀ C, (compEnvC scope cl C c.env).kindOf x = some .local) (hkw : ∀ C, (compEnvC scope cl C c.env).kindOf wn = some .cell) (hb1 : (x == ("__debug__" : Str)) = false) (hb2 : (wn == ("__debug__" : Str)) = false)
    (h1 : ∀ C, starEach [.Name x p3] (compEnvC scope cl C c.env) = (false, eval (.Name x p3) (compEnvC scope cl C c.env)) :: starEach [] (compEnvC scope cl C c.env))
    (he : ∀ C, eval (.Call (.Attribute (.Name wn p1) "count" p2) [.Name x p3] [] p4) (compEnvC scope cl C c.env) = (do
      let ov ← eval (.Name wn p1) (compEnvC scope cl C c.env)
      standAt p2.atName
      let (f, first) ← holding [ov] (getMethod ov "count" (pl C))
      callWith p4 f first (backTo p4 (starEach [.Name x p3] (compEnvC scope cl C c.env))) []))
    (h2 : starEach [.ListComp (.Name x p0) [⟨.Name x px, .Name wn pi, [.Compare (.Call (.Attribute (.Name wn p1) "count" p2) [.Name x p3] [] p4) [.Eq] [.Constant (.int 1) k p5] p6], 0⟩] scope pos] c.env = (false, eval (.ListComp (.Name x p0) [⟨.Name x px, .Name wn pi, [.Compare (.Call (.Attribute (.Name wn p1) "count" p2) [.Name x p3] [] p4) [.Eq] [.Constant (.int 1) k p5] p6], 0⟩] scope pos) c.env) :: starEach [] c.env)
    (hce : eval (.Call (.Name lenN p7) [.ListComp (.Name x p0) [⟨.Name x px, .Name wn pi, [.Compare (.Call (.Attribute (.Name wn p1) "count" p2) [.Name x p3] [] p4) [.Eq] [.Constant (.int 1) k p5] p6], 0⟩] scope pos] [] p8) c.env = (do callWith p8 (← eval (.Name lenN p7) c.env) [] (backTo p8 (starEach [.ListComp (.Name x p0) [⟨.Name x px, .Name wn pi, [.Compare (.Call (.Attribute (.Name wn p1) "count" p2) [.Name x p3] [] p4) [.Eq] [.Constant (.int 1) k p5] p6], 0⟩] scope pos] c.env)) (backToKw p8 (keywordEach [] c.env)))) :
    EvAt c Γ N (.Call (.Name lenN p7) [.ListComp (.Name x p0) [⟨.Name x px, .Name wn pi, [.Compare (.Call (.Attribute (.Name wn p1) "count" p2) [.Name x p3] [] p4) [.Eq] [.Constant (.int 1) k p5] p6], 0⟩] scope pos] [] p8) (IsI ((ls.filter fun y => Nat.beq (cnt y ls) 1).length : Int)) := by
  intro s hs0
  obtain ⟨h', tk, gs, m, rfl, hb, g, F, Nn, H⟩ := hs0
  refine Call_ (hf p7 _ m _ _ F ?_) hce
  refine PyProof.Rows.callWith_builtin1 ?_ h2
  rw [h2]
  refine Calls.spliced_cons (comp_text (s := { c.s₁ with heap := h', toks := tk, gens := gs }) (t := t) (h₀ := c.g) (L := c.env.locals) (m := m) (N := N) hh hclos hcell hkind hnames hx ?_ hl hs hcl hm hod hk hkx hkw hb1 hb2 h1 he ?_)
  · exact wpAny_Name (wpAny_loadName_cell (s := { c.s₁ with heap := h', toks := tk, gens := gs }) hek hew hec ⟨o, Nn.get hm, hod⟩ ⟨rfl, h', tk, rfl, F, Nn⟩) hb2
  · intro D ys h₂ tk₂ F₂ N₂ hy
    refine Calls.spliced_nil ?_
    have hle : ys.length ≤ 1000 := by rw [hy]; exact Nat.le_trans (List.length_filter_le _ _) hl
    have hsz : ys.toArray.size = ys.length := by simp
    exact len_list (s := { c.s₁ with heap := h₂, toks := tk₂, gens := gs }) (N₂.isList (.head _)) (by rw [hsz]; omega) ⟨⟨_, by rw [hsz, hy]⟩, h₂, _, gs, m, rfl, hb, g, F₂, fun q hq => N₂ q (.tail _ hq), H⟩
end
end Mine

end
section
open PySem PySem.W PySem.Calls PyProof.Rows
set_option linter.unusedVariables false
set_option maxRecDepth 100000
set_option maxHeartbeats 6000000
namespace Mine
theorem len63 {vs : List Value} {ns : List Int} (_ : IntsAre vs ns) (h : ns.length ≤ 63) : ns.length ≤ 1000 := Nat.le_trans h (by decide)
theorem lqA : Str.ofString "abcde" = S abc := by rw [S_def]; decide
theorem lqD : Str.ofString "..." = S dots := by rw [S_def]; decide
theorem lqE : Str.ofString "e" = S [101] := by rw [S_def]; decide
theorem lqP : Str.ofString "." = S [46] := by rw [S_def]; decide
theorem lqO : Str.ofString "(" = S [40] := by rw [S_def]; decide
theorem lqC : Str.ofString ")" = S [41] := by rw [S_def]; decide
theorem lqQ : Str.ofString "\"(" = S [34, 40] := by rw [S_def]; decide
theorem lqN : Str.ofString "" = S [] := by rw [S_def]; rfl
local macro_rules | `(tactic| walk_at "ev_lit") => `(tactic| first | exact lqA | exact lqD | exact lqE | exact lqP | exact lqO | exact lqC | exact lqQ | exact lqN)
@[reducible] noncomputable def cx (w : World) (A : Around) (env : Env) (g : Heap) (s₁ : Shared) (k : Bool) : Cx := ⟨PySem.Challenge.rw_rw0063_01.row.prog, w, A, env, g, s₁, Mine.hd.heap_39 w.params, k⟩
section
variable {w : World} {A : Around} {env : Env} {g : Heap} {s₁ : Shared} {k : Bool} {n m : Nat} {l j : List Nat} {b : Bool} {z : Int} {N : Led}
theorem cn_check (X : Fnc (cx w A env g s₁ false) Mine.hd.view_39 5) (hb : checkP (S l) = b) (hn : Nat.ble n 1000 = true) : ∀ vs, AllP [IsL n l] vs → Cn (cx w A env g s₁ false) (.ref 35) vs (IsB b) := fun vs hv => by
    obtain ⟨v1, rfl⟩ := lenP1 hv
    obtain ⟨⟨⟨t, rfl⟩, hl⟩, _⟩ := hv
    subst hb
    exact cn_fnG (check_fn w (S l) t (by rw [S_len]; exact Nat.le_trans hl (Nat.le_of_ble_eq_true hn))) X rfl rfl
theorem cn_ell (X : Fnc (cx w A env g s₁ k) Mine.hd.view_39 5) (hb : ellM (S l) (S j) = b) (hn : (Nat.ble n 1000 && Nat.ble m 1000) = true) : ∀ vs, AllP [IsL n l, IsL m j] vs → Cn (cx w A env g s₁ k) (.ref 42) vs (IsB b) := fun vs hv => by
    obtain ⟨v1, v2, rfl⟩ := lenP2 hv
    obtain ⟨⟨⟨t, rfl⟩, hl⟩, ⟨⟨u, rfl⟩, hj⟩, _⟩ := hv
    rw [Bool.and_eq_true] at hn
    subst hb
    exact cn_fn (ell_fn w (S l) (S j) t u (by rw [S_len]; exact Nat.le_trans hl (Nat.le_of_ble_eq_true hn.1)) (by rw [S_len]; exact Nat.le_trans hj (Nat.le_of_ble_eq_true hn.2))) X rfl fun v own h => h.1
theorem cn_lev (X : Fnc (cx w A env g s₁ k) Mine.hd.view_39 5) {r : Int} (hr : levM l j z = r) (hn : (Nat.ble n 1000 && Nat.ble m 1000) = true) : ∀ vs, AllP [IsL n l, IsL m j, IsI z] vs → Cn (cx w A env g s₁ k) (.ref 56) vs (IsI r) := fun vs hv => by
    obtain ⟨v1, v2, v3, rfl⟩ := lenP3 hv
    obtain ⟨⟨⟨t, rfl⟩, hl⟩, ⟨⟨u, rfl⟩, hj⟩, ⟨v, rfl⟩, _⟩ := hv
    rw [Bool.and_eq_true] at hn
    subst hr
    exact cn_fn (lev_fn w l j z t u v (Nat.le_trans hl (Nat.le_of_ble_eq_true hn.1)) (Nat.le_trans hj (Nat.le_of_ble_eq_true hn.2))) X rfl fun v own h => h.1
theorem cn_word {l : Addr} {vs : List Value} {ns : List Int} (X : Fnc (cx w A env g s₁ k) Mine.hd.view_39 5) (hi : IntsAre vs ns) (hns : ns.length ≤ 1000) (hL : g.IsList l vs.toArray) : ∀ us, AllP [IsV (.ref l)] us → CnNAt (cx w A env g s₁ k) N (.ref 63) us isW := fun vs hv => by
    obtain ⟨v1, rfl⟩ := lenP1 hv
    obtain ⟨rfl, _⟩ := hv
    exact cnN_fnH (word_fn w l vs ns hi hns) X rfl hL
theorem cn_turned (X : Fnc (cx w A env g s₁ k) Mine.hd.view_39 5) (hx : ∀ c ∈ j, l.count c = 2) : ∀ vs, AllP [IsL 10 l, IsL 5 j] vs → Cn (cx w A env g s₁ k) (.ref 70) vs (IsL 10 (turnL l j)) := fun vs hv => by
    obtain ⟨v1, v2, rfl⟩ := lenP2 hv
    obtain ⟨⟨⟨t, rfl⟩, hl⟩, ⟨⟨u, rfl⟩, hj⟩, _⟩ := hv
    exact cn_fn (turned_fn w l j t u hx hl hj) X rfl fun v own h => ⟨h.1, by rw [(turns_perm j l hx).length_eq]; exact hl⟩
theorem cn_pages {pg : List (Nat × Int)} {W : List Nat} (X : Fnc (cx w A env g s₁ k) Mine.hd.view_39 5) (F : FT W l pg) : ∀ vs, AllP [IsL 10 l] vs → CnN (cx w A env g s₁ k) (.ref 77) vs (isPg PySem.Challenge.rw_rw0063_01.row.prog w pg) := fun vs hv => by
    obtain ⟨v1, rfl⟩ := lenP1 hv
    obtain ⟨⟨⟨t, rfl⟩, hl⟩, _⟩ := hv
    exact cnN_fn (pages_fn w l t pg F.two F.sub hl F.pages (Nat.le_trans F.short (by decide))) X rfl
theorem cn_stretch {pg : List (Nat × Int)} {W : List Nat} {x : Nat} {D : Addr} {o : Obj} (X : Fnc (cx w A env g s₁ k) Mine.hd.view_39 5) (F : FT W l pg) (hx : x ∈ abc) (lo : (D == sysModules) = false) (hpg : IsPg PySem.Challenge.rw_rw0063_01.row.prog w o pg) (hm : (D, o) ∈ N) :
    ∀ vs, AllP [IsL 10 l, IsV (.ref D), IsL 1 [x]] vs → CnNAt (cx w A env g s₁ k) N (.ref 84) vs (isS (S (textP (piecesC l pg x 0 (midW x l))))) := fun vs hv => by
    obtain ⟨v1, v2, v3, rfl⟩ := lenP3 hv
    obtain ⟨⟨⟨t, rfl⟩, hl⟩, rfl, ⟨⟨u, rfl⟩, _⟩, _⟩ := hv
    exact cnN_fnH (stretch_fn w l x t u D o pg (F.two x hx) F.sub hx hl lo hpg F.all) X rfl hm
end
theorem Bl.unpack2Ex {c : Cx} {Γ Γ' : Tys} {N : Led} {Q : Flow → Shared → Prop} {α : Type} {x y : Str} {p1 p2 p3 p4 : Pos} {k : Nat} {e : Expr} {l : List Stmt} {Rz : α → Prop} {P P' : α → Value → Prop} {R : Value → Led → Prop} (he : EvNAt c Γ N e R) (hR : ∀ v own, R v own → ∃ z, Rz z ∧ ∃ T a b, v = .ref T ∧ (T, tupOf [a, b]) ∈ own ∧ P z a ∧ P' z b) (hh : c.A.handled = none)
    (hk : ∀ z, Rz z → Bl c ((y, P' z) :: (x, P z) :: Γ') N l Q) (hsub : ∀ q ∈ Γ', q ∈ Γ) (hf : fresh x Γ' = true) (hf2 : ∀ z, fresh y ((x, P z) :: Γ') = true)
    (hx : c.env.kindOf x = some .local) (hy : c.env.kindOf y = some .local) (hp : (c.env.scope.kind == .class || (c.env.scope.kind == .module && c.env.locals != c.env.globals)) = false)
    (hs : swapsWithSole [.Tuple [.Name x p1, .Name y p2] k p3] e p4.line c.env = pure false) (hw : swappedStores [.Tuple [.Name x p1, .Name y p2] k p3] e c.env = pure none) :
    Bl c Γ N (.Assign [.Tuple [.Name x p1, .Name y p2] k p3] e p4 :: l) Q := by
  intro s h
  refine wpAny_execs_cons (Assign_Tuple (wp_then (he s h) ?_) hs hw)
  rintro v s₁ ⟨own, hv, _, h₁⟩
  obtain ⟨z, hz, T, a, b, rfl, hm, ha, hb⟩ := hR v own hv
  exact wp_then (assign2 (P := P z) (P' := P' z) (h₁.weak hsub) (List.mem_append_left _ hm) ha hb hh hf (hf2 z) hx hy hp) fun _ s₂ h₂ => hk z hz s₂ (h₂.led fun q hq => List.mem_append_right _ hq)
theorem all2 {α : Type} {p : α → Prop} {a b : α} (h1 : p a) (h2 : p b) : ∀ r ∈ [a, b], p r := by
  simp only [List.forall_mem_cons]
  exact ⟨h1, h2, by simp⟩
/-- the state of the first loop -/
structure LpSt where
  oc : Obj
  v0 : Option Value
  rl : List (Str × Tok)
  n1 : Nat
  cl : List (Int × Tok)
  n2 : Nat
def LInv (W : List Nat) (i : Nat) (a : LpSt) : Prop :=
  a.oc.data = .cell a.v0 ∧ a.rl.map (·.1) = (abc.take i).map (fun x => S (rowS W x)) ∧ a.cl.map (·.1) = (abc.take i).map (fun x => (popB (maskF W x) : Int))
/-- the row under way -/
def rowT (W : List Nat) (x j : Nat) : List Nat := (abc.take j).map fun y => bif great W x y then y - 32 else y
def rowG (W : List Nat) : Nat → Tys
  | 0 => []
  | i + 1 => [("row", IsL 5 (rowS W (abc.getD i 0)))]
def textG (T : List Nat) (pg : List (Nat × Int)) : Nat → Tys
  | 0 => []
  | i + 1 => [("text", IsL 50 (textP (piecesC T pg (abc.getD i 0) 0 (midW (abc.getD i 0) T))))]
theorem abc_at {i x : Nat} (h : abc[i]? = some x) : abc.getD i 0 = x ∧ x ∈ abc ∧ i < 5 := by
  refine ⟨by rw [List.getD_eq_getElem?_getD, h]; rfl, List.mem_of_getElem? h, ?_⟩
  exact (List.getElem?_eq_some_iff.mp h).1
theorem rowT_succ {W : List Nat} {x j y : Nat} (h : abc[j]? = some y) : rowT W x (j + 1) = rowT W x j ++ [bif great W x y then y - 32 else y] := by
  unfold rowT; rw [List.take_add_one, h, List.map_append]; rfl
theorem rowT_len (W : List Nat) (x j : Nat) : (rowT W x j).length ≤ 5 := by
  unfold rowT; rw [List.length_map, List.length_take]; exact Nat.min_le_right _ _
theorem abc_low {y : Nat} (h : y ∈ abc) : 97 ≤ y ∧ y ≤ 122 := by
  have : ∀ z ∈ abc, 97 ≤ z ∧ z ≤ 122 := by decide
  exact this y h
theorem rows_snoc {W : List Nat} {i x : Nat} {ls : List (Str × Tok)} {t : Tok} (h : abc[i]? = some x) (hl : ls.map (·.1) = (abc.take i).map (fun x => S (rowS W x))) : (ls ++ [(S (rowS W x), t)]).map (·.1) = (abc.take (i + 1)).map (fun x => S (rowS W x)) := by
  rw [List.map_append, hl, List.take_add_one, h, List.map_append]; rfl
theorem cnts_snoc {W : List Nat} {i x : Nat} {ls : List (Int × Tok)} {t : Tok} (h : abc[i]? = some x) (hl : ls.map (·.1) = (abc.take i).map (fun x => (popB (maskF W x) : Int))) : (ls ++ [((popB (maskF W x) : Int), t)]).map (·.1) = (abc.take (i + 1)).map (fun x => (popB (maskF W x) : Int)) := by
  rw [List.map_append, hl, List.take_add_one, h, List.map_append]; rfl
theorem len_of {α β : Type} {ls : List α} {f : α → β} {g : Nat → β} {i : Nat} (h : ls.map f = (abc.take i).map g) (hi : i ≤ 5) : ls.length = i := by
  have := congrArg List.length h
  rw [List.length_map, List.length_map, List.length_take] at this
  rw [this]; exact Nat.min_eq_left hi
end Mine

end
section
open PySem PySem.W PySem.Calls PyProof.Rows
set_option linter.unusedVariables false
set_option maxRecDepth 100000
set_option maxHeartbeats 6000000
namespace Mine
local macro_rules | `(tactic| walk_at "ev_lit") => `(tactic| first | exact lqA | exact lqD | exact lqE | exact lqP | exact lqO | exact lqC | exact lqQ | exact lqN)
local macro_rules | `(tactic| walk_at "ev") => `(tactic| ((with_reducible refine' Ev.sub ?ea ?eb); (case ea => walk_at "ev"); (case eb => walk_at "ev")))
theorem law_fn : PySem.Challenge.rw_rw0063_01.Holds := by
  refine hd ?_
  k_fill
  intro w s₀ s₁ mg mb G Y fa o pm cd doc dV kV ho hd1 hcd hD hmg hg0 args vals as hpre hlay hrd hwl hlo
  have KX := kIn_of Y
  have XX := (Ground.X G).1
  have V := (Ground.X G).2
  try w_nolog (first | (have GL := glob_more (Ground.glob G (by first | k_qdec | decide +kernel) (by first | k_qdec | decide +kernel)) V) | (have GL := glob_more (Ground.glob G (by decide +kernel)) V))
  refine Ground.open G ?_
  intro T B D TE TW
  try (refine guard_noD D (by decide +kernel) ?_; clear D)
  obtain ⟨_, _, M⟩ := bmod_of_top T
  have TA := at_of_top T
  try (obtain ⟨_, _, he, B0⟩ := based_of_top T rfl hmg ho hd1; have he' : cd = _ := he; subst he'; clear he)
  clear hmg
  wrow_args hpre hlay hrd hwl hlo
  first | refine callC_kw (enter_call ?_) | refine enter_call ?_ | refine callC_kw (enter_callW ?_) | refine enter_callW ?_ | w_how
  w_top on
  have K0 := below_caller (Top.heap T)
  w_call any ho hd1 hcd hD T F
  clear hd1 TA
  k_drop
  all_goals try k_fold
  with_reducible rename IntsAre _ _ => hI9
  with_reducible rename Heap.IsList _ _ _ => hL9
  with_reducible rename Fr _ _ _ _ => F0
  with_reducible rename News _ _ _ _ => N0
  with_reducible rename _ = Data.cell _ => hoc0
  with_reducible rename Obj => oC
  have hb0 : AllBare s₁.gens := by intro y hy; rw [hg0] at hy; simp at hy
  have hns9 := len63 hI9 (by omega)
  refine' withB (c := cx w (callerA.deeper _) (envOfC _ _ _ _ _) s₁.heap s₁ true) ?_
  intro c
  have X : Fnc c Mine.hd.view_39 5 := ⟨_, _, _, _, _, _, _, _, _, _, _, _, [], _, _, rfl, K0, KX, T, by decide, by ktr_room, by ktr_units⟩
  have hh : c.A.handled = none := rfl
  have Fword : Fc c "_law_word" (.ref 63) := ⟨fun p s m Q E F h => nameX_K F KX (topRead_of T) rfl h rfl rfl (by decide), rfl, KX⟩
  have Fturned : Fc c "_law_turned" (.ref 70) := ⟨fun p s m Q E F h => nameX_K F KX (topRead_of T) rfl h rfl rfl (by decide), rfl, KX⟩
  have Fpages : Fc c "_law_pages" (.ref 77) := ⟨fun p s m Q E F h => nameX_K F KX (topRead_of T) rfl h rfl rfl (by decide), rfl, KX⟩
  have Fstretch : Fc c "_law_stretch" (.ref 84) := ⟨fun p s m Q E F h => nameX_K F KX (topRead_of T) rfl h rfl rfl (by decide), rfl, KX⟩
  have Fcheck : Fc c "_check_parenthesis" (.ref 35) := ⟨fun p s m Q E F h => nameX_K F KX (topRead_of T) rfl h rfl rfl (by decide), rfl, KX⟩
  have Fell : Fc c "_ellipsis_match" (.ref 42) := ⟨fun p s m Q E F h => nameX_K F KX (topRead_of T) rfl h rfl rfl (by decide), rfl, KX⟩
  have Flev : Fc c "_levenshtein_distance" (.ref 56) := ⟨fun p s m Q E F h => nameX_K F KX (topRead_of T) rfl h rfl rfl (by decide), rfl, KX⟩
  have Glen : Gl c "len" (.builtin "len") := fun p s m Q E F h => nameX_B F KX (topRead_of T) rfl boot_len (by decide) h rfl rfl (by decide)
  have Grange : Gl c "range" (.type "range") := fun p s m Q E F h => nameX_B F KX (topRead_of T) rfl boot_range (by decide) h rfl rfl (by decide)
  have Gtype : Gl c "type" (.type "type") := fun p s m Q E F h => nameX_B F KX (topRead_of T) rfl boot_type (by decide) h rfl rfl (by decide)
  have Gint : Gl c "int" (.type "int") := fun p s m Q E F h => nameX_B F KX (topRead_of T) rfl boot_int (by decide) h rfl rfl (by decide)
  have hlk : c.env.cells.lookup (Str.ofString "within") = some (s₁.heap.objs.size + 1) := rfl
  replace hoc0 : _ = Data.cell none := hoc0
  obtain ⟨C, hCe⟩ : ∃ C, C = s₁.heap.objs.size + 1 := ⟨_, rfl⟩
  rw [← hCe] at hlk N0
  try clear hD
  try clear GL
  try clear V
  try clear TE
  try clear TW
  try clear B
  with_reducible rename CellsAre _ _ _ => hCA
  try clear hCA
  refine Bl.run (c := c) (Γ := [("script", IsV (.ref _))]) (N := [(C, oC)]) ?_ ⟨_, _, s₁.gens, _, rfl, (fun q : true = false => Bool.noConfusion q), fun _ => rfl, F0, N0, fun q hq => by rw [List.mem_singleton.mp hq]; exact ⟨_, rfl, rfl⟩⟩
  refine' Bl.unpack2Ex (α := List Nat × List Nat) (Rz := fun z => z.1.Perm abc ∧ z.2.Perm abc) (P := fun z => IsL 10 (inter abc z.1)) (P' := fun z => IsL 5 z.2) (EvNAt.call Fword (EvA.cons ?s1 EvA.nil rfl) (cn_word X hI9 hns9 hL9) rfl rfl rfl) ?s2 hh ?s3 sub_refl rfl (fun _ => rfl) rfl rfl rfl rfl rfl
  case s1 => walk_at "ev"
  case s2 =>
    rintro v own ⟨T, t1, t2, r, o, rfl, rfl, hr, ho⟩
    exact ⟨(r, o), ⟨hr, ho⟩, T, _, _, rfl, .head _, ⟨⟨t1, rfl⟩, inter_len abc r⟩, ⟨⟨t2, rfl⟩, Nat.le_of_eq ho.length_eq⟩⟩
  rintro ⟨r, o⟩ ⟨hr, ho⟩
  dsimp only at hr ho ⊢
  obtain ⟨pg, FT⟩ := turn_facts hr ho
  have FW := word_facts hr
  generalize inter abc r = W at *
  have hWl : W.length ≤ 10 := Nat.le_of_eq FW.len
  refine' Bl.swap2N EvN.list0 EvN.list0 hh ?s4 (Γ' := [("order", IsL 5 o), ("word", IsL 10 W)]) ?s5 rfl (fun _ => rfl) rfl rfl rfl rfl rfl rfl rfl
  case s5 => walk_at "sub"
  rintro _ _ _ _ ⟨R, rfl, rfl⟩ ⟨K, rfl, rfl⟩ hR hK
  have hRC : R ≠ C := Nat.ne_of_gt (hR _ (.head _) _ (.head _))
  have hKR : K ≠ R := Nat.ne_of_gt (hK _ (.head _) _ (.head _))
  have hKC : K ≠ C := Nat.ne_of_gt (hK _ (.head _) _ (.tail _ (.head _)))
  refine Bl.led (N₁ := [(C, oC), (R, lsT [] 0), (K, lsI [] 0)] ++ []) (fun q hq => ?_) ?_
  · rcases List.mem_cons.mp hq with rfl | hq
    · exact .tail _ (.tail _ (.head _))
    · rcases List.mem_cons.mp hq with rfl | hq
      · exact .tail _ (.head _)
      · rw [List.mem_singleton.mp hq]; exact .head _
  refine' Bl.forStrA (n := 5) (ls := abc) (N := []) (a₀ := (⟨oC, none, [], 0, [], 0⟩ : LpSt)) (fun i a => rowG W i ++ ([("rows", IsV (.ref R)), ("counts", IsV (.ref K)), ("order", IsL 5 o), ("word", IsL 10 W)] : Tys)) (fun i a => [(C, a.oc), (R, lsT a.rl a.n1), (K, lsI a.cl a.n2)]) (LInv W) rfl hh ?e1 ?h0 ?hf ?hdis ?turn ?done rfl rfl (fun _ => rfl)
  case e1 => walk_at "ev"
  case h0 => exact ⟨hoc0, rfl, rfl⟩
  case hf => intro i a; cases i <;> rfl
  case hdis => exact fun _ _ _ _ _ _ h => nomatch h
  case turn =>
    rintro i a x hx ⟨hod, hrl, hcl⟩ N' hN' hap
    obtain ⟨hxi, hxa, hi5⟩ := abc_at hx
    have hrC : ∀ r ∈ N', r.1 ≠ C := fun r hr => hap _ (.head _) r hr
    have hrR : ∀ r ∈ N', r.1 ≠ R := fun r hr => hap _ (.tail _ (.head _)) r hr
    have hrK : ∀ r ∈ N', r.1 ≠ K := fun r hr => hap _ (.tail _ (.tail _ (.head _))) r hr
    refine Bl.weak (Γ₁ := [("x", IsL 1 [x]), ("rows", IsV (.ref R)), ("counts", IsV (.ref K)), ("order", IsL 5 o), ("word", IsL 10 W)]) (fun q hq => ?_) ?_
    · rcases List.mem_cons.mp hq with rfl | hq
      · exact .head _
      · exact .tail _ (List.mem_append_right _ hq)
    refine' Bl.assignCell (P := IsL 10 (midW x W)) (Ev.splitMid (n := 10) (m := 1) (d := x) ?a1 ?a2 (FW.two x hxa) rfl rfl rfl rfl) rfl rfl hlk hod ?a3 ?a4 rfl
    case a1 => walk_at "ev"
    case a2 => walk_at "ev"
    case a3 =>
      intro p hp
      rcases List.mem_cons.mp hp with rfl | hp
      · exact hRC
      · rcases List.mem_cons.mp hp with rfl | hp
        · exact hKC
        · exact hrC p hp
    rintro v oc' ⟨⟨tw, rfl⟩, hwl⟩ hod'
    refine' Bl.cons (Ex.assign (Ev.litM 5 lqN rfl) sub_refl rfl rfl rfl rfl) ?b1
    refine' Bl.forStrA (n := 5) (ls := abc) (N := (C, oc') :: (R, lsT a.rl a.n1) :: (K, lsI a.cl a.n2) :: N') (a₀ := ()) (fun j _ => [("row", IsL 5 (rowT W x j)), ("x", IsL 1 [x]), ("rows", IsV (.ref R)), ("counts", IsV (.ref K)), ("order", IsL 5 o), ("word", IsL 10 W)]) (fun _ _ => []) (fun _ _ => True) rfl hh ?c1 trivial (fun _ _ => rfl) (fun _ _ _ _ h => nomatch h) ?turn2 ?done2 rfl rfl (fun _ => rfl)
    case c1 => walk_at "ev"
    case turn2 =>
      intro j _ y hy _ N2 hN2 _
      obtain ⟨_, hya, _⟩ := abc_at hy
      have hyl := abc_low hya
      have W9 : ∀ {Γ p}, EvAt c Γ ([] ++ N2) (.Name "within" p) (IsL 10 (midW x W)) := fun {Γ p} => EvAt.mono (EvAt.inCell rfl rfl hlk (hN2 _ (.head _)) hod' rfl) fun v h => by rw [show v = _ from h]; exact ⟨⟨tw, rfl⟩, hwl⟩
      refine' Bl.cons (Ex.assignAt (P := IsB (elA x y (midW x W))) (EvAt.callA Fell (EvAAt.cons (Ev.at ?d1) (EvAAt.cons (EvAt.addL (n := 1 + 10) (m := 1) (EvAt.addL (n := 1) (m := 10) (Ev.at ?d2) W9 rfl) (Ev.at ?d3) rfl) EvAAt.nil rfl) rfl) ?d4 rfl rfl rfl) sub_refl rfl rfl rfl rfl) ?d5
      case d1 => walk_at "ev"
      case d2 => walk_at "ev"
      case d3 => walk_at "ev"
      case d4 => exact cn_ell X rfl rfl
      have hln := rowT_len W x (j + 1)
      rw [rowT_succ hy] at hln ⊢
      have he1 := FW.e1 x hxa y hya
      cases hg : great W x y with
      | true =>
        rw [hg] at he1 hln
        refine' Bl.ifT (TrAt.eq (TrAt.and2 (Tr.cmp ?f1 Ev.bool (op_isB rfl) rfl) (fun _ => TrAt.cmp (EvAt.callA Fell (EvAAt.cons (Ev.at ?f2) (EvAAt.cons (EvAt.addL (n := 1 + 10) (m := 1) (EvAt.addL (n := 1) (m := 10) (Ev.at ?f3) W9 rfl) (Ev.at ?f4) rfl) EvAAt.nil rfl) rfl) ?f5 rfl rfl rfl) (Ev.at Ev.bool) (op_isB rfl) rfl)) ?f6)
          (Bl.cons (Ex.aug (R := IsL 5 (rowT W x j ++ [y - 32])) ?f7 (Ev.upper ?f8 hyl rfl) (iop_mono (iop_addL (n := 5) (m := 1) rfl) fun v h => ⟨h.1, hln⟩) (Γ' := [("x", IsL 1 [x]), ("rows", IsV (.ref R)), ("counts", IsV (.ref K)), ("order", IsL 5 o), ("word", IsL 10 W)]) ?f9 rfl rfl rfl rfl)
            (Bl.nx (Bl.nil fun s' st => ⟨(), trivial, (fun q hq => nomatch hq), st⟩)))
        case f1 => walk_at "ev"
        case f2 => walk_at "ev"
        case f3 => walk_at "ev"
        case f4 => walk_at "ev"
        case f5 => exact cn_ell X (b := elB x y (midW x W)) rfl rfl
        case f6 => cases h1 : elA x y (midW x W) <;> cases h2 : elB x y (midW x W) <;> rw [h1, h2] at he1 <;> first | rfl | cases he1
        case f7 => walk_at "ev_in"
        case f8 => walk_at "ev"
        case f9 => walk_at "sub"
      | false =>
        rw [hg] at he1 hln
        refine' Bl.ifE (TrAt.eq (TrAt.and2 (Tr.cmp ?g1 Ev.bool (op_isB rfl) rfl) (fun _ => TrAt.cmp (EvAt.callA Fell (EvAAt.cons (Ev.at ?g2) (EvAAt.cons (EvAt.addL (n := 1 + 10) (m := 1) (EvAt.addL (n := 1) (m := 10) (Ev.at ?g3) W9 rfl) (Ev.at ?g4) rfl) EvAAt.nil rfl) rfl) ?g5 rfl rfl rfl) (Ev.at Ev.bool) (op_isB rfl) rfl)) ?g6)
          (Bl.cons (Ex.aug (R := IsL 5 (rowT W x j ++ [y])) ?g7 ?g8 (iop_mono (iop_addL (n := 5) (m := 1) rfl) fun v h => ⟨h.1, hln⟩) (Γ' := [("x", IsL 1 [x]), ("rows", IsV (.ref R)), ("counts", IsV (.ref K)), ("order", IsL 5 o), ("word", IsL 10 W)]) ?g9 rfl rfl rfl rfl)
            (Bl.nx (Bl.nil fun s' st => ⟨(), trivial, (fun q hq => nomatch hq), st⟩)))
        case g1 => walk_at "ev"
        case g2 => walk_at "ev"
        case g3 => walk_at "ev"
        case g4 => walk_at "ev"
        case g5 => exact cn_ell X (b := elB x y (midW x W)) rfl rfl
        case g6 => cases h1 : elA x y (midW x W) <;> cases h2 : elB x y (midW x W) <;> rw [h1, h2] at he1 <;> first | rfl | cases he1
        case g7 => walk_at "ev_in"
        case g8 => walk_at "ev"
        case g9 => walk_at "sub"
    case done2 =>
      intro _ _
      have hrow : rowT W x abc.length = rowS W x := rfl
      rw [hrow]
      have W9 : ∀ {Γ p}, EvAt c Γ ([] ++ ((C, oc') :: (R, lsT a.rl a.n1) :: (K, lsI a.cl a.n2) :: N')) (.Name "within" p) (IsL 10 (midW x W)) := fun {Γ p} => EvAt.mono (EvAt.inCell rfl rfl hlk (.head _) hod' rfl) fun v h => by rw [show v = _ from h]; exact ⟨⟨tw, rfl⟩, hwl⟩
      refine' Bl.ifF (TrAt.or2 (TrAt.cmp (EvAt.callA Fell (EvAAt.cons (Ev.at ?k1) (EvAAt.cons (EvAt.addL (n := 10) (m := 1) W9 (Ev.at ?k2) rfl) EvAAt.nil rfl) rfl) ?k3 rfl rfl rfl) (Ev.at Ev.bool) (op_isnot (a := false) (b := false) rfl) rfl) (TrAt.cmp (EvAt.callA Fell (EvAAt.cons (Ev.at ?k4) (EvAAt.cons (EvAt.addL (n := 1) (m := 10) (Ev.at ?k5) W9 rfl) EvAAt.nil rfl) rfl) ?k6 rfl rfl rfl) (Ev.at Ev.bool) (op_isnot (a := false) (b := false) rfl) rfl)) ?k7
      case k1 => walk_at "ev"
      case k2 => walk_at "ev"
      case k3 => exact cn_ell X (FW.c0 x hxa) rfl
      case k4 => walk_at "ev"
      case k5 => walk_at "ev"
      case k6 => exact cn_ell X (FW.c1 x hxa) rfl
      have hlr : a.rl.length = i := len_of hrl (Nat.le_of_lt hi5)
      have hlc : a.cl.length = i := len_of hcl (Nat.le_of_lt hi5)
      refine Bl.led (N₁ := (R, lsT a.rl a.n1) :: (C, oc') :: (K, lsI a.cl a.n2) :: N') (fun q hq => ?_) ?_
      · rcases List.mem_cons.mp hq with rfl | hq
        · exact .tail _ (.head _)
        · rcases List.mem_cons.mp hq with rfl | hq
          · exact .head _
          · exact .tail _ (.tail _ hq)
      refine' Bl.append (P := IsL 5 (rowS W x)) ?l1 (Ev.at ?l2) ?l3 ?l4 rfl rfl ?l5 rfl rfl
      case l1 => walk_at "ev"
      case l2 => walk_at "ev"
      case l3 =>
        intro p hp
        rcases List.mem_cons.mp hp with rfl | hp
        · exact hRC.symm
        · rcases List.mem_cons.mp hp with rfl | hp
          · exact hKR
          · exact hrR p hp
      case l4 => rw [List.size_toArray, strValues, List.length_map, hlr]; omega
      rintro v ⟨⟨tr, rfl⟩, _⟩
      rw [show listOf ((strValues a.rl).toArray.push (.str (S (rowS W x)) tr)) (a.n1 + 1) = lsT (a.rl ++ [(S (rowS W x), tr)]) (a.n1 + 1) by simp [lsT, strValues]]
      have hrl2 := rows_snoc (t := tr) hx hrl
      have hlr2 : (a.rl ++ [(S (rowS W x), tr)]).length = i + 1 := by rw [List.length_append, hlr]; rfl
      generalize a.rl ++ [(S (rowS W x), tr)] = rl2 at *
      refine' Bl.cons (Ex.assignAt (P := IsI (popB (maskF W x) : Int)) (EvAt.mono (EvAt.lenComp (C := C) (o := oc') (ls := midW x W) (t := tw) Glen hh rfl (by decide) rfl (by decide) rfl (Nat.le_trans hwl (by decide)) hlk (.tail _ (.head _)) hod' rfl rfl hlk (fun _ => rfl) (fun _ => rfl) (fun _ => rfl) (fun _ => rfl) rfl rfl (fun _ => rfl) (fun _ => rfl) rfl rfl) ?l6) sub_refl rfl rfl rfl rfl) ?l7
      case l6 =>
        rintro v ⟨t, rfl⟩
        exact ⟨t, by rw [← FW.cross x hxa]; rfl⟩
      have hlv := lev_in W x
      generalize hpop : popB (maskF W x) = pop at *
      refine' Bl.seqX (α := Tok) (fun t => [("cross", IsI (pop : Int)), ("row", IsL 5 (rowS W x)), ("rows", IsV (.ref R)), ("counts", IsV (.ref K)), ("order", IsL 5 o), ("word", IsL 10 W)]) (fun t => (K, lsI (a.cl ++ [((pop : Int), t)]) (a.n2 + 1)) :: (R, lsT rl2 (a.n1 + 1)) :: (C, oc') :: N') (fun _ => True) ?first ?second
      case first =>
        have reord : ∀ q ∈ (K, lsI a.cl a.n2) :: (R, lsT rl2 (a.n1 + 1)) :: (C, oc') :: N', q ∈ (R, lsT rl2 (a.n1 + 1)) :: (C, oc') :: (K, lsI a.cl a.n2) :: N' := fun q hq => by
          rcases List.mem_cons.mp hq with rfl | hq
          · exact .tail _ (.tail _ (.head _))
          · rcases List.mem_cons.mp hq with rfl | hq
            · exact .head _
            · rcases List.mem_cons.mp hq with rfl | hq
              · exact .tail _ (.head _)
              · exact .tail _ (.tail _ (.tail _ hq))
        have hapK : ∀ p ∈ (R, lsT rl2 (a.n1 + 1)) :: (C, oc') :: N', p.1 ≠ K := by
          intro p hp
          rcases List.mem_cons.mp hp with rfl | hp
          · exact hKR.symm
          · rcases List.mem_cons.mp hp with rfl | hp
            · exact hKC.symm
            · exact hrK p hp
        have hsz : (iv a.cl).toArray.size ≤ 100000 := by rw [List.size_toArray, iv_len, hlc]; omega
        have hlast : ∀ tk, listOf ((iv a.cl).toArray.push (.int (pop : Int) tk)) (a.n2 + 1) = lsI (a.cl ++ [((pop : Int), tk)]) (a.n2 + 1) := fun tk => by rw [iv_push1]; rfl
        cases hpar : (((rl2.length : Int).fmod 2) == 1) with
        | true =>
          refine' Bl.ifT (TrAt.cmp (EvAt.modI (EvAt.len (ls := rl2) (n := a.n1 + 1) Glen ?m1 (.head _) ?m2 rfl) (Ev.at Ev.int) (by decide)) (Ev.at Ev.int) (op_eq hpar) rfl) (Bl.led reord (Bl.append (P := IsI (pop : Int)) ?m3 (Ev.at (Ev.call Flev ?m4 (cn_lev (n := 5) (m := 5) X hlv.1 rfl) rfl rfl rfl)) hapK hsz rfl rfl ?m5 rfl rfl))
          case m1 => walk_at "ev"
          case m2 => rw [hlr2]; omega
          case m3 => walk_at "ev"
          case m4 => walk_at "eva"
          case m5 =>
            rintro v ⟨tk, rfl⟩
            rw [hlast]
            refine' Bl.nx (Bl.nil fun s' st => ⟨rfl, tk, trivial, st.weak ?m6⟩)
            case m6 => walk_at "sub"
        | false =>
          refine' Bl.ifE (TrAt.cmp (EvAt.modI (EvAt.len (ls := rl2) (n := a.n1 + 1) Glen ?n1 (.head _) ?n2 rfl) (Ev.at Ev.int) (by decide)) (Ev.at Ev.int) (op_eq hpar) rfl) (Bl.led reord (Bl.append (P := IsI (pop : Int)) ?n3 (Ev.at (Ev.call Flev ?n4 (cn_lev (n := 5) (m := 5) X hlv.2 rfl) rfl rfl rfl)) hapK hsz rfl rfl ?n5 rfl rfl))
          case n1 => walk_at "ev"
          case n2 => rw [hlr2]; omega
          case n3 => walk_at "ev"
          case n4 => walk_at "eva"
          case n5 =>
            rintro v ⟨tk, rfl⟩
            rw [hlast]
            refine' Bl.nx (Bl.nil fun s' st => ⟨rfl, tk, trivial, st.weak ?n6⟩)
            case n6 => walk_at "sub"
      case second =>
        intro tk _
        have hlc2 : (a.cl ++ [((pop : Int), tk)]).length = i + 1 := by rw [List.length_append, hlc]; rfl
        have hend : ((a.cl ++ [((pop : Int), tk)]).map (·.1)).getD ((a.cl ++ [((pop : Int), tk)]).length - 1) 0 = (pop : Int) := by simp
        have hcl2 : (a.cl ++ [((pop : Int), tk)]).map (·.1) = (abc.take (i + 1)).map (fun x => (popB (maskF W x) : Int)) := by rw [← hpop]; exact cnts_snoc hx hcl
        generalize a.cl ++ [((pop : Int), tk)] = cl2 at *
        have hlast : ∀ {Γ p p2 p3 p4 k}, Ev c Γ (.Name "counts" p) (IsV (.ref K)) → EvAt c Γ ((K, lsI cl2 (a.n2 + 1)) :: (R, lsT rl2 (a.n1 + 1)) :: (C, oc') :: N') (.Subscript (.Name "counts" p) (.UnaryOp .USub (.Constant (.int 1) k p2) p3) p4) (IsI (pop : Int)) := fun h => EvAt.mono (EvAt.cellL (ls := cl2) (n := a.n2 + 1) h (.head _) (by omega) (by omega) rfl (fun _ => rfl)) fun v h => by rw [hend] at h; exact h
        refine' Bl.ifF (TrAt.or2 (TrAt.cmp (EvAt.type1 Gtype (hlast ?o1) ?o2 rfl rfl) (Ev.at (Ev.gl Gint)) ?o3 rfl) (TrAt.cmp (hlast ?o4) (Ev.at ?o5) ?o6 rfl)) ?o7
        case o1 => walk_at "ev"
        case o2 => exact fun v h => cn_type_int v h
        case o3 => exact op_isnot_int
        case o4 => walk_at "ev"
        case o5 => walk_at "ev"
        case o6 => exact op_ne (bne_self_eq_false _)
        refine' Bl.nil fun s' st => ⟨⟨oc', _, rl2, a.n1 + 1, cl2, a.n2 + 1⟩, ⟨hod', hrl2, hcl2⟩, ?o8, (st.weak ?o9).led ?o10⟩
        case o8 =>
          intro q hq
          refine .inl ?_
          rcases List.mem_cons.mp hq with rfl | hq
          · exact .head _
          · rcases List.mem_cons.mp hq with rfl | hq
            · exact .tail _ (.head _)
            · rw [List.mem_singleton.mp hq]; exact .tail _ (.tail _ (.head _))
        case o9 =>
          rw [show rowG W (i + 1) = ([("row", IsL 5 (rowS W (abc.getD i 0)))] : Tys) from rfl, hxi]
          intro q hq
          rcases List.mem_cons.mp hq with rfl | hq
          · exact .tail _ (.head _)
          · exact .tail _ (.tail _ hq)
        case o10 =>
          intro q hq
          rcases List.mem_cons.mp hq with rfl | hq
          · exact .tail _ (.tail _ (.head _))
          · rcases List.mem_cons.mp hq with rfl | hq
            · exact .tail _ (.head _)
            · rcases List.mem_cons.mp hq with rfl | hq
              · exact .head _
              · exact .tail _ (.tail _ (.tail _ hq))
  case done =>
    rintro a ⟨hod, hrl, hcl⟩
    obtain ⟨oc, v0, rl, n1, cl, n2⟩ := a
    dsimp only at hod hrl hcl ⊢
    have hlr : rl.length = 5 := len_of hrl (Nat.le_refl 5)
    have hlc : cl.length = 5 := len_of hcl (Nat.le_refl 5)
    have hrl9 : ∀ i, i < 5 → (rl.map (·.1))[i]? = some (S (rowS W (abc.getD i 0))) := by
      intro i hi
      rw [hrl, List.take_length, List.getElem?_map, List.getD_eq_getElem?_getD, List.getElem?_eq_getElem (by exact hi)]; rfl
    have hcl9 : ∀ i, i < 5 → (cl.map (·.1)).getD i 0 = (popB (maskF W (abc.getD i 0)) : Int) := by
      intro i hi
      rw [hcl, List.take_length, List.getD_eq_getElem?_getD, List.getElem?_map, List.getD_eq_getElem?_getD, List.getElem?_eq_getElem (by exact hi)]; rfl
    have habc : ∀ i, i < 5 → abc.getD i 0 ∈ abc := by
      intro i hi
      rw [List.getD_eq_getElem?_getD, List.getElem?_eq_getElem (by exact hi)]
      exact List.getElem_mem _
    refine Bl.weak (Γ₁ := [("row", IsL 5 (rowS W 101)), ("rows", IsV (.ref R)), ("counts", IsV (.ref K)), ("order", IsL 5 o), ("word", IsL 10 W)]) (fun q hq => hq) ?_
    have hv3 := lev_e FW
    have hr5 := row_len W 101
    have hr0 : [(rowS W 101)[0]'(by rw [hr5]; decide)] = (rowS W 101).take 1 := rfl
    generalize rowS W 101 = rw at *
    unfold lv3 at hv3
    rw [Bool.and_eq_true, Bool.and_eq_true, Bool.and_eq_true] at hv3
    obtain ⟨v1, v2, v3, v4⟩ := hv3
    replace v1 := of_decide_eq_true v1
    replace v2 := of_decide_eq_true v2
    replace v3 := of_decide_eq_true v3
    replace v4 := of_decide_eq_true v4
    refine' Bl.cons (Ex.assign (P := IsL 6 (rw.drop 1 ++ rw.take 1)) (Ev.mono (Ev.add (n := 5) (m := 1) (Ev.sliceFrom (n := 5) ?p1 (Ev.kst (k := 1) rfl) (by rw [hr5]; decide) rfl rfl (fun _ => rfl)) (Ev.item (n := 5) (k := 0) ?p2 Ev.int (by rw [hr5]; decide) rfl rfl (fun _ => rfl)) rfl) ?p3) sub_refl rfl rfl rfl rfl) ?p4
    case p1 => walk_at "ev"
    case p2 => walk_at "ev"
    case p3 => intro v h; rw [hr0] at h; exact h
    refine' Bl.cons (Ex.if0 (Tr.or2 (Tr.cmp (Ev.call Flev ?q1 (cn_lev (n := 5) (m := 6) X v1 rfl) rfl rfl rfl) Ev.int (op_ne (bne_self_eq_false _)) rfl) (Tr.cmp (Ev.call Flev ?q2 (cn_lev (n := 5) (m := 6) X v2 rfl) rfl rfl rfl) Ev.int (op_ne (bne_self_eq_false _)) rfl)) Xs.nil) ?q3
    case q1 => walk_at "eva"
    case q2 => walk_at "eva"
    refine' Bl.cons (Ex.if0 (Tr.or2 (Tr.cmp (Ev.call Flev (EvA.cons (Ev.add (n := 1) (m := 5) (Ev.lit (n := 1) lqP rfl) (Ev.sliceFrom (n := 5) ?r1 (Ev.kst (k := 1) rfl) (by rw [hr5]; decide) rfl rfl (fun _ => rfl)) rfl) (EvA.cons ?r2 (EvA.cons Ev.int EvA.nil rfl) rfl) rfl) (cn_lev (n := 1 + 5) (m := 5) X v3 rfl) rfl rfl rfl) Ev.int (op_ne (bne_self_eq_false _)) rfl) (Tr.cmp (Ev.call Flev ?r3 (cn_lev (n := 5) (m := 1 + 5) X v4 rfl) rfl rfl rfl) Ev.int (op_ne (bne_self_eq_false _)) rfl)) Xs.nil) ?r4
    case r1 => walk_at "ev"
    case r2 => walk_at "ev"
    case r3 => walk_at "eva"
    refine' Bl.cons (Ex.assign (P := IsB ((List.range 0).all (evI W))) Ev.bool (Γ' := [("rows", IsV (.ref R)), ("counts", IsV (.ref K)), ("order", IsL 5 o), ("word", IsL 10 W)]) ?s1 rfl rfl rfl rfl) ?s2
    case s1 => walk_at "sub"
    refine' Bl.forRange (n := 5) (m := 5) (N := [(C, oc), (R, lsT rl n1), (K, lsI cl n2)]) (a₀ := ()) (fun i _ => [("even", IsB ((List.range i).all (evI W))), ("rows", IsV (.ref R)), ("counts", IsV (.ref K)), ("order", IsL 5 o), ("word", IsL 10 W)]) (fun _ _ => []) (fun _ _ => True) rfl hh Grange (Ev.kstn (k := 5) 5 rfl rfl) rfl trivial ?hadr1 ?hfr1 ?hdis1 ?turn1 ?done1 rfl rfl rfl rfl (fun _ => rfl)
    case hadr1 => intro _ _ _ _ _; rfl
    case hfr1 => intro _ _; rfl
    case hdis1 => exact fun _ _ _ _ h => nomatch h
    case turn1 =>
      intro i _ hi _ N' hN' _
      rw [show (List.range i).all (evI W) = ((List.range i).all (evI W) && (List.range 0).all (evB W i)) from (Bool.and_true _).symm]
      refine Bl.weak (Γ₁ := [("even", IsB ((List.range i).all (evI W) && (List.range 0).all (evB W i))), ("i", IsI (i : Int)), ("rows", IsV (.ref R)), ("counts", IsV (.ref K)), ("order", IsL 5 o), ("word", IsL 10 W)]) ?w1 ?w2
      case w1 => walk_at "sub"
      refine' Bl.forRange (n := i) (m := 5) (N := N') (a₀ := ()) (fun j _ => [("even", IsB ((List.range i).all (evI W) && (List.range j).all (evB W i))), ("i", IsI (i : Int)), ("rows", IsV (.ref R)), ("counts", IsV (.ref K)), ("order", IsL 5 o), ("word", IsL 10 W)]) (fun _ _ => []) (fun _ _ => True) rfl hh Grange (Ev.toK ?e2 (Nat.le_of_lt hi)) rfl trivial ?hadr2 ?hfr2 ?hdis2 ?turn3 ?done3 rfl rfl rfl rfl (fun _ => rfl)
      case e2 => walk_at "ev"
      case hadr2 => intro _ _ _ _ _; rfl
      case hfr2 => intro _ _; rfl
      case hdis2 => exact fun _ _ _ _ h => nomatch h
      case done3 =>
        intro _ _
        refine' Bl.nil fun s' st => ⟨(), trivial, ?w3⟩
        case w3 =>
          rw [all_succ, show evI W i = (List.range i).all (evB W i) from rfl]
          refine st.weak ?_
          walk_at "sub"
      case turn3 =>
        intro j _ hj _ N2 hN2 _
        have hj5 : j < 5 := Nat.lt_trans hj hi
        have hmR : (R, lsT rl n1) ∈ [] ++ N2 := hN2 _ (hN' _ (.tail _ (.head _)))
        have hmK : (K, lsI cl n2) ∈ [] ++ N2 := hN2 _ (hN' _ (.tail _ (.tail _ (.head _))))
        have RW : ∀ {Γ} {k : Nat} {p p2 e}, k < 5 → Ev c Γ (.Name "rows" p) (IsV (.ref R)) → Ev c Γ e (IsI (k : Int)) → (∀ {i u}, subscripted e false (.ref R) (.int i u) = operate [.ref R, .int i u] (getItem (.ref R) (.int i u))) → EvAt c Γ ([] ++ N2) (.Subscript (.Name "rows" p) e p2) (IsL 5 (rowS W (abc.getD k 0))) :=
          fun {Γ k p p2 e} hk h1 h2 hs => EvAt.mono (EvAt.textAt h1 hmR h2 (hrl9 k hk) (by omega) hs (fun _ => rfl)) fun v h => ⟨h, Nat.le_of_eq (row_len _ _)⟩
        have CW : ∀ {Γ} {k : Nat} {p p2 e}, k < 5 → Ev c Γ (.Name "counts" p) (IsV (.ref K)) → Ev c Γ e (IsI (k : Int)) → (∀ {i u}, subscripted e false (.ref K) (.int i u) = operate [.ref K, .int i u] (getItem (.ref K) (.int i u))) → EvAt c Γ ([] ++ N2) (.Subscript (.Name "counts" p) e p2) (IsI (popB (maskF W (abc.getD k 0)) : Int)) :=
          fun {Γ k p p2 e} hk h1 h2 hs => EvAt.mono (EvAt.cell h1 hmK h2 (by omega) (by omega) hs (fun _ => rfl)) fun v h => by rw [hcl9 k hk] at h; exact h
        have hjr : j < (rowS W (abc.getD i 0)).length := by rw [row_len]; exact hj5
        have hdec : decide ([(rowS W (abc.getD i 0))[j]'hjr] = [abc[j]'hj5]) = !(maskF W (abc.getD i 0)).getD j false := by
          rw [← row_same hj5]
          exact decide_eq_decide.mpr ⟨fun h => (List.cons.inj h).1, fun h => by rw [h]⟩
        cases hmk : (maskF W (abc.getD i 0)).getD j false with
        | true =>
          refine' Bl.ifF (TrAt.cmp (EvAt.itemS (n := 5) (l := rowS W (abc.getD i 0)) (RW hi ?ya1 ?ya2 rfl) ?ya3 hjr rfl rfl (fun _ => rfl)) (Ev.at (Ev.item (n := 5) (l := abc) (k := j) (Ev.lit (n := 5) lqA rfl) ?ya4 hj5 rfl rfl (fun _ => rfl))) (op_eq_str (hdec.trans (congrArg _ hmk))) rfl) (Bl.nil fun s' st => ⟨(), trivial, ?z1⟩)
          case ya1 => walk_at "ev"
          case ya2 => walk_at "ev"
          case ya3 => walk_at "ev"
          case ya4 => walk_at "ev"
          case z1 =>
            rw [all_succ, even_yes hmk, Bool.and_true]
            exact st.weak (sub_tail sub_refl)
        | false =>
          refine' Bl.ifT (TrAt.cmp (EvAt.itemS (n := 5) (l := rowS W (abc.getD i 0)) (RW hi ?yb1 ?yb2 rfl) ?yb3 hjr rfl rfl (fun _ => rfl)) (Ev.at (Ev.item (n := 5) (l := abc) (k := j) (Ev.lit (n := 5) lqA rfl) ?yb4 hj5 rfl rfl (fun _ => rfl))) (op_eq_str (hdec.trans (congrArg _ hmk))) rfl) (Bl.cons (Ex.assignAt (EvAt.subI (EvAt.addI (CW hi ?z2 ?z3 rfl) (CW hj5 ?z4 ?z5 rfl)) (EvAt.callA Flev (EvAAt.cons (RW hj5 ?z6 ?z7 rfl) (EvAAt.cons (RW hi ?z8 ?z9 rfl) (EvAAt.cons (Ev.at Ev.int) EvAAt.nil rfl) rfl) rfl) (cn_lev (n := 5) (m := 5) X (lev_two W _ _).1 rfl) rfl rfl rfl)) sub_refl rfl rfl rfl rfl) ?z10)
          case yb1 => walk_at "ev"
          case yb2 => walk_at "ev"
          case yb3 => walk_at "ev"
          case yb4 => walk_at "ev"
          case z2 => walk_at "ev"
          case z3 => walk_at "ev"
          case z4 => walk_at "ev"
          case z5 => walk_at "ev"
          case z6 => walk_at "ev"
          case z7 => walk_at "ev"
          case z8 => walk_at "ev"
          case z9 => walk_at "ev"
          refine' Bl.cons (Ex.assign (Ev.and2 ?z11 (Ev.cmp (Ev.modI ?z12 Ev.int (by decide)) Ev.int (op_eq (even_no FW (habc i hi) (habc j hj5) hmk)) rfl)) (Γ' := [("i", IsI (i : Int)), ("rows", IsV (.ref R)), ("counts", IsV (.ref K)), ("order", IsL 5 o), ("word", IsL 10 W)]) ?z13 rfl rfl rfl rfl) (Bl.nx (Bl.nil fun s' st => ⟨(), trivial, ?z14⟩))
          case z11 => walk_at "ev"
          case z12 => walk_at "ev"
          case z13 => walk_at "sub"
          case z14 =>
            rw [all_succ, ← Bool.and_assoc]
            exact st
    case done1 =>
      intro _ _
      rw [show (List.range 5).all (evI W) = evenF W from rfl, ← FT.flat]
      have hTc : ∀ c ∈ o, W.count c = 2 := fun c hc => FW.two c (ho.mem_iff.mp hc)
      refine' Bl.cons (Ex.assign (P := IsL 10 (turnL W o)) (Ev.call Fturned ?v4a1 (cn_turned X hTc) rfl rfl rfl) (Γ' := [("even", IsB (flatO (turnL W o) pg)), ("word", IsL 10 W)]) ?v4a2 rfl rfl rfl rfl) ?v4a3
      case v4a1 => walk_at "eva"
      case v4a2 => walk_at "sub"
      generalize turnL W o = T at *
      have hT10 := FT.len
      have e0 : ellM (S W) (S T) = decide (W = T) := t_one FW.sub
      have e1 : ellM (S T) (S T) = true := by rw [t_one FT.sub]; simp
      have e2 := t_dots FT.sub FT.len
      have e3 := t_more FT.sub
      have e4 := t_over FT.sub FT.len
      refine' Bl.cons (Ex.if0 (Tr.or2 (Tr.cmp (Ev.call Fell ?v4b1 (cn_ell (n := 10) (m := 10) X e0 rfl) rfl rfl rfl) (Ev.cmp ?v4b2 ?v4b3 (op_eq_str (n := 10) (m := 10) rfl) rfl) (op_isnot (bne_self_eq_false _)) rfl) (Tr.cmp (Ev.call Fell ?v4b4 (cn_ell (n := 10) (m := 10) X e1 rfl) rfl rfl rfl) Ev.bool (op_isnot (a := true) (b := true) rfl) rfl)) Xs.nil) ?v4b5
      case v4b1 => walk_at "eva"
      case v4b2 => walk_at "ev"
      case v4b3 => walk_at "ev"
      case v4b4 => walk_at "eva"
      refine' Bl.cons (Ex.if0 (Tr.cmp (Ev.call Fell (EvA.cons (Ev.add (n := 10 + 3) (m := 10) (Ev.add (n := 10) (m := 3) (Ev.sliceTo (n := 10) ?v4c1 (Ev.kst (k := 5) rfl) (by rw [hT10]; decide) rfl rfl (fun _ => rfl)) (Ev.lit (n := 3) lqD rfl) rfl) (Ev.sliceFrom (n := 10) ?v4c2 (Ev.kst (k := 5) rfl) (by rw [hT10]; decide) rfl rfl (fun _ => rfl)) rfl) (EvA.cons ?v4c3 EvA.nil rfl) rfl) (cn_ell (n := 10 + 3 + 10) (m := 10) X e2 rfl) rfl rfl rfl) Ev.bool (op_isnot (a := true) (b := true) rfl) rfl) Xs.nil) ?v4c4
      case v4c1 => walk_at "ev"
      case v4c2 => walk_at "ev"
      case v4c3 => walk_at "ev"
      refine' Bl.cons ?v4d1 ?v4d2
      case' v4d1 => refine' Ex.forPairs (rs := [(IsL 10 T, IsL (10 + 1) (T ++ [101])), (IsL (10 + 3 + 10) ((T.take 6 ++ dots) ++ T.drop 5), IsL 10 T)]) ?he13 ?hh13 ?hb13 ?hl13 ?hf13 ?hg13 ?hx13 ?hy13 ?hp13 ?ho13
      case hh13 => exact rfl
      case hf13 => exact rfl
      case hx13 => exact rfl
      case hy13 => exact rfl
      case hp13 => exact rfl
      case hg13 => exact fun _ => rfl
      case ho13 => exact fun _ => rfl
      case he13 =>
        refine' EvPs.cons ?v4e5 (EvPs.cons (EvA.cons (Ev.add (n := 10 + 3) (m := 10) (Ev.add (n := 10) (m := 3) (Ev.sliceTo (n := 10) ?v4e6 (Ev.kst (k := 6) rfl) (by rw [hT10]; decide) rfl rfl (fun _ => rfl)) (Ev.lit (n := 3) lqD rfl) rfl) (Ev.sliceFrom (n := 10) ?v4e7 (Ev.kst (k := 5) rfl) (by rw [hT10]; decide) rfl rfl (fun _ => rfl)) rfl) (EvA.cons ?v4e8 EvA.nil rfl) rfl) EvPs.nil rfl) rfl
        case v4e5 => walk_at "eva"
        case v4e6 => walk_at "ev"
        case v4e7 => walk_at "ev"
        case v4e8 => walk_at "ev"
      case hl13 => exact rfl
      case hb13 =>
        refine all2 ?_ ?_
        · intro gs N
          refine' Xs.cons (Ex.weak (Ex.if0 (Tr.cmp (Ev.call Fell ?v4f1 ?v4f2 rfl rfl rfl) Ev.bool (op_isnot (a := false) (b := false) rfl) rfl) Xs.nil) (sub_tail (sub_tail sub_refl))) Xs.nil
          case v4f1 => walk_at "eva"
          case v4f2 => exact cn_ell (k := true) (s₁ := { s₁ with gens := gs }) X e3 rfl
        · intro gs N
          refine' Xs.cons (Ex.weak (Ex.if0 (Tr.cmp (Ev.call Fell ?v4f3 ?v4f4 rfl rfl rfl) Ev.bool (op_isnot (a := false) (b := false) rfl) rfl) Xs.nil) (sub_tail (sub_tail sub_refl))) Xs.nil
          case v4f3 => walk_at "eva"
          case v4f4 => exact cn_ell (k := true) (s₁ := { s₁ with gens := gs }) X e4 rfl
      clear e0 e1 e2 e3 e4
      refine' Bl.assignN (EvN.call Fpages ?v4g1 (cn_pages X FT) rfl rfl rfl) ?v4g2 (Γ' := [("turned", IsL 10 T), ("even", IsB (flatO T pg))]) ?v4g3 rfl rfl rfl rfl
      case v4g1 => walk_at "eva"
      case v4g3 => walk_at "sub"
      rintro _ _ ⟨D, oP, rfl, rfl, lo, hpg⟩ _
      refine Bl.led (N₁ := [(D, oP)]) (fun q hq => by rw [List.mem_singleton.mp hq]; exact .head _) ?_
      refine' Bl.cons (Ex.assign (P := IsB ((abc.take 0).all fun x => balC 0 (piecesC T pg x 0 (midW x T)))) Ev.bool sub_refl rfl rfl rfl rfl) ?v4g4
      refine Bl.loosen rfl hb0 ?_
      have X' : Fnc c.loose Mine.hd.view_39 5 := X
      have Fstretch' : Fc c.loose "_law_stretch" (.ref 84) := Fstretch
      have Fcheck' : Fc c.loose "_check_parenthesis" (.ref 35) := Fcheck
      refine' Bl.forStrG (c := c.loose) (n := 5) (ls := abc) (N := [(D, oP)]) (a₀ := ()) (fun i _ => textG T pg i ++ ([("flat", IsB ((abc.take i).all fun x => balC 0 (piecesC T pg x 0 (midW x T)))), ("pages", IsV (.ref D)), ("turned", IsL 10 T), ("even", IsB (flatO T pg))] : Tys)) (fun _ _ => True) rfl hh ?v4h1 trivial ?v4h2 ?turn9 ?done9 rfl rfl (fun _ => rfl)
      case v4h1 => walk_at "ev"
      case v4h2 => intro i _; cases i <;> rfl
      case turn9 =>
        intro i _ x hx _ N' hN'
        obtain ⟨hxi, hxa, hi5⟩ := abc_at hx
        refine Bl.weak (Γ₁ := [("x", IsL 1 [x]), ("flat", IsB ((abc.take i).all fun x => balC 0 (piecesC T pg x 0 (midW x T)))), ("pages", IsV (.ref D)), ("turned", IsL 10 T), ("even", IsB (flatO T pg))]) (fun q hq => ?_) ?_
        · rcases List.mem_cons.mp hq with rfl | hq
          · exact .head _
          · exact .tail _ (List.mem_append_right _ hq)
        have hml := mid_len (FT.two x hxa)
        have hpl := piecesC_len T pg x (midW x T) 0
        have hst : (abc.take (i + 1)).all (fun x => balC 0 (piecesC T pg x 0 (midW x T))) = ((abc.take i).all (fun x => balC 0 (piecesC T pg x 0 (midW x T))) && balC 0 (piecesC T pg x 0 (midW x T))) := by
          rw [List.take_add_one, hx, List.all_append, show (some x).toList = [x] from rfl, List.all_cons, List.all_nil, Bool.and_true]
        have htl := textP_len (piecesC T pg x 0 (midW x T))
        have hck := check_text (piecesC T pg x 0 (midW x T))
        refine' Bl.cons (Ex.assignAt (P := IsL 50 (textP (piecesC T pg x 0 (midW x T)))) (EvNAt.at (EvNAt.call Fstretch' ?v4i1 (cn_stretch X' FT hxa lo hpg (hN' _ (.head _))) rfl rfl rfl) ?v4i2) sub_refl rfl rfl rfl rfl) ?v4i3
        case v4i1 => walk_at "eva"
        case v4i2 =>
          rintro v own ⟨⟨t, rfl⟩, _⟩
          exact ⟨⟨t, rfl⟩, by omega⟩
        refine' Bl.cons (Ex.assign (P := IsB (balC 0 (piecesC T pg x 0 (midW x T)))) (Ev.call Fcheck' ?v4i4 (cn_check (n := 50) X' hck rfl) rfl rfl rfl) sub_refl rfl rfl rfl rfl) ?v4i5
        case v4i4 => walk_at "eva"
        generalize balC 0 (piecesC T pg x 0 (midW x T)) = bz at *
        refine' Bl.cons (Ex.if0' (Tr.of (TrA.and (r := bz != true) (Tr.cmp ?v4i6 Ev.bool (op_isnot rfl) rfl) (fun _ => TrA.and (r := bz != false) (r' := true) (Tr.cmp ?v4i7 Ev.bool (op_isnot rfl) rfl) (fun _ => TrA.and_nil)))) ?v4i8) ?v4i9
        case v4i6 => walk_at "ev"
        case v4i7 => walk_at "ev"
        case v4i8 => cases bz <;> rfl
        refine' Bl.cons (Ex.assign (Ev.and2 ?v4j1 ?v4j2) (Γ' := [("text", IsL 50 (textP (piecesC T pg x 0 (midW x T)))), ("pages", IsV (.ref D)), ("turned", IsL 10 T), ("even", IsB (flatO T pg))]) ?v4j3 rfl rfl rfl rfl) (Bl.nil fun s' st => ⟨(), trivial, ?v4j4⟩)
        case v4j1 => walk_at "ev"
        case v4j2 => walk_at "ev"
        case v4j3 => walk_at "sub"
        case v4j4 =>
          rw [hst, show textG T pg (i + 1) = ([("text", IsL 50 (textP (piecesC T pg (abc.getD i 0) 0 (midW (abc.getD i 0) T))))] : Tys) from rfl, hxi]
          refine st.weak (fun q hq => ?_)
          rcases List.mem_cons.mp hq with rfl | hq
          · exact .tail _ (.head _)
          · rcases List.mem_cons.mp hq with rfl | hq
            · exact .head _
            · exact .tail _ (.tail _ hq)
      case done9 =>
        intro _ _
        rw [List.take_length, show abc.all (fun x => balC 0 (piecesC T pg x 0 (midW x T))) = flatO T pg from rfl]
        refine Bl.weak (Γ₁ := [("text", IsL 50 (textP (piecesC T pg 101 0 (midW 101 T)))), ("flat", IsB (flatO T pg)), ("even", IsB (flatO T pg))]) (fun q hq => ?_) ?_
        · rcases List.mem_cons.mp hq with rfl | hq
          · exact .head _
          · rcases List.mem_cons.mp hq with rfl | hq
            · exact .tail _ (.head _)
            · rw [List.mem_singleton.mp hq]; exact .tail _ (.tail _ (.tail _ (.tail _ (.head _))))
        have hc1 := check_close (piecesC T pg 101 0 (midW 101 T))
        have hc2 := check_open (piecesC T pg 101 0 (midW 101 T))
        have hc3 := check_quote (piecesC T pg 101 0 (midW 101 T))
        generalize textP (piecesC T pg 101 0 (midW 101 T)) = tx at *
        refine' Bl.cons (Ex.if0 (Tr.or2 (Tr.cmp (Ev.call Fcheck' ?v4k1 (cn_check (n := 1 + 50 + 1) X' hc1 rfl) rfl rfl rfl) Ev.bool (op_isnot (a := false) (b := false) rfl) rfl) (Tr.cmp (Ev.call Fcheck' ?v4k2 (cn_check (n := 50 + 1) X' hc2 rfl) rfl rfl rfl) Ev.bool (op_isnot (a := false) (b := false) rfl) rfl)) Xs.nil) ?v4k3
        case v4k1 => walk_at "eva"
        case v4k2 => walk_at "eva"
        refine' Bl.cons (Ex.if0 (Tr.cmp (Ev.call Fcheck' ?v4k4 (cn_check (n := 50 + 2) X' hc3 rfl) rfl rfl rfl) Ev.bool (op_isnot (a := false) (b := false) rfl) rfl) Xs.nil) ?v4k5
        case v4k4 => walk_at "eva"
        refine' Bl.retL (Ev.cmp ?v4k6 ?v4k7 (op_isB (beq_self_eq_true _)) rfl) ?v4k8
        case v4k6 => walk_at "ev"
        case v4k7 => walk_at "ev"
        case v4k8 =>
          rintro v s'' rfl ⟨h', tk', gs', m', rfl, hb', g', F6, N6, H'⟩
          exact ⟨.inl ⟨_, _, [], rfl, fun _ => rfl, ReadsW.bool true, by wrow_post, fun _ => ⟨List.nodup_nil, fun _ hm => nomatch hm⟩⟩, OldK.of_keep F6.keep, rfl, hb' rfl⟩
end Mine

end
theorem PySem.Challenge.cw_rw0063_01_holds : PySem.Challenge.rw_rw0063_01.Holds := by
  exact Mine.law_fn
