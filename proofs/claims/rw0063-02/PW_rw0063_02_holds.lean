import PyProof.Rows.All
import Wide.All
import OpenK.AllK
import Wide.FinOn
import PySem.Challenge.RW_rw0063_02
set_option Elab.async false
set_option linter.unusedVariables false
local macro_rules | `(tactic| omega) => `(tactic| lia)
section
open PySem PySem.W PyProof.Rows
namespace Mine
set_option maxRecDepth 100000
set_option maxHeartbeats 8000000
open_top hd for PySem.Challenge.rw_rw0063_02
end Mine

end
section
open PySem PySem.W PySem.Calls PyProof.Rows
set_option linter.unusedVariables false
namespace Mine

/-- calling the def at f with vs gives a value with P (told beside what the ledger then bears ahead of the old one), and nothing else is seen -/
def Fn (prog : Program) (w : World) (K : Frag) (p : Program) (f : Addr) (need : Nat) (vs : List Value) (P : Value → List (Addr × Obj) → Prop) : Prop :=
  ∀ (loose : List Str) (mean : ExcName → Option Value) (mg mb : Str → Option Value) (dp un : Nat) (gd : Option (List Code)) (cn : Str) (cs : PySem.Scope) (a : Addr) (ccd : Value) (cl : List (Str × Addr)) (outer : List Env) (A₀ : Around) (base h₀ : Heap) (L : Addr) (m : Str → Option Value) (news : List (Addr × Obj)) (s : Shared) (Q E : Value → Shared → Prop),
    Below A₀ base outer h₀ → Fr h₀ L s.heap m → K.In h₀ → News h₀ L s.heap news → Top p loose mean mg mb h₀ → cs.kind = .function →
    dp + need < recursionLimit → un + 8 * need < cLine →
    (∀ (v : Value) (own : List (Addr × Obj)) (h' : Heap) (tk' : Nat), P v own → Fr h₀ L h' m → News h₀ L h' (own ++ news) → (∀ p ∈ own, ∀ q ∈ news, q.1 < p.1) → Q v { s with heap := h', toks := tk' }) →
      wpAny (model prog w) (ktrTop dp un gd cn cs L a ccd cl outer) (call (.ref f) vs) Q E s

theorem Fn.use {prog : Program} {w : World} {K : Frag} {p : Program} {f : Addr} {need : Nat} {vs : List Value} {P : Value → List (Addr × Obj) → Prop} (C : Fn prog w K p f need vs P)
    {loose : List Str} {mean : ExcName → Option Value} {mg mb : Str → Option Value} {dp un : Nat} {gd : Option (List Code)} {cn : Str} {cs : PySem.Scope} {a : Addr} {ccd : Value} {cl : List (Str × Addr)} {outer : List Env} {A₀ : Around} {base h₀ : Heap} {L : Addr} {m : Str → Option Value} {news : List (Addr × Obj)} {s : Shared} {Q E : Value → Shared → Prop}
    (B : Below A₀ base outer h₀) (F : Fr h₀ L s.heap m) (X : K.In h₀) (N : News h₀ L s.heap news) (T : Top p loose mean mg mb h₀) (hk : cs.kind = .function)
    (hd : dp + need < recursionLimit) (hu : un + 8 * need < cLine)
    (ret : ∀ (v : Value) (own : List (Addr × Obj)) (h' : Heap) (tk' : Nat), P v own → Fr h₀ L h' m → News h₀ L h' (own ++ news) → (∀ p ∈ own, ∀ q ∈ news, q.1 < p.1) → Q v { s with heap := h', toks := tk' }) :
    wpAny (model prog w) (ktrTop dp un gd cn cs L a ccd cl outer) (call (.ref f) vs) Q E s :=
  C _ _ _ _ _ _ _ _ _ _ _ _ _ _ _ _ _ _ _ _ _ _ B F X N T hk hd hu ret

/-- an int, a bool, a text comes back -/
abbrev isI (i : Int) : Value → List (Addr × Obj) → Prop := fun v own => (∃ t, v = .int i t) ∧ own = []
abbrev isB (b : Bool) : Value → List (Addr × Obj) → Prop := fun v own => v = .bool b ∧ own = []
abbrev isS (x : Str) : Value → List (Addr × Obj) → Prop := fun v own => (∃ t, v = .str x t) ∧ own = []

section
variable {h₀ h' : Heap} {L : Addr} {m : Str → Option Value} {news : List (Addr × Obj)} {s : Shared} {Q : Value → Shared → Prop} {t : Tok} {tk' : Nat}
end
end Mine

end
section
open PySem PySem.W PySem.Calls PyProof.Rows
open Sem (wp)
set_option linter.unusedVariables false
namespace Mine
section
variable {M : Model} {A : Around} {R : GenEnd} {Y : Protocol} {n : Nat} {s₀ : Shared} {c : Code} {fs : List Frame} {s : Shared} {env : Env}
  {K : Flow → Sem Fin} {H : Value → Sem Fin} {gd : Bool → Bool} {lv : List Value → List Value}

theorem seg_stmt {st : Stmt} {rest : List Stmt} (h : wpAny M (A.over c fs) (exec st env) (fun f s' => f = .next ∧ Seg M A R Y n s₀ c ((execs rest env).wrap K H gd lv) fs s') (fun _ _ => False) s) :
    Seg M A R Y n s₀ c ((execs (st :: rest) env).wrap K H gd lv) fs s := by
  refine seg_execs_cons (seg_wrap (wpAny_mono h (fun f s' hf => ?_) fun _ _ e => e.elim))
  obtain ⟨rfl, hf⟩ := hf
  exact hf

theorem seg_If {test : Expr} {body orelse : List Stmt} {pos : Pos} {K : Flow → Sem Fin}
    (h : wpAny M (A.over c fs) (isTrue test env (eval test env)) (fun b s' => Seg M A R Y n s₀ c ((execs (if b then body else orelse) env).wrap K H gd lv) fs s') (fun _ _ => False) s) :
    Seg M A R Y n s₀ c ((exec (.If test body orelse pos) env).wrap K H gd lv) fs s := by
  rw [exec_If, Sem.bind_eq_wrap', Sem.wrap_wrap]
  refine seg_wrap (wpAny_standAt ?_)
  rw [Sem.bind_eq_wrap', Sem.wrap_wrap]
  refine seg_wrap (wpAny_mono h (fun b s' hb => ?_) fun _ _ e => e.elim)
  cases b <;> exact hb

theorem seg_yield1 {e : Expr} {rest : List Stmt} {ypos pos : Pos} (hfs : splitAtGen fs = none) (hgd : gd false = false) (hfg : fs.any Frame.guarded = false)
    (h : wpAny M (A.over c fs) (eval e env) (fun v s' => ∀ kap : Resume → Shared → Prop, (∀ s'', Seg M A R Y n s'' c ((execs rest env).wrap K H gd lv) fs s'' → kap (.send .none) s'') → Y n s₀ v s' kap) (fun _ _ => False) s)
    (hco : env.scope.isCoroutine = false := by rfl) (hi : interactive env = false := by rfl) :
    Seg M A R Y (n + 1) s₀ c ((execs (.Expr (.Yield (some e) ypos) pos :: rest) env).wrap K H gd lv) fs s :=
  seg_execs_cons (seg_Expr_Yield hfs hgd hfg (wpAny_mono h (fun v s' h' kap hk => h' kap fun s'' hs => hk .none s'' hs) fun _ _ e => e.elim) hco hi)

theorem seg_For {target iter : Expr} {body orelse : List Stmt} {pos : Pos} {K : Flow → Sem Fin}
    (h : wpAny M (A.over c fs) (eval iter env) (fun xv s₁ => wpAny M (A.over c fs) (pyIter xv) (fun it s₂ => ∀ p, Seg M A R Y n s₀ (.forLoop target it body orelse env) (M.den (.forLoop target it body orelse env))
      (.ret (fun r => ((match r with | .ok f => (.pure f : Sem Flow) | .error e => .raise e).onRaise fun (x : Value) => do
        if (← field x 1) == Value.none then unsupported "frame.own-activation:exception-without-traceback"
        setFlight x env.frame).wrap K H gd lv) none (gd false) (lv []) c p [] :: fs) s₂) (fun _ _ => False) s₁) (fun _ _ => False) s)
    (hs : ∀ x, foldedSetIterable iter env x = pure x := by intro _; rfl) :
    Seg M A R Y n s₀ c ((exec (.For target iter body orelse pos) env).wrap K H gd lv) fs s := by
  rw [exec_For, Sem.bind_eq_wrap', Sem.wrap_wrap]
  refine seg_wrap (wpAny_standAt ?_)
  rw [Sem.bind_eq_wrap', Sem.wrap_wrap]
  refine seg_wrap (wpAny_mono h (fun xv s₁ h₁ => ?_) fun _ _ e => e.elim)
  rw [Sem.bind_eq_wrap', Sem.wrap_wrap, hs]
  refine seg_wrap (wpAny_pure ?_)
  rw [Sem.bind_eq_wrap', Sem.wrap_wrap]
  refine seg_wrap (wpAny_standAt ?_)
  rw [Sem.bind_eq_wrap', Sem.wrap_wrap]
  refine seg_wrap (wpAny_holding (wpAny_mono h₁ (fun it s₂ h₂ => ?_) fun _ _ e => e.elim))
  exact seg_call h₂
end
section
variable {prog : Program} {w : World} {A : Around} {R : GenEnd} {Y : Protocol} {n : Nat} {s₀ : Shared} {fs : List Frame} {s : Shared} {env : Env}

/-- one turn of a generator's for -/
theorem seg_forLoop {target : Expr} {it : Value} {body : List Stmt}
    (h : wpAny (model prog w) (A.over (.forLoop target it body [] env) fs) (pyNext it) (fun r s₁ => match r with
      | none => Seg (model prog w) A R Y n s₀ (.block [] env) (.pure (.done .next)) fs s₁
      | some v => wpAny (model prog w) (A.over (.forLoop target it body [] env) fs) (letOwnedTupleGo target it v) (fun _ s₂ =>
          wpAny (model prog w) (A.over (.forLoop target it body [] env) fs) (assign target env v) (fun _ s₃ =>
            Seg (model prog w) A R Y n s₀ (.forLoop target it body [] env) ((execs body env).wrap (fun f => match f with
            | .next | .cont => .pure (.again (.forLoop target it body [] env))
            | .brk => .pure (.done .next)
            | .ret v => .pure (.done (.ret v))) (fun e => (do noteFrame e env; theTreesLotGoes e : Sem Unit).wrap (fun _ => .raise e) .raise id id) id id) fs s₃) (fun _ _ => False) s₂) (fun _ _ => False) s₁) (fun _ _ => False) s) :
    Seg (model prog w) A R Y n s₀ (.forLoop target it body [] env) ((model prog w).den (.forLoop target it body [] env)) fs s := by
  show Seg _ A R Y n s₀ _ ((forTurn target it body [] env).onRaise (fun x => do noteFrame x env; theTreesLotGoes x)) fs s
  simp only [forTurn]
  rw [Sem.onRaise_eq_wrap, Sem.bind_eq_wrap', Sem.wrap_wrap]
  refine seg_wrap (wpAny_standAt ?_)
  rw [Sem.bind_eq_wrap', Sem.wrap_wrap]
  refine seg_wrap (wpAny_onRaise (wpAny_mono h (fun r s₁ h₁ => ?_) fun _ _ e => e.elim))
  cases r with
  | none =>
    refine seg_again rfl ?_
    show Seg _ A R Y n s₀ _ (((execs [] env).onRaise (fun x => do noteFrame x env; theTreesLotGoes x)) >>= fun f => pure (.done f)) fs s₁
    exact h₁
  | some v =>
    dsimp only
    refine seg_bind_wrap (wpAny_mono h₁ (fun _ s₂ h₂ => ?_) fun _ _ e => e.elim)
    refine seg_bind_wrap (wpAny_mono h₂ (fun _ s₃ h₃ => ?_) fun _ _ e => e.elim)
    rw [Sem.bind_eq_wrap', Sem.wrap_wrap]
    rw [Sem.wrap_congr (execs body env) _ _ (K' := fun f => match f with
            | .next | .cont => .pure (.again (.forLoop target it body [] env))
            | .brk => .pure (.done .next)
            | .ret v => .pure (.done (.ret v))) (H' := (fun e => (do noteFrame e env; theTreesLotGoes e : Sem Unit).wrap (fun _ => .raise e) .raise id id))
        (fun f => by cases f <;> rfl)
        (fun e => by first | exact Sem.bind_eq_wrap _ _ | (show (do noteFrame e env; theTreesLotGoes e : Sem Unit).bind (fun _ => .raise e) = _; rw [Sem.bind_eq_wrap]))]
    exact h₃
end
end Mine

end
section
open PySem PySem.W PySem.Calls PyProof.Rows
open Sem (wp)
set_option linter.unusedVariables false
namespace Mine

/-- what a generator over a text hands out: place and sign, an escaped sign with its backslash -/
def tokList : Nat → Bool → List Nat → List (Nat × Str)
  | i, false, [] => []
  | i, true, [] => [(i - 1, ⟨#[92]⟩)]
  | i, true, c :: r => (i, ⟨#[92]⟩ ++ ⟨#[c]⟩) :: tokList (i + 1) false r
  | i, false, c :: r => if c = 92 then tokList (i + 1) true r else (i, ⟨#[c]⟩) :: tokList (i + 1) false r

abbrev tupOf (vs : List Value) : Obj := { cls := .type "tuple", data := .seq vs.toArray }

def Since (fp : List Addr) (s₀ s₁ : Shared) : Prop := ∃ h' tk', s₁ = { s₀ with heap := h', toks := tk' } ∧ ∀ b o, b ∉ fp → s₀.heap.get? b = some o → h'.get? b = some o
theorem Since.refl (fp : List Addr) (s : Shared) : Since fp s s := ⟨s.heap, s.toks, rfl, fun _ _ _ e => e⟩
theorem Since.step {fp : List Addr} {s₀ s₁ : Shared} (x : Since fp s₀ s₁) {h' : Heap} {tk' : Nat} (k : ∀ b o, b ∉ fp → s₁.heap.get? b = some o → h'.get? b = some o) : Since fp s₀ { s₁ with heap := h', toks := tk' } := by
  obtain ⟨h₁, tk₁, rfl, k₁⟩ := x
  exact ⟨h', tk', rfl, fun b o hb e => k b o hb (k₁ b o hb e)⟩
def gR (fp : List Addr) : GenEnd := fun n s₀ r s₁ => r = .ok (.ret .none) ∧ n = 0 ∧ Since fp s₀ s₁
def gY (hs : Heap) (fp : List Addr) (toks : List (Nat × Str)) : Protocol := fun n s₀ v s₁ kap =>
  (∃ p c T tp tc, toks[toks.length - 1 - n]? = some (p, c) ∧ v = .ref T ∧ s₁.heap.get? T = some (tupOf [.int (p : Nat) tp, .str c tc])) ∧ Since fp s₀ s₁ ∧
    ∀ s'' : Shared, (∀ b ∈ fp, ∀ o, s₁.heap.get? b = some o → s''.heap.get? b = some o) → hs.StaysIn s''.heap → kap (.send .none) s''

section
variable {prog : Program} {w : World} {A : Around} {hs : Heap} {fp : List Addr} {toks : List (Nat × Str)} {fs : List Frame} {env : Env} {target : Expr} {I : Addr} {body : List Stmt} {wr : List Addr}
  {x : Str} {t : Tok} {Pt : Nat → Array Value → Prop} {St : Nat → Heap → Prop} {Mid : Nat → Addr → Heap → Prop} {fpw : List Addr}

/-- the generator's own names between its turns -/
def Loc (hs : Heap) (L : Addr) (x : Str) (t : Tok) (St : Nat → Heap → Prop) (i : Nat) (esc : Bool) (s : Shared) : Prop :=
  (∃ m, Fr hs L s.heap m ∧ m "addr" = some (.str x t) ∧ (∃ tp, m "pos" = some (.int ((i - 1 : Nat) : Int) tp)) ∧ m "escape" = some (.bool esc)) ∧ St i s.heap

def escNext (esc : Bool) (c : Nat) : Bool := !esc && c == 92
/-- the token that the sign c at i gives, if any -/
def tokAt (i : Nat) (esc : Bool) (c : Nat) : Option (Nat × Str) := if esc then some (i, ⟨#[92]⟩ ++ ⟨#[c]⟩) else if c = 92 then none else some (i, ⟨#[c]⟩)

theorem tokList_cons (i : Nat) (esc : Bool) (c : Nat) (r : List Nat) : tokList i esc (c :: r) = (tokAt i esc c).toList ++ tokList (i + 1) (escNext esc c) r := by
  cases esc with
  | true => simp [tokList, tokAt, escNext]
  | false =>
    by_cases h : c = 92
    · subst h; simp [tokList, tokAt, escNext]
    · have h' : (c == 92) = false := by simpa using h
      simp [tokList, tokAt, escNext, h, h']

theorem gen_loop (hh : (A.over (.forLoop target (.ref I) body [] env) fs).handled = none)
    (W : ∀ A' : Around, A'.handled = none → WalksU prog w A' I fpw wr x.cps.size Pt St Mid) (hPt : ∀ i vals, Pt i vals → ∃ tp c tc, x.cps[i]? = some c ∧ vals = #[.int i tp, .str ⟨#[c]⟩ tc])
    {p1 p2 pt : Pos} {k : Nat} (htg : target = .Tuple [.Name "pos" p1, .Name "ch" p2] k pt)
    (hk1 : env.kindOf "pos" = some .local) (hk2 : env.kindOf "ch" = some .local) (hp : (env.scope.kind == .class || (env.scope.kind == .module && env.locals != env.globals)) = false)
    (hwr : ∀ b ∈ wr, b ∈ fp ∧ b ≠ env.locals ∧ hs.get? b = none) (hL : env.locals ∈ fp) (hfw : ∀ b ∈ fpw, b ∈ fp ∧ b ≠ env.locals)
    (turn : ∀ i esc c n s₀ s m tp tc, x.cps[i]? = some c → Fr hs env.locals s.heap m → m "addr" = some (.str x t) → m "pos" = some (.int (i : Nat) tp) → m "ch" = some (.str ⟨#[c]⟩ tc) → m "escape" = some (.bool esc) →
      St (i + 1) s.heap → Since fp s₀ s →
      (tokAt i esc c = none → ∀ s', Since fp s₀ s' → Loc hs env.locals x t St (i + 1) (escNext esc c) s' → Seg (model prog w) A (gR fp) (gY hs fp toks) n s₀ (.forLoop target (.ref I) body [] env) ((model prog w).den (.forLoop target (.ref I) body [] env)) fs s') →
      (∀ q, tokAt i esc c = some q → ∃ n', n = n' + 1 ∧ toks[toks.length - 1 - n']? = some q ∧ ∀ s'' s', Since fp s'' s' → Loc hs env.locals x t St (i + 1) (escNext esc c) s' → Seg (model prog w) A (gR fp) (gY hs fp toks) n' s'' (.forLoop target (.ref I) body [] env) ((model prog w).den (.forLoop target (.ref I) body [] env)) fs s') →
      Seg (model prog w) A (gR fp) (gY hs fp toks) n s₀ (.forLoop target (.ref I) body [] env) ((execs body env).wrap (fun f => match f with
            | .next | .cont => .pure (.again (.forLoop target (.ref I) body [] env))
            | .brk => .pure (.done .next)
            | .ret v => .pure (.done (.ret v))) (fun e => (do noteFrame e env; theTreesLotGoes e : Sem Unit).wrap (fun _ => .raise e) .raise id id) id id) fs s)
    (fin : ∀ esc n s₀ s, Loc hs env.locals x t (fun _ _ => True) x.cps.size esc s → Since fp s₀ s → tokList x.cps.size esc [] = toks.drop (toks.length - n) → n ≤ toks.length →
      Seg (model prog w) A (gR fp) (gY hs fp toks) n s₀ (.block [] env) (.pure (.done .next)) fs s) :
    ∀ (rem i : Nat) (esc : Bool) (n : Nat) (s₀ s : Shared), x.cps.size - i = rem → i ≤ x.cps.size → tokList i esc (x.cps.toList.drop i) = toks.drop (toks.length - n) → n ≤ toks.length →
      Loc hs env.locals x t St i esc s → Since fp s₀ s →
      Seg (model prog w) A (gR fp) (gY hs fp toks) n s₀ (.forLoop target (.ref I) body [] env) ((model prog w).den (.forLoop target (.ref I) body [] env)) fs s := by
  subst htg
  intro rem
  induction rem with
  | zero =>
    intro i esc n s₀ s hrem hi htok hn hloc hsince
    have hin : i = x.cps.size := by omega
    subst hin
    obtain ⟨⟨m, F, ha, hpo, he⟩, hst⟩ := hloc
    refine seg_forLoop ((W _ hh).done s _ _ hst fun h' tk hk => ?_)
    have hd : x.cps.toList.drop x.cps.size = [] := by simp
    rw [hd] at htok
    refine fin esc n s₀ _ ⟨⟨m, ⟨F.ns.at' fun o e => hk _ o (fun hm => (hwr _ hm).2.1 rfl) e, fun b o e => hk b o (fun hm => by rw [(hwr b hm).2.2] at e; cases e) (F.keep b o e), F.above⟩, ha, hpo, he⟩, trivial⟩ (hsince.step fun b o hb e => hk b o (fun hm => hb (hwr b hm).1) e) htok hn
  | succ rem ih =>
    intro i esc n s₀ s hrem hi htok hn hloc hsince
    have hlt : i < x.cps.size := by omega
    obtain ⟨⟨m, F, ha, hpo, he⟩, hst⟩ := hloc
    refine seg_forLoop ((W _ hh).item i s _ _ hlt hst fun T vals h₁ tk₁ hPv hT₁ hmid hk₁ => ?_)
    obtain ⟨tp, c, tc, hc, rfl⟩ := hPt i vals hPv
    dsimp only
    refine (W _ hh).go _ _ _ i T _ _ _ hmid fun h₂ hst₂ hk₂ => ?_
    replace hk₂ : ∀ b o, b ∉ wr → h₁.get? b = some o → h₂.get? b = some o := hk₂
    have hT₂ : h₂.IsTuple T #[.int i tp, .str ⟨#[c]⟩ tc] := let ⟨o, e, r⟩ := hT₁; ⟨o, hk₂ _ o ((W _ hh).apart i T _ hmid) e, r⟩
    refine wpAny_assign_Tuple hh hT₂ rfl rfl fun h₃ hx₃ => ?_
    replace hx₃ : Heap.ExtBut h₂.objs.size h₂ h₃ := hx₃
    have old₃ : ∀ b o, h₂.get? b = some o → h₃.get? b = some o := fun b o e => hx₃ b o (Nat.ne_of_lt (Heap.lt_size e)) e
    have hLw : env.locals ∉ wr := fun hm => (hwr _ hm).2.1 rfl
    have F₃ : Fr hs env.locals h₃ m := ⟨F.ns.at' fun o e => old₃ _ o (hk₂ _ o hLw (hk₁ _ o hLw e)), fun b o e => old₃ b o (hk₂ b o (fun hm => by rw [(hwr b hm).2.2] at e; cases e) (hk₁ b o (fun hm => by rw [(hwr b hm).2.2] at e; cases e) (F.keep b o e))), F.above⟩
    show wpAny _ _ (do holding [Value.str ⟨#[c]⟩ tc] (assign (.Name "pos" p1) env (.int i tp)); do holding [] (assign (.Name "ch" p2) env (.str ⟨#[c]⟩ tc)); pure ()) _ _ _
    refine wpAny_bind (wpAny_holding (wpAny_assign_Name (wpAny_storeName_local hk1 F₃.ns (fun h₄ hn₄ hs₄ => ?_) hp)))
    refine wpAny_bind (wpAny_holding (wpAny_assign_Name (wpAny_storeName_local hk2 hn₄ (fun h₅ hn₅ hs₅ => wpAny_pure ?_) hp)))
    have F₅ := (F₃.set hn₄ hs₄).set hn₅ hs₅
    replace hs₄ : Heap.SameBut env.locals h₃ h₄ := hs₄
    replace hs₅ : Heap.SameBut env.locals h₄ h₅ := hs₅
    have up : ∀ b o, b ≠ env.locals → b ∉ wr → s.heap.get? b = some o → h₅.get? b = some o := fun b o hbL hbw e => hs₅.extBut b o hbL (hs₄.extBut b o hbL (old₃ b o (hk₂ b o hbw (hk₁ b o hbw e))))
    have hst₅ : St (i + 1) h₅ := (W _ hh).frame _ _ _ hst₂ fun b hb o e => hs₅.extBut b o (hfw b hb).2 (hs₄.extBut b o (hfw b hb).2 (old₃ b o e))
    have hdrop : x.cps.toList.drop i = c :: x.cps.toList.drop (i + 1) := by
      have h1 : x.cps.toList[i]? = some c := by rw [Array.getElem?_toList]; exact hc
      obtain ⟨hl, hg⟩ := List.getElem?_eq_some_iff.mp h1
      rw [List.drop_eq_getElem_cons hl, hg]
    rw [hdrop, tokList_cons] at htok
    refine turn i esc c n s₀ _ _ tp tc hc F₅ ?_ ?_ ?_ ?_ hst₅ (hsince.step fun b o hb e => up b o (fun q => hb (q ▸ hL)) (fun hm => hb (hwr b hm).1) e) ?_ ?_
    · exact ha
    · rfl
    · rfl
    · exact he
    · intro hno s' hs' hl'
      rw [hno] at htok
      exact ih (i + 1) _ n s₀ s' (by omega) hlt htok hn hl' hs'
    · intro q hq
      rw [hq] at htok
      simp only [Option.toList_some, List.cons_append, List.nil_append] at htok
      have hlen := congrArg List.length htok
      rw [List.length_cons, List.length_drop] at hlen
      obtain ⟨n', rfl⟩ : ∃ n', n = n' + 1 := ⟨n - 1, by omega⟩
      have hlt' : toks.length - (n' + 1) < toks.length := by omega
      rw [List.drop_eq_getElem_cons hlt'] at htok
      have h1 := (List.cons.inj htok).1
      have h2 := (List.cons.inj htok).2
      have e1 : toks.length - 1 - n' = toks.length - (n' + 1) := by omega
      have e2 : toks.length - (n' + 1) + 1 = toks.length - n' := by omega
      refine ⟨n', rfl, ?_, fun s'' s' hs' hl' => ih (i + 1) _ n' s'' s' (by omega) hlt (by rw [h2, e2]) (by omega) hl' hs'⟩
      rw [e1, List.getElem?_eq_getElem hlt', ← h1]
end

theorem setGen_self {s : Shared} {g : Nat} {x y : GenState} (h : s.gens[g]? = some x) : (s.setGen g y).gens[g]? = some y := by
  obtain ⟨hl, _⟩ := Array.getElem?_eq_some_iff.mp h
  show (s.gens.setIfInBounds g y)[g]? = some y
  rw [Array.getElem?_setIfInBounds_self_of_lt hl]

section
variable {prog : Program} {w : World} {A : Around} {E : Value → Shared → Prop} {s : Shared}

theorem next_gen {a : Addr} {g n : Nat} {gs : GenState} {P : Nat → Shared → Shared → Prop} {Y : Protocol} {Q : Option Value → Shared → Prop} (hh : A.handled = none)
    (hl : s.heap.NoLimit) (hroom : A.depth < recursionLimit) (hg : s.heap.IsGen a g) (hgs : s.gens[g]? = some gs)
    (hgo : gs.Goes (model prog w) A.in1 (fun n s₀ r s₁ => r = .ok (.ret .none) ∧ P n s₀ s₁) Y n (.send .none) (s.setGen g .running))
    (hY : ∀ v s₁ gs', gs'.bare = true → Y (n - 1) (s.setGen g .running) v s₁ (fun r' s'' => match n with
        | 0 => False
        | m + 1 => gs'.Goes (model prog w) A.in1 (fun n s₀ r s₁ => r = .ok (.ret .none) ∧ P n s₀ s₁) Y m r' s'') → Q (some v) (s₁.setGen g gs'))
    (hP : ∀ s₁, P n (s.setGen g .running) s₁ → ∀ h', (∀ b o, s₁.heap.get? b = some o → h'.get? b = some o) → Q none { s₁.setGen g .finished with heap := h' }) :
    wpAny (model prog w) A (pyNext (.ref a)) Q E s := by
  unfold pyNext
  refine wpAny_bind (wpAny_attempt (wpAny_callSpecial?_slot (name := Str.ofString "__next__") hg.typeIs slot_gen_next (wpAny_call_entry slot_gen_next hg.typeIs entry_gen_next ?_ (args_gen_next _))))
  show wpAny _ A.in1 (Builtin.Generator.genWake (.ref a) (.send .none)) _ _ s
  unfold Builtin.Generator.genWake
  refine wpAny_bind (wpAny_holding (wpAny_genNumber hg (wpAny_bind (wpAny_genState hgs ?_))))
  have fin : ∀ (s₁ : Shared) {β : Type} {tail : Value → Sem Fin} (tl : β → Sem Fin), (∀ e, tail e = (raiseNew (α := β) e >>= tl)) → P n (s.setGen g .running) s₁ → wpAny (model prog w) A.in1 (newExc (.type "StopIteration") [] >>= tail)
      (fun fin s' => ∃ v, fin = .done (.ret v) ∧ wpAny (model prog w) A (pure (some v)) Q E s') (fun e s' => wpAny (model prog w) A (do if ← isInstance e (.type "StopIteration") then pure none else throw e) Q E s') (s₁.setGen g .finished) := by
    intro s₁ β tail tl ht hp
    simp only [newExc, newTuple]
    refine wpAny_bind (wpAny_bind (wpAny_newObj_type ?_ (by size_fits)))
    refine wpAny_bind (m := firstArgMember _ _) (wpAny_of_eq (a := Value.none) (by first | rfl | (simp only [firstArgMember]; rfl)) ?_)
    refine wpAny_newObj_type ?_ (by size_fits)
    rw [ht]
    refine wpAny_bind ?_
    simp only [raiseNew]
    refine wpAny_bind (wpAny_handled ?_)
    rw [show A.in1.handled = none from hh]
    refine wpAny_bind (wpAny_pure (wpAny_throw ?_))
    refine wpAny_bind (wpAny_isInstance (T := "StopIteration") (b := true) ⟨_, Heap.get?_push_size _ rfl, rfl⟩ isSubtype_stop ?_)
    exact wpAny_pure (hP s₁ hp _ fun b o hb => Heap.get?_push_of_some _ (Heap.get?_push_of_some _ hb))
  cases gs with
  | running => exact hgo.elim
  | finished => exact hgo.elim
  | fresh c0 =>
    refine wpAny_bind (wpAny_roomToWake hl hroom ?_)
    show wpAny _ A.in1 (.resume g (.send .none) [] _) _ _ s
    refine wpAny_resumeQ hgs hgo (fun y s₁ hy => ?_) (fun v s₁ gs' hb hv => wpAny_pure ⟨v, rfl, wpAny_pure (hY v s₁ gs' hb hv)⟩)
    obtain ⟨rfl, hp⟩ := hy
    exact fin s₁ _ (fun e => rfl) hp
  | suspended k0 l0 c0 p0 fs0 cl0 =>
    refine wpAny_bind (wpAny_roomToWake hl hroom ?_)
    show wpAny _ A.in1 (.resume g (.send .none) [] _) _ _ s
    refine wpAny_resumeQ hgs hgo (fun y s₁ hy => ?_) (fun v s₁ gs' hb hv => wpAny_pure ⟨v, rfl, wpAny_pure (hY v s₁ gs' hb hv)⟩)
    obtain ⟨rfl, hp⟩ := hy
    exact fin s₁ _ (fun e => rfl) hp

/-- the generator a between two turns: i tokens are out; fp is what it alone reads and writes -/
def GenSt (prog : Program) (w : World) (A : Around) (hs : Heap) (a : Addr) (g sz : Nat) (fp : List Addr) (toks : List (Nat × Str)) (i : Nat) (s : Shared) : Prop :=
  s.heap.IsGen a g ∧ (i = 0 → s.heap.objs.size = sz) ∧ ∃ gs, s.gens[g]? = some gs ∧ ∀ s'' : Shared, (∀ b ∈ fp, ∀ o, s.heap.get? b = some o → s''.heap.get? b = some o) → (i = 0 → s''.heap.objs.size = sz) → hs.StaysIn s''.heap →
    gs.Goes (model prog w) A.in1 (gR fp) (gY hs fp toks) (toks.length - i) (.send .none) s''

theorem GenSt.frame {hs : Heap} {a : Addr} {g sz : Nat} {fp : List Addr} {toks : List (Nat × Str)} {i : Nat} (st : GenSt prog w A hs a g sz fp toks i s) {h' : Heap} {tk' : Nat} (ha : ∀ o, s.heap.get? a = some o → h'.get? a = some o)
    (hf : ∀ b ∈ fp, ∀ o, s.heap.get? b = some o → h'.get? b = some o) (hi : i = 0 → h'.objs.size = sz) : GenSt prog w A hs a g sz fp toks i { s with heap := h', toks := tk' } := by
  obtain ⟨⟨o, nm, qn, ho, r⟩, _, gs, hgs, hgo⟩ := st
  exact ⟨⟨o, nm, qn, ha o ho, r⟩, hi, gs, hgs, fun s'' hal hz hk => hgo s'' (fun b hb o e => hal b hb o (hf b hb o e)) hz hk⟩

theorem bare_set {g : Array GenState} {i : Nat} {x : GenState} (h : AllBare g) (hx : x.bare = true) : AllBare (g.setIfInBounds i x) := by
  intro y hy
  obtain ⟨j, hj, rfl⟩ := Array.mem_iff_getElem.mp hy
  rw [Array.getElem_setIfInBounds (by simpa using hj)]
  split
  · exact hx
  · exact h _ (Array.getElem_mem (by simpa using hj))

theorem GenSt.item {hs : Heap} {a : Addr} {g sz : Nat} {fp : List Addr} {toks : List (Nat × Str)} {i : Nat} {Q : Option Value → Shared → Prop} (st : GenSt prog w A hs a g sz fp toks i s) (hi : i < toks.length)
    (hk : hs.StaysIn s.heap) (hl : hs.NoLimit) (hh : A.handled = none) (hroom : A.depth < recursionLimit) (haf : a ∉ fp) (hb : AllBare s.gens)
    (hQ : ∀ T p c tp tc h' tk' g', toks[i]? = some (p, c) → h'.get? T = some (tupOf [.int (p : Nat) tp, .str c tc]) → (∀ b o, b ∉ fp → s.heap.get? b = some o → h'.get? b = some o) →
      GenSt prog w A hs a g sz fp toks (i + 1) { s with heap := h', toks := tk', gens := g' } → AllBare g' → Q (some (.ref T)) { s with heap := h', toks := tk', gens := g' }) :
    wpAny (model prog w) A (pyNext (.ref a)) Q E s := by
  obtain ⟨hg, hsz, gs, hgs, hgo⟩ := st
  obtain ⟨m, hm⟩ : ∃ m, toks.length - i = m + 1 := ⟨toks.length - i - 1, by omega⟩
  rw [hm] at hgo
  refine next_gen (P := fun n s₀ s₁ => n = 0 ∧ Since fp s₀ s₁) (Y := gY hs fp toks) hh (hl.keeps hk) hroom hg hgs (hgo _ (fun _ _ _ e => e) hsz hk) (fun v s₁ gs' hbare hv => ?_) (fun s₁ hp => absurd hp.1 (Nat.succ_ne_zero m))
  obtain ⟨⟨p, c, T, tp, tc, htok, rfl, hT⟩, ⟨h', tk', rfl, hkeep⟩, hkap⟩ := hv
  have hidx : toks.length - 1 - (m + 1 - 1) = i := by omega
  rw [hidx] at htok
  refine hQ T p c tp tc h' tk' _ htok hT hkeep ⟨?_, fun e => absurd e (Nat.succ_ne_zero i), gs', ?_, fun s'' hal _ hs'' => ?_⟩ (bare_set (bare_set hb rfl) hbare)
  · obtain ⟨o, nm, qn, ho, r⟩ := hg
    exact ⟨o, nm, qn, hkeep a o haf ho, r⟩
  · exact setGen_self (s := s.setGen g .running) (setGen_self hgs)
  · have e : toks.length - (i + 1) = m := by omega
    rw [e]
    exact hkap s'' hal hs''

theorem GenSt.done {hs : Heap} {a : Addr} {g sz : Nat} {fp : List Addr} {toks : List (Nat × Str)} {Q : Option Value → Shared → Prop} (st : GenSt prog w A hs a g sz fp toks toks.length s)
    (hk : hs.StaysIn s.heap) (hl : hs.NoLimit) (hh : A.handled = none) (hroom : A.depth < recursionLimit) (hfs : ∀ b ∈ fp, hs.get? b = none) (hb : AllBare s.gens)
    (hQ : ∀ h' tk' g', (∀ b o, b ∉ fp → s.heap.get? b = some o → h'.get? b = some o) → AllBare g' → Q none { s with heap := h', toks := tk', gens := g' }) :
    wpAny (model prog w) A (pyNext (.ref a)) Q E s := by
  obtain ⟨hg, hsz, gs, hgs, hgo⟩ := st
  rw [Nat.sub_self] at hgo
  refine next_gen (P := fun n s₀ s₁ => n = 0 ∧ Since fp s₀ s₁) (Y := gY hs fp toks) hh (hl.keeps hk) hroom hg hgs (hgo _ (fun _ _ _ e => e) hsz hk) (fun v s₁ gs' hbare hv => ?_) (fun s₁ hp h' hk' => ?_)
  · obtain ⟨_, ⟨h₁, tk₁, rfl, hkeep⟩, hkap⟩ := hv
    exact (hkap _ (fun _ _ _ e => e) fun b o e => hkeep b o (fun hm => by rw [hfs b hm] at e; cases e) (hk b o e)).elim
  · obtain ⟨_, h₁, tk₁, rfl, hk₁⟩ := hp
    exact hQ h' tk₁ _ (fun b o hbf e => hk' b o (hk₁ b o hbf e)) (bare_set (bare_set hb rfl) rfl)
end

section
variable {prog : Program} {w : World} {A : Around} {s : Shared} {h₀ : Heap} {L : Addr} {m : Str → Option Value} {K : Frag} {p : Program} {loose : List Str} {mean : ExcName → Option Value} {mg mb : Str → Option Value}
/-- a generator def is called: nothing runs yet -/
theorem code_gen {R : Result → Shared → Prop} {name qual : Str} {params : Arguments} {body : List Stmt} {scope : PySem.Scope} {dV kV doc pm cdv ct oc : Value} {an od : Option Addr} {osl : Array (Option Value)} {f : Addr} {args : Args} {binds : List (Str × Value)}
    (F : Fr h₀ L s.heap m) (X₀ : K.In h₀) (T : Top p loose mean mg mb h₀) (ho : K.lookup f = some ⟨oc, od, .func (fnOf name qual params body scope dV kV doc pm an cdv ct), osl⟩) (hcd : codeIn K cdv qual = true) (hroom : A.depth < recursionLimit)
    (hbind : bindArgs (fnOf name qual params body scope dV kV doc pm an cdv ct) args = pure binds) (hloc : ∀ y ∈ binds, scope.names.lookup y.1 = some .local)
    (h : ∀ h₁ : Heap, h₁.Ns s.heap.objs.size (fun y => binds.reverse.lookup y) → h₁.objs.size = s.heap.objs.size + 1 → (∀ b o, s.heap.get? b = some o → h₁.get? b = some o) →
      R (.ok (.ret (.ref (s.heap.objs.size + 1)))) { s with gens := s.gens.push (.fresh (.func body (envOf qual scope s.heap.objs.size f cdv))), toks := s.toks + binds.length + 1 + 1, heap := h₁.push { cls := .type "generator", data := .fields #[.int s.gens.size 0, .str name (s.toks + binds.length), .str qual (s.toks + binds.length + 1)] } })
    (hco : scope.isCoroutine = false) (hgen : scope.isGenerator = true) (hk : scope.kind = .function) (hcell : ∀ x ∈ scope.names, x.2 ≠ .cell) : codeAny (model prog w) A (.call (.ref f) args) R s := by
  refine codeAny_call_generator (fd := fnOf name qual params body scope dV kV doc pm an cdv ct) hroom (X₀.keeps F.keep _ _ ho) rfl hco hgen rfl (codeRec_of (X₀.keeps F.keep) hcd) ?_
  rw [hbind]
  refine wpAny_pure (wpAny_newFunctionEnv hcell hloc (fun h₁ hns hsb => ⟨(T.nolimit.keeps F.keep).fresh _ hsb, ?_⟩) hk)
  have hz : h₁.objs.size = s.heap.objs.size + 1 := by rw [hsb.1, Heap.size_push]
  have := h h₁ hns hz fun b o e => hsb.extBut b o (Nat.ne_of_lt (Heap.lt_size e)) (Heap.get?_push_of_some _ e)
  show R (.ok (.ret (.ref h₁.objs.size))) _
  rw [hz]
  exact this
end

section
variable {h₀ h h' : Heap} {L : Addr} {m m' : Str → Option Value}
/-- all that stands in h beside the frame and the ground -/
theorem all_news (h₀ h : Heap) (L : Addr) : ∃ all, News h₀ L h all ∧ ∀ b o, b ≠ L → h₀.get? b = none → h.get? b = some o → (b, o) ∈ all := by
  refine ⟨ownOf h₀ ((List.range h.objs.size).filter fun b => b ≠ L) h, news_ownOf (by simp), fun b o hb hn e => mem_ownOf ?_ hn e⟩
  rw [List.mem_filter]
  exact ⟨List.mem_range.mpr (Heap.lt_size e), by simpa using hb⟩
theorem all_kept {all news' : List (Addr × Obj)} (F : Fr h₀ L h m) (hall : ∀ b o, b ≠ L → h₀.get? b = none → h.get? b = some o → (b, o) ∈ all) (F' : Fr h₀ L h' m') (N' : News h₀ L h' news') (sub : ∀ p ∈ all, p ∈ news') :
    ∀ b o, b ≠ L → h.get? b = some o → h'.get? b = some o := by
  intro b o hb e
  cases hn : h₀.get? b with
  | none => exact (N' _ (sub _ (hall b o hb hn e))).1
  | some o₀ =>
    have := F.keep b o₀ hn
    rw [e] at this
    cases this
    exact F'.keep b o hn
end

theorem GenSt.start {prog : Program} {w : World} {A : Around} {s : Shared} {hs : Heap} {a : Addr} {g sz : Nat} {fp : List Addr} {toks : List (Nat × Str)} {c : Code} (hg : s.heap.IsGen a g) (hz : s.heap.objs.size = sz) (hgs : s.gens[g]? = some (.fresh c))
    (h : ∀ s'' : Shared, (∀ b ∈ fp, ∀ o, s.heap.get? b = some o → s''.heap.get? b = some o) → s''.heap.objs.size = sz → hs.StaysIn s''.heap → Seg (model prog w) A.in1 (gR fp) (gY hs fp toks) toks.length s'' c ((model prog w).den c) [] s'') :
    GenSt prog w A hs a g sz fp toks 0 s := ⟨hg, fun _ => hz, .fresh c, hgs, fun s'' hal hz' hk => ⟨rfl, h s'' hal (hz' rfl) hk⟩⟩

theorem draws_str {prog : Program} {w : World} {h : Heap} {I : Addr} {x : Str} {t : Tok} (hit : h.IsStrIter I (strIterType x) x t 0) :
    ∃ St, (∀ A : Around, A.handled = none → Draws prog w A I [I] x.cps.size (fun i v => ∃ c u, x.cps[i]? = some c ∧ v = .str ⟨#[c]⟩ u) St) ∧ St 0 h := by
  cases ha : x.cps.all (· < 128)
  · exact ⟨_, fun A hA => Draws.strWide hA I x t, by simpa [strIterType, ha] using hit⟩
  · exact ⟨_, fun A hA => Draws.strAscii hA I x t, by simpa [strIterType, ha] using hit⟩

theorem call_enum_at {prog : Program} {w : World} {A : Around} {E : Value → Shared → Prop} {s : Shared} {x : Str} {t : Tok} {Q : Value → Shared → Prop} {sz : Nat} (hz : s.heap.objs.size = sz)
    (h : ∀ h', IsEnum h' (sz + 1) sz 0 .none → h'.IsStrIter sz (strIterType x) x t 0 → h'.objs.size = sz + 2 →
      (∀ b o, s.heap.get? b = some o → h'.get? b = some o) → Q (.ref (sz + 1)) { s with heap := h' }) :
    wpAny (model prog w) A (call (.type "enumerate") [.str x t]) Q E s := by
  subst hz
  exact call_enumerate_str h

/-- names that are known, over a map that is not -/
def ovr (ps : List (Str × Value)) (m : Str → Option Value) : Str → Option Value := fun y => match ps.lookup y with
  | some v => some v
  | none => m y
theorem ovr_eq {m : Str → Option Value} : ∀ {ps : List (Str × Value)}, (∀ p ∈ ps, m p.1 = some p.2) → ovr ps m = m := by
  intro ps h
  funext y
  unfold ovr
  cases e : ps.lookup y with
  | none => rfl
  | some v =>
    have : (y, v) ∈ ps := by
      clear h
      induction ps with
      | nil => cases e
      | cons p r ih =>
        rw [List.lookup_cons] at e
        cases hy : (y == p.1) with
        | true => rw [hy] at e; cases e; rw [beq_iff_eq.mp hy]; exact .head _
        | false => rw [hy] at e; exact .tail _ (ih e)
    exact (h _ this).symm
theorem fr_ovr {h₀ h : Heap} {L : Addr} {m : Str → Option Value} (F : Fr h₀ L h m) (ps : List (Str × Value)) (hp : ∀ p ∈ ps, m p.1 = some p.2) : Fr h₀ L h (ovr ps m) := by rw [ovr_eq hp]; exact F

theorem gy_mk {hs : Heap} {fp : List Addr} {toks : List (Nat × Str)} {n : Nat} {s₀ s₁ : Shared} {h' : Heap} {tk' : Nat} {T L : Addr} {p : Nat} {c : Str} {tp tc : Tok} {kap : Resume → Shared → Prop} {all : List (Addr × Obj)}
    (hsn : Since fp s₀ s₁) (kept : ∀ b o, b ≠ L → s₁.heap.get? b = some o → h'.get? b = some o) (N' : News hs L h' ((T, tupOf [.int (p : Nat) tp, .str c tc]) :: all))
    (hL : L ∈ fp) (htok : toks[toks.length - 1 - n]? = some (p, c))
    (k : ∀ s'' : Shared, (∀ b ∈ fp, ∀ o, h'.get? b = some o → s''.heap.get? b = some o) → hs.StaysIn s''.heap → kap (.send .none) s'') :
    gY hs fp toks n s₀ (.ref T) { s₁ with heap := h', toks := tk' } kap :=
  ⟨⟨p, c, T, tp, tc, htok, rfl, (N' _ (.head _)).1⟩, hsn.step fun b o hb e => kept b o (fun q => hb (q ▸ hL)) e, k⟩
end Mine

end
section
open PySem PySem.W PySem.Calls PyProof.Rows
open Sem (wp)
set_option linter.unusedVariables false
namespace Mine
section
variable {prog : Program} {w : World} {A : Around} {E : Value → Shared → Prop} {s : Shared} {env : Env} {h₀ : Heap} {Q : Flow → Shared → Prop} {body : List Stmt}

/-- a for over the generator's tokens -/
def GenAtLoop (prog : Program) (w : World) (A : Around) (h₀ : Heap) (env : Env) (body : List Stmt) (Q : Flow → Shared → Prop) (E : Value → Shared → Prop) (xv : Value) (s : Shared) : Prop :=
  ∃ (a g sz : Nat) (fp : List Addr) (toks : List (Nat × Str)) (m : Str → Option Value) (news : List (Addr × Obj)) (J : Nat → (Str → Option Value) → List (Addr × Obj) → Prop),
    xv = .ref a ∧ GenSt prog w A h₀ a g sz fp toks 0 s ∧ h₀.NoLimit ∧ A.depth < recursionLimit ∧ AllBare s.gens ∧ env.locals ∉ fp ∧ a ∉ fp ∧ a ≠ env.locals ∧ (∀ b ∈ fp, h₀.get? b = none) ∧ h₀.get? a = none ∧
    (∀ q ∈ news, q.1 ∉ fp ∧ q.1 ≠ a) ∧ Fr h₀ env.locals s.heap m ∧ News h₀ env.locals s.heap news ∧ J 0 m news ∧
    (∀ i p c tp tc m₁ news₁ own h tk gs, toks[i]? = some (p, c) → news₁.map (·.1) = news.map (·.1) → OwnOff own (news.map (·.1)) → J i m₁ news₁ →
      Fr h₀ env.locals h (fun y => if y = "ch" then some (.str c tc) else if y = "pos" then some (.int (p : Nat) tp) else m₁ y) → News h₀ env.locals h (news₁ ++ own) → AllBare gs →
      wpAny (model prog w) A (execs body env) (InvPostN h₀ env.locals (J (i + 1)) own (news.map (·.1)) { s with heap := h, toks := tk, gens := gs } Q) E { s with heap := h, toks := tk, gens := gs }) ∧
    (∀ m₁ news₁ h tk gs, J toks.length m₁ news₁ → Fr h₀ env.locals h m₁ → News h₀ env.locals h news₁ → AllBare gs → Q .next { s with heap := h, toks := tk, gens := gs })

theorem For_gen {iter : Expr} {p1 p2 pt pos : Pos} {k : Nat} (hh : A.handled = none) (hk1 : env.kindOf "pos" = some .local) (hk2 : env.kindOf "ch" = some .local)
    (hp : (env.scope.kind == .class || (env.scope.kind == .module && env.locals != env.globals)) = false)
    (h : wpAny (model prog w) A (eval iter env) (fun xv s₁ => GenAtLoop prog w A h₀ env body Q E xv s₁) E s)
    (hs : ∀ x, foldedSetIterable iter env x = pure x) (hE : PassesOwn (model prog w) A env E) :
    wpAny (model prog w) A (exec (.For (.Tuple [.Name "pos" p1, .Name "ch" p2] k pt) iter body [] pos) env) Q E s := by
  refine wpAny_For (wpAny_mono h (fun xv s₁ h₁ => ?_) fun _ _ e => e) hs
  obtain ⟨a, g, sz, fp, toks, m, news, J, rfl, G, hlim, hroom, hb, hLf, haf, haL, hfs, ha0, hnew, F, N, hJ, turn, done⟩ := h₁
  refine wpAny_pyIter_gen G.1 ?_
  refine codeAny_forLoop_any (R := fun r s' => match r with | .ok f => Q f s' | .error e => cameBackBy (model prog w) A env E e s')
    (fun kk s' => ∃ h' tk' gs m' news' i, s' = { s₁ with heap := h', toks := tk', gens := gs } ∧ GenSt prog w A h₀ a g sz fp toks i s' ∧ AllBare gs ∧ Fr h₀ env.locals h' m' ∧ News h₀ env.locals h' news' ∧ news'.map (·.1) = news.map (·.1) ∧ J i m' news' ∧ i ≤ toks.length ∧ kk = toks.length + 1 - i) ?_ (toks.length + 1)
    ⟨s₁.heap, s₁.toks, s₁.gens, m, news, 0, rfl, G, hb, F, N, rfl, hJ, Nat.zero_le _, rfl⟩
  rintro kk s' ⟨h', tk', gs, m', news', i, rfl, G', hb', F', N', hadr, hJ', hi, rfl⟩
  have hnew' : ∀ q ∈ news', q.1 ∉ fp ∧ q.1 ≠ a := by
    intro q hq
    have h1 : q.1 ∈ news'.map (·.1) := List.mem_map_of_mem hq
    rw [hadr] at h1
    obtain ⟨r, hr, e⟩ := List.mem_map.mp h1
    exact e ▸ hnew r hr
  by_cases hlt : i < toks.length
  · refine G'.item hlt F'.keep hlim hh hroom haf hb' fun T p c tp tc h₁ tk₁ gs₁ htok hT hkeep G₁ hb₁ => ?_
    dsimp only at hkeep ⊢
    have go : wpAny (model prog w) A (letOwnedTupleGo (.Tuple [.Name "pos" p1, .Name "ch" p2] k pt) (.ref a) (.ref T)) (fun _ s₁' => s₁' = { s₁ with heap := h₁, toks := tk₁, gens := gs₁ }) (fun _ _ => False) { s₁ with heap := h₁, toks := tk₁, gens := gs₁ } := by
      obtain ⟨o, nm, qn, hoa, hoc, hod, _⟩ := G₁.1
      unfold letOwnedTupleGo
      refine wpAny_bind (wpAny_load hoa ?_)
      rw [hoc, hod]
      exact wpAny_pure rfl
    refine wpAny_mono go (fun _ s₂ e => ?_) fun _ _ e => e.elim
    subst e
    have hT' : h₁.IsTuple T #[.int (p : Nat) tp, .str c tc] := ⟨_, hT, rfl, _, rfl⟩
    refine wpAny_assign_Tuple hh hT' rfl rfl fun h₃ hx₃ => ?_
    replace hx₃ : Heap.ExtBut h₁.objs.size h₁ h₃ := hx₃
    have old₃ : ∀ b o, h₁.get? b = some o → h₃.get? b = some o := fun b o e => hx₃ b o (Nat.ne_of_lt (Heap.lt_size e)) e
    have F₃ : Fr h₀ env.locals h₃ m' := ⟨F'.ns.at' fun o e => old₃ _ o (hkeep _ o hLf e), fun b o e => old₃ b o (hkeep b o (fun hm => by rw [hfs b hm] at e; cases e) (F'.keep b o e)), F'.above⟩
    have N₃ : News h₀ env.locals h₃ news' := fun q hq => ⟨old₃ _ _ (hkeep _ _ (hnew' q hq).1 (N' q hq).1), (N' q hq).2⟩
    have No : News h₀ env.locals h₃ (ownOf h₀ (a :: fp) h₃) := news_ownOf (fun hm => by rcases List.mem_cons.mp hm with e | hm; exact haL e.symm; exact hLf hm)
    show wpAny _ _ (do holding [Value.str c tc] (assign (.Name "pos" p1) env (.int (p : Nat) tp)); do holding [] (assign (.Name "ch" p2) env (.str c tc)); pure ()) _ _ _
    refine wpAny_bind (wpAny_holding (wpAny_assign_Name (wpAny_storeName_local hk1 F₃.ns (fun h₄ hn₄ hs₄ => ?_) hp)))
    refine wpAny_bind (wpAny_holding (wpAny_assign_Name (wpAny_storeName_local hk2 hn₄ (fun h₅ hn₅ hs₅ => wpAny_pure ?_) hp)))
    have F₅ := (F₃.set hn₄ hs₄).set hn₅ hs₅
    have N₅ := (N₃.set hs₄).set hs₅
    have No₅ := (No.set hs₄).set hs₅
    replace hs₄ : Heap.SameBut env.locals h₃ h₄ := hs₄
    replace hs₅ : Heap.SameBut env.locals h₄ h₅ := hs₅
    have hoff : OwnOff (ownOf h₀ (a :: fp) h₃) (news.map (·.1)) := by
      intro q hq b hbm e
      obtain ⟨r, hr, rfl⟩ := List.mem_map.mp hbm
      have hqm := ownOf_sub q hq
      rw [e] at hqm
      rcases List.mem_cons.mp hqm with e1 | e1
      · exact (hnew r hr).2 e1
      · exact (hnew r hr).1 e1
    refine wpAny_passesOwn hE (wpAny_mono (turn i p c tp tc m' news' _ h₅ _ gs₁ htok hadr hoff hJ' F₅ (fun q hq => (List.mem_append.mp hq).elim (N₅ q) (No₅ q)) hb₁) (fun f s₃ hf => ?_) fun _ _ e => e)
    have fin : InvEndN h₀ env.locals (J (i + 1)) (ownOf h₀ (a :: fp) h₃) (news.map (·.1)) { s₁ with heap := h₅, toks := tk₁ + 1 + 1, gens := gs₁ } s₃ → ∃ mm, mm < toks.length + 1 - i ∧ ∃ h' tk' gs m' news' i, s₃ = { s₁ with heap := h', toks := tk', gens := gs } ∧ GenSt prog w A h₀ a g sz fp toks i s₃ ∧ AllBare gs ∧ Fr h₀ env.locals h' m' ∧ News h₀ env.locals h' news' ∧ news'.map (·.1) = news.map (·.1) ∧ J i m' news' ∧ i ≤ toks.length ∧ mm = toks.length + 1 - i := by
      rintro ⟨h₆, tk₆, m₆, news₆, nx, rfl, F₆, N₆, hnx, hown, ha, hj⟩
      refine ⟨toks.length + 1 - (i + 1), by omega, h₆, tk₆, gs₁, m₆, nx, i + 1, rfl, ?_, hb₁, F₆, (fun q hq => N₆ q (hnx q hq)), ha, hj, hlt, rfl⟩
      have up : ∀ b ∈ a :: fp, ∀ o, h₁.get? b = some o → h₆.get? b = some o := by
        intro b hbm o e
        have hb0 : h₀.get? b = none := by
          rcases List.mem_cons.mp hbm with e1 | e1
          · exact e1 ▸ ha0
          · exact hfs b e1
        exact (N₆ _ (hown _ (mem_ownOf hbm hb0 (old₃ b o e)))).1
      exact G₁.frame (fun o e => up a (List.mem_cons_self ..) o e) (fun b hbm o e => up b (List.mem_cons_of_mem _ hbm) o e) (fun e => absurd e (Nat.succ_ne_zero i))
    cases f with
    | ret v => exact hf
    | brk => exact hf
    | next => exact fin hf
    | cont => exact fin hf
  · have hin : i = toks.length := by omega
    subst hin
    refine G'.done F'.keep hlim hh hroom hfs hb' fun h₁ tk₁ gs₁ hkeep hb₁ => wpAny_execs_nil ?_
    dsimp only at hkeep ⊢
    refine done m' news' h₁ tk₁ gs₁ hJ' ⟨F'.ns.at' fun o e => hkeep _ o hLf e, fun b o e => hkeep b o (fun hm => by rw [hfs b hm] at e; cases e) (F'.keep b o e), F'.above⟩ (fun q hq => ⟨hkeep _ _ (hnew' q hq).1 (N' q hq).1, (N' q hq).2⟩) hb₁

theorem genAt_mk {La g : Nat} {toks : List (Nat × Str)} {m : Str → Option Value} {news : List (Addr × Obj)} (J : Nat → (Str → Option Value) → List (Addr × Obj) → Prop)
    (F : Fr h₀ env.locals s.heap m) (N : News h₀ env.locals s.heap news) (hlt : env.locals < La) (hltn : ∀ p ∈ news, p.1 < La) (G : GenSt prog w A h₀ (La + 1) g (La + 2) [La, La + 2, La + 3] toks 0 s)
    (hlim : h₀.NoLimit) (hroom : A.depth < recursionLimit) (hb : AllBare s.gens) (hJ : J 0 m news)
    (turn : ∀ i p c tp tc m₁ news₁ own h tk gs, toks[i]? = some (p, c) → news₁.map (·.1) = news.map (·.1) → OwnOff own (news.map (·.1)) → J i m₁ news₁ →
      Fr h₀ env.locals h (fun y => if y = "ch" then some (.str c tc) else if y = "pos" then some (.int (p : Nat) tp) else m₁ y) → News h₀ env.locals h (news₁ ++ own) → AllBare gs →
      wpAny (model prog w) A (execs body env) (InvPostN h₀ env.locals (J (i + 1)) own (news.map (·.1)) { s with heap := h, toks := tk, gens := gs } Q) E { s with heap := h, toks := tk, gens := gs })
    (done : ∀ m₁ news₁ h tk gs, J toks.length m₁ news₁ → Fr h₀ env.locals h m₁ → News h₀ env.locals h news₁ → AllBare gs → Q .next { s with heap := h, toks := tk, gens := gs }) :
    GenAtLoop prog w A h₀ env body Q E (.ref (La + 1)) s := by
  have hL0 : h₀.objs.size ≤ La := Nat.le_trans F.above (Nat.le_of_lt hlt)
  have h3 : ∀ b : Nat, b ∈ [La, La + 2, La + 3] → (@Eq Nat b La ∨ @Eq Nat b (La + 2) ∨ @Eq Nat b (La + 3)) := fun b hb => by simpa using hb
  refine ⟨La + 1, g, La + 2, _, toks, m, news, J, rfl, G, hlim, hroom, hb, fun hm => ?_, fun hm => ?_, fun e => ?_, fun b hbm => ?_, ?_, fun q hq => ⟨fun hm => ?_, fun e => ?_⟩, F, N, hJ, turn, done⟩
  · have := h3 _ hm
    have hlt' : @LT.lt Nat _ env.locals La := hlt
    omega
  · have := h3 _ hm; omega
  · have hlt' : @LT.lt Nat _ env.locals La := hlt
    have e' : @Eq Nat (La + 1) env.locals := e
    omega
  · exact Heap.get?_none_of_le (by have := h3 _ hbm; have h0 : @LE.le Nat _ h₀.objs.size La := hL0; show @LE.le Nat _ h₀.objs.size b; omega)
  · exact Heap.get?_none_of_le (Nat.le_succ_of_le hL0)
  · have := h3 _ hm
    have hq' : @LT.lt Nat _ q.1 La := hltn q hq
    omega
  · have hq' : @LT.lt Nat _ q.1 La := hltn q hq
    have e' : @Eq Nat q.1 (La + 1) := e
    omega
end
end Mine

end
section
open PySem PySem.W PySem.Calls PyProof.Rows
set_option linter.unusedVariables false
namespace Mine
/-- as Fn, for a def that makes generators: gens may grow, all bare -/
def FnG (prog : Program) (w : World) (K : Frag) (p : Program) (f : Addr) (need : Nat) (vs : List Value) (P : Value → Prop) : Prop :=
  ∀ (loose : List Str) (mean : ExcName → Option Value) (mg mb : Str → Option Value) (dp un : Nat) (gd : Option (List Code)) (cn : Str) (cs : PySem.Scope) (a : Addr) (ccd : Value) (cl : List (Str × Addr)) (outer : List Env) (A₀ : Around) (base h₀ : Heap) (L : Addr) (m : Str → Option Value) (news : List (Addr × Obj)) (s : Shared) (Q E : Value → Shared → Prop),
    Below A₀ base outer h₀ → Fr h₀ L s.heap m → K.In h₀ → News h₀ L s.heap news → Top p loose mean mg mb h₀ → cs.kind = .function → AllBare s.gens →
    dp + need < recursionLimit → un + 8 * need < cLine →
    (∀ (v : Value) (h' : Heap) (tk' : Nat) (gs : Array GenState), P v → Fr h₀ L h' m → News h₀ L h' news → AllBare gs → Q v { s with heap := h', toks := tk', gens := gs }) →
      wpAny (model prog w) (ktrTop dp un gd cn cs L a ccd cl outer) (call (.ref f) vs) Q E s
theorem FnG.use {prog : Program} {w : World} {K : Frag} {p : Program} {f : Addr} {need : Nat} {vs : List Value} {P : Value → Prop} (C : FnG prog w K p f need vs P)
    {loose : List Str} {mean : ExcName → Option Value} {mg mb : Str → Option Value} {dp un : Nat} {gd : Option (List Code)} {cn : Str} {cs : PySem.Scope} {a : Addr} {ccd : Value} {cl : List (Str × Addr)} {outer : List Env} {A₀ : Around} {base h₀ : Heap} {L : Addr} {m : Str → Option Value} {news : List (Addr × Obj)} {s : Shared} {Q E : Value → Shared → Prop}
    (B : Below A₀ base outer h₀) (F : Fr h₀ L s.heap m) (X : K.In h₀) (N : News h₀ L s.heap news) (T : Top p loose mean mg mb h₀) (hk : cs.kind = .function) (hb : AllBare s.gens)
    (hd : dp + need < recursionLimit) (hu : un + 8 * need < cLine)
    (ret : ∀ (v : Value) (h' : Heap) (tk' : Nat) (gs : Array GenState), P v → Fr h₀ L h' m → News h₀ L h' news → AllBare gs → Q v { s with heap := h', toks := tk', gens := gs }) :
    wpAny (model prog w) (ktrTop dp un gd cn cs L a ccd cl outer) (call (.ref f) vs) Q E s :=
  C _ _ _ _ _ _ _ _ _ _ _ _ _ _ _ _ _ _ _ _ _ _ B F X N T hk hb hd hu ret

def stripStep (x : Str) (st : Int × Option Int × List Str) (tok : Nat × Str) : Int × Option Int × List Str :=
  if tok.2 == Str.ofString "\"" then (match st.2.1 with
    | none => (st.1, some (tok.1 : Int), st.2.2)
    | some o => ((tok.1 : Int) + 1, none, if st.1 != o then st.2.2 ++ [Txt.slice x (some st.1) (some o)] else st.2.2)) else st
def stripQ (x : Str) : Str :=
  if Txt.contains x (Str.ofString "\"") then
    let st := (tokList 0 false x.cps.toList).foldl (stripStep x) (0, none, [])
    Txt.join (Str.ofString "") (if st.1 < x.length then st.2.2 ++ [Txt.slice x (some st.1) none] else st.2.2)
  else x
def optV : Option Int → Tok → Value
  | none, _ => .none
  | some i, t => .int i t

theorem tok_lt : ∀ (cs : List Nat) (i : Nat) (esc : Bool), (esc = true → 1 ≤ i) → ∀ q ∈ tokList i esc cs, q.1 < i + cs.length
  | [], i, false, _, q, hq => by simp [tokList] at hq
  | [], i, true, h, q, hq => by
    have := h rfl
    simp [tokList] at hq
    subst hq
    simp only [List.length_nil]
    omega
  | c :: r, i, esc, h, q, hq => by
    rw [tokList_cons, List.mem_append] at hq
    rcases hq with hq | hq
    · have : q.1 = i := by
        unfold tokAt at hq
        split at hq
        · simp at hq; rw [hq]
        · split at hq
          · simp at hq
          · simp at hq; rw [hq]
      rw [this, List.length_cons]
      omega
    · have := tok_lt r (i + 1) _ (fun _ => Nat.le_add_left 1 i) q hq
      rw [List.length_cons]
      omega
theorem tok_len : ∀ (cs : List Nat) (i : Nat) (esc : Bool), (tokList i esc cs).length ≤ cs.length + (if esc then 1 else 0)
  | [], i, false => by simp [tokList]
  | [], i, true => by simp [tokList]
  | c :: r, i, esc => by
    rw [tokList_cons, List.length_append]
    have := tok_len r (i + 1) (escNext esc c)
    cases esc with
    | true => simp [tokAt, escNext] at this ⊢; omega
    | false =>
      by_cases h9 : c = 92
      · subst h9; simp [tokAt, escNext] at this ⊢; omega
      · have e1 : (c == 92) = false := by simpa using h9
        simp [tokAt, escNext, h9, e1] at this ⊢; omega

theorem push_text {g' h : Heap} {L R : Addr} {l : List (Str × Tok)} {y : Str} {tt : Tok} {n : Nat} {rest : List (Addr × Obj)} (N : News g' L h ((R, listOf ((strValues l).toArray.push (.str y tt)) n) :: rest)) :
    ∃ l', News g' L h ((R, listOf (strValues l').toArray n) :: rest) ∧ l'.map (·.1) = l.map (·.1) ++ [y] ∧ l'.length = l.length + 1 ∧ ∀ q ∈ l', q ∈ l ∨ q.1 = y := by
  refine ⟨l ++ [(y, tt)], ?_, by simp, by simp, fun q hq => ?_⟩
  · have e : (strValues l).toArray.push (.str y tt) = (strValues (l ++ [(y, tt)])).toArray := by simp [strValues]
    rw [← e]
    exact N
  · rcases List.mem_append.mp hq with hq | hq
    · exact .inl hq
    · exact .inr (by rw [List.mem_singleton.mp hq])
theorem push_size {l : List (Str × Tok)} (h : l.length ≤ 1000) : (strValues l).toArray.size ≤ sizeLine := by
  simp [strValues]
  have := sizeLine_eq
  omega

theorem join_ok {texts : List Str} (h : ∀ y ∈ texts, y.length ≤ 1000) (hn : texts.length ≤ 1001) : JoinOk (Str.ofString "") texts = true := by
  unfold JoinOk
  rw [StrLaws.joinTotal]
  have h1 : (texts.map (·.length)).sum ≤ texts.length * 1000 := by
    clear hn
    induction texts with
    | nil => simp
    | cons y r ih =>
      have := ih fun z hz => h z (List.mem_cons_of_mem _ hz)
      have := h y (List.mem_cons_self ..)
      simp only [List.map_cons, List.sum_cons, List.length_cons]
      omega
  have h2 : (Str.ofString "").length = 0 := by decide
  rw [h2]
  have := sizeLine_eq
  simp only [Builtin.Str.tooLong, Bool.not_eq_true', decide_eq_false_iff_not]
  omega

def checkStep (st : Option Int) (tok : Nat × Str) : Option Int := match st with
  | none => none
  | some o => if tok.2 == Str.ofString "(" then some (o + 1) else if tok.2 == Str.ofString ")" then (if o - 1 < 0 then none else some (o - 1)) else some o
def checkP (x : Str) : Bool := match (tokList 0 false (stripQ x).cps.toList).foldl checkStep (some 0) with
  | some o => o == 0
  | none => false
theorem check_none : ∀ l : List (Nat × Str), l.foldl checkStep none = none
  | [] => rfl
  | _ :: r => check_none r
end Mine

end
section
open PySem PySem.W PySem.Calls PyProof.Rows
open Sem (wp)
set_option linter.unusedVariables false
set_option maxRecDepth 100000
set_option maxHeartbeats 4000000
namespace Mine
theorem gen_make (w : World) (x : Str) (t : Tok)
    (loose : List Str) (mean : ExcName → Option Value) (mg mb : Str → Option Value) (dp un : Nat) (gd : Option (List Code)) (cn : Str) (cs : PySem.Scope) (a : Addr) (ccd : Value) (cl : List (Str × Addr)) (outer : List Env) (A₀ : Around) (base h₀ : Heap) (L : Addr) (m : Str → Option Value) (news : List (Addr × Obj)) (s : Shared) (Q E : Value → Shared → Prop)
    (B : Below A₀ base outer h₀) (F : Fr h₀ L s.heap m) (X : (Mine.hd.heap_39 w.params).In h₀) (N : News h₀ L s.heap news) (T : Top Mine.hd.view_39 loose mean mg mb h₀) (hk : cs.kind = .function)
    (hd9 : dp + 1 < recursionLimit) (hu9 : un + 8 < cLine)
    (hret : ∀ (L' : Addr) (h' : Heap) (tk' : Nat) (c : Code), Fr h₀ L h' m → News h₀ L h' news → L < L' → (∀ p ∈ news, p.1 < L') → h'.objs.size = L' + 2 → (∀ b o, s.heap.get? b = some o → h'.get? b = some o) →
      (∀ A' : Around, A'.handled = none → GenSt PySem.Challenge.rw_rw0063_02.row.prog w A' h₀ (L' + 1) s.gens.size (L' + 2) [L', L' + 2, L' + 3] (tokList 0 false x.cps.toList) 0 { s with heap := h', toks := tk', gens := s.gens.push (.fresh c) }) →
      Q (.ref (L' + 1)) { s with heap := h', toks := tk', gens := s.gens.push (.fresh c) }) :
    wpAny (model PySem.Challenge.rw_rw0063_02.row.prog w) (ktrTop dp un gd cn cs L a ccd cl outer) (call (.ref 42) [.str x t]) Q E s := by
  revert X; k_fill; intro X
  refine wpAny_call ?_
  refine' code_gen ?k1 ?k2 ?k3 ?k4 ?k5 ?k6 ?k7 ?k8 ?_ ?c1 ?c2 ?c3 ?c4
  case k1 => exact F
  case k2 => exact X
  case k3 => exact T
  case k4 => k_is
  case k5 => k_is
  case k6 => ktr_room
  case k7 => exact rfl
  case k8 => exact locs rfl
  case c1 => exact rfl
  case c2 => exact rfl
  case c3 => exact rfl
  case c4 => decide
  intro h₁ hns hz hkeep
  have hLs : L < s.heap.objs.size := F.ns.lt
  have hL0 : h₀.objs.size ≤ s.heap.objs.size := Nat.le_trans F.above (Nat.le_of_lt hLs)
  refine hret s.heap.objs.size _ _ _ ?_ ?_ hLs (fun p hp => Heap.lt_size (N p hp).1) (by rw [Heap.size_push, hz]) (fun b o e => Heap.get?_push_of_some _ (hkeep b o e)) (fun A' hA' => ?_)
  · exact ⟨F.ns.at' fun o e => Heap.get?_push_of_some _ (hkeep _ o e), fun b o e => Heap.get?_push_of_some _ (hkeep b o (F.keep b o e)), F.above⟩
  · exact fun p hp => ⟨Heap.get?_push_of_some _ (hkeep _ _ (N p hp).1), (N p hp).2⟩
  refine GenSt.start ⟨_, _, _, by show (h₁.push _).get? (s.heap.objs.size + 1) = _; rw [← hz]; exact Heap.get?_push_size _ rfl, rfl, rfl, rfl⟩ (by show (h₁.push _).objs.size = _; rw [Heap.size_push, hz]) (Array.getElem?_push_size ..) fun s'' hal hz'' hs'' => ?_
  have F₁ : Fr h₀ s.heap.objs.size s''.heap _ := ⟨hns.at' fun o e => hal _ (by simp) o (Heap.get?_push_of_some _ e), hs'', hL0⟩
  obtain ⟨all, Nall, hall⟩ := all_news h₀ s''.heap s.heap.objs.size
  have hallz : ∀ p ∈ all, p.1 < s.heap.objs.size + 2 := fun p hp => hz'' ▸ Heap.lt_size (Nall p hp).1
  clear hal hns hkeep hret F N hz
  generalize s.heap.objs.size = L' at *
  clear hs''
  refine seg_func ?_
  refine seg_stmt (wpAny_Assign_Name (wpAny_Constant_int (wpAny_storeName_local rfl F₁.ns (fun h₂ hn₂ hs₂ => ⟨rfl, ?_⟩) rfl)) rfl)
  have F₂ := F₁.set hn₂ hs₂
  have N₂ := Nall.set hs₂
  have z₂ : h₂.objs.size = L' + 2 := hs₂.1.trans hz''
  have k₂ : ∀ b o, b ≠ L' → s''.heap.get? b = some o → h₂.get? b = some o := fun b o hb e => (hs₂.2 b hb).trans e
  clear hs₂ hn₂ Nall
  refine seg_stmt (wpAny_Assign_Name (Constant_bool (wpAny_storeName_local rfl F₂.ns (fun h₃ hn₃ hs₃ => ⟨rfl, ?_⟩) rfl)) rfl)
  have F₃ := F₂.set hn₃ hs₃
  have N₃ := N₂.set hs₃
  have z₃ : h₃.objs.size = L' + 2 := hs₃.1.trans z₂
  have k₃ : ∀ b o, b ≠ L' → s''.heap.get? b = some o → h₃.get? b = some o := fun b o hb e => (hs₃.2 b hb).trans (k₂ b o hb e)
  clear hs₃ hn₃ F₂ N₂ z₂ k₂ F₁ hall hallz
  refine seg_execs_cons ?_
  refine seg_For ?_
  k_steps
  refine call_enum_at z₃ fun h₄ hen hit hz₄ hk₄ => ?_
  replace hk₄ : ∀ b o, h₃.get? b = some o → h₄.get? b = some o := hk₄
  refine wpAny_pyIter_enum (e := L' + 3) (it := L' + 2) (i := 0) (old := .none) hen ?_
  obtain ⟨St, D, hst⟩ := draws_str (prog := PySem.Challenge.rw_rw0063_02.row.prog) (w := w) hit
  have W := fun (A'' : Around) (hA'' : A''.handled = none) => (WalksT.enumerateD (it := L' + 2) (D A''.in1 hA'') (L' + 3) (Nat.succ_ne_self _) (fun hm => Nat.succ_ne_self _ (List.mem_singleton.mp hm)) (List.mem_singleton.mpr rfl)).toU
  have F₄ : Fr h₀ L' h₄ _ := ⟨F₃.ns.at' fun o e => hk₄ _ o e, fun b o e => hk₄ b o (F₃.keep b o e), F₃.above⟩
  intro p
  have hnone : ∀ b : Nat, L' ≤ b → h₀.get? b = none := fun b hb => Heap.get?_none_of_le (Nat.le_trans hL0 hb)
  refine gen_loop (t := t) (by exact hA') W ?hPt rfl rfl rfl rfl ?hwr ?hL ?hfw ?turn ?fin x.cps.size 0 false _ _ _ (Nat.sub_zero _) (Nat.zero_le _) ?htok (Nat.le_refl _) ?hloc ?hsince
  case hPt => rintro i vals ⟨tp, y, ⟨c, u, hc, rfl⟩, rfl⟩; exact ⟨tp, c, u, hc, rfl⟩
  case hwr =>
    intro b hb
    have hb' : b = L' + 3 ∨ b = L' + 2 := by simpa using hb
    rcases hb' with rfl | rfl
    · exact ⟨by simp, fun e => absurd e (by show ¬ (L' + 3 = L'); omega), hnone _ (by omega)⟩
    · exact ⟨by simp, fun e => absurd e (by show ¬ (L' + 2 = L'); omega), hnone _ (by omega)⟩
  case hL => exact List.mem_cons_self ..
  case hfw =>
    intro b hb
    have hb' : b = L' + 3 ∨ b = L' + 2 := by simpa using hb
    rcases hb' with rfl | rfl
    · exact ⟨by simp, fun e => absurd e (by show ¬ (L' + 3 = L'); omega)⟩
    · exact ⟨by simp, fun e => absurd e (by show ¬ (L' + 2 = L'); omega)⟩
  case htok => simp
  case hloc => exact ⟨⟨_, F₄, rfl, ⟨_, rfl⟩, rfl⟩, ⟨_, hen⟩, hst⟩
  case hsince => exact ⟨h₄, _, rfl, fun b o hb e => hk₄ b o (k₃ b o (fun q => hb (q ▸ List.mem_cons_self ..)) e)⟩
  case turn =>
    intro i esc c n s₀ s₁ m₁ tp tc hc F₁ ha hpo hch hes hst₁ hsn knone ksome
    replace D := D A' hA'
    clear F₄ hst hen hit hz₄ hk₄ N₃ F₃ z₃ k₃ hz''
    replace F₁ : Fr h₀ L' s₁.heap m₁ := F₁
    obtain ⟨all, Nall, hall⟩ := all_news h₀ s₁.heap L'
    have F₂ := fr_ovr F₁ [("escape", .bool esc), ("ch", .str ⟨#[c]⟩ tc), ("pos", .int (i : Nat) tp), ("addr", .str x t)] (by simp only [List.forall_mem_cons]; exact ⟨hes, hch, hpo, ha, by simp⟩)
    clear F₁
    refine seg_execs_cons (seg_If ?_)
    k_steps
    have kept0 : ∀ h' m' news', Fr h₀ L' h' m' → News h₀ L' h' news' → (∀ p ∈ all, p ∈ news') → ∀ b o, b ≠ L' → s₁.heap.get? b = some o → h'.get? b = some o := fun h' m' news' F' N' sub => all_kept F₂ hall F' N' sub
    cases esc with
    | true =>
      obtain ⟨n', rfl, htok, kgo⟩ := ksome _ rfl
      refine seg_yield1 rfl rfl rfl ?_ rfl rfl
      k_steps
      with_reducible rename (∀ s'', Seg _ _ _ _ _ _ _ _ _ _ → _) => hkap
      with_reducible rename Fr h₀ L' _ _ => F₃
      with_reducible rename News h₀ L' _ _ => N₃
      have kept := kept0 _ _ _ F₃ N₃ fun q hq => List.mem_cons_of_mem _ hq
      refine gy_mk (s₁ := s₁) hsn kept N₃ (List.mem_cons_self ..) htok fun s₄ hal hs₄ => hkap s₄ ?_
      have F₄ : Fr h₀ L' s₄.heap _ := ⟨F₃.ns.at' fun o e => hal _ (List.mem_cons_self ..) o e, hs₄, hL0⟩
      have hst₄ : (∃ old, IsEnum s₄.heap (L' + 3) (L' + 2) ((i + 1 : Nat) : Int) old) ∧ St (i + 1) s₄.heap := by
        obtain ⟨⟨old, he⟩, hst2⟩ := hst₁
        exact ⟨⟨old, hal _ (by simp) _ (kept _ _ (by show ¬ (L' + 3 = L'); omega) he)⟩, D.frame _ _ _ hst2 fun b hb o e => by
          rw [List.mem_singleton.mp hb] at e ⊢
          exact hal _ (by simp) _ (kept _ _ (by show ¬ (L' + 2 = L'); omega) e)⟩
      refine seg_stmt (wpAny_Assign_Name (Constant_bool (wpAny_storeName_local rfl F₄.ns (fun h₅ hn₅ hs₅ => ⟨rfl, ?_⟩) rfl)) rfl)
      have F₅ := F₄.set hn₅ hs₅
      refine seg_execs_nil (seg_again rfl (kgo s₄ _ ⟨h₅, _, rfl, fun b o hb e => (hs₅.2 b fun q => hb (q ▸ List.mem_cons_self ..)).trans e⟩ ⟨⟨_, F₅, rfl, ⟨_, rfl⟩, rfl⟩, ?_⟩))
      obtain ⟨⟨old, he⟩, hst2⟩ := hst₄
      exact ⟨⟨old, (hs₅.2 _ (by show ¬ (L' + 3 = L'); omega)).trans he⟩, D.frame _ _ _ hst2 fun b hb o e => by
        rw [List.mem_singleton.mp hb] at e ⊢
        exact (hs₅.2 _ (by show ¬ (L' + 2 = L'); omega)).trans e⟩
    | false =>
      refine seg_execs_cons (seg_If ?_)
      k_steps
      have bq : ((⟨#[c]⟩ : Str) == Str.ofString "\\") = (c == 92) := by
        by_cases h9 : c = 92
        · subst h9; decide
        · have e1 : (c == 92) = false := by simpa using h9
          rw [e1]
          exact beq_eq_false_iff_ne.mpr fun e => h9 (by have e2 := congrArg (fun y : Str => y.cps.toList) e; simpa [show (Str.ofString "\\") = ⟨#[92]⟩ from by decide +kernel] using e2)
      rw [bq]
      by_cases h9 : c = 92
      · subst h9
        refine seg_stmt (wpAny_Assign_Name (Constant_bool (wpAny_storeName_local rfl F₂.ns (fun h₅ hn₅ hs₅ => ⟨rfl, ?_⟩) rfl)) rfl)
        have F₅ := F₂.set hn₅ hs₅
        refine seg_execs_nil (seg_execs_nil (seg_again rfl (knone rfl _ (hsn.step fun b o hb e => (hs₅.2 b fun q => hb (q ▸ List.mem_cons_self ..)).trans e) ⟨⟨_, F₅, rfl, ⟨_, rfl⟩, rfl⟩, ?_⟩)))
        obtain ⟨⟨old, he⟩, hst2⟩ := hst₁
        exact ⟨⟨old, (hs₅.2 _ (by show ¬ (L' + 3 = L'); omega)).trans he⟩, D.frame _ _ _ hst2 fun b hb o e => by
          rw [List.mem_singleton.mp hb] at e ⊢
          exact (hs₅.2 _ (by show ¬ (L' + 2 = L'); omega)).trans e⟩
      · have e1 : (c == 92) = false := by simpa using h9
        rw [e1]
        obtain ⟨n', rfl, htok, kgo⟩ := ksome (i, ⟨#[c]⟩) (by simp [tokAt, h9])
        refine seg_yield1 rfl rfl rfl ?_ rfl rfl
        k_steps
        with_reducible rename (∀ s'', Seg _ _ _ _ _ _ _ _ _ _ → _) => hkap
        with_reducible rename Fr h₀ L' _ _ => F₃
        with_reducible rename News h₀ L' _ _ => N₃
        have kept := kept0 _ _ _ F₃ N₃ fun q hq => List.mem_cons_of_mem _ hq
        refine gy_mk (s₁ := s₁) hsn kept N₃ (List.mem_cons_self ..) htok fun s₄ hal hs₄ => hkap s₄ ?_
        have F₄ : Fr h₀ L' s₄.heap _ := ⟨F₃.ns.at' fun o e => hal _ (List.mem_cons_self ..) o e, hs₄, hL0⟩
        refine seg_execs_nil (seg_execs_nil (seg_again rfl (kgo s₄ _ (Since.refl _ _) ⟨⟨_, F₄, rfl, ⟨_, rfl⟩, by show _ = some (Value.bool (c == 92)); rw [e1]; rfl⟩, ?_⟩)))
        obtain ⟨⟨old, he⟩, hst2⟩ := hst₁
        exact ⟨⟨old, hal _ (by simp) _ (kept _ _ (by show ¬ (L' + 3 = L'); omega) he)⟩, D.frame _ _ _ hst2 fun b hb o e => by
          rw [List.mem_singleton.mp hb] at e ⊢
          exact hal _ (by simp) _ (kept _ _ (by show ¬ (L' + 2 = L'); omega) e)⟩
  case fin =>
    intro esc n s₀ s₁ hloc hsn htk hn
    clear F₄ hst hen hit hz₄ hk₄ N₃ F₃ z₃ k₃ hz'' D W
    obtain ⟨⟨m₁, F₁, ha, ⟨tp, hpo⟩, hes⟩, _⟩ := hloc
    replace F₁ : Fr h₀ L' s₁.heap m₁ := F₁
    obtain ⟨all, Nall, hall⟩ := all_news h₀ s₁.heap L'
    have F₂ := fr_ovr F₁ [("escape", .bool esc), ("pos", .int ((x.cps.size - 1 : Nat) : Int) tp), ("addr", .str x t)] (by simp only [List.forall_mem_cons]; exact ⟨hes, hpo, ha, by simp⟩)
    clear F₁
    have kept0 : ∀ h' m' news', Fr h₀ L' h' m' → News h₀ L' h' news' → (∀ p ∈ all, p ∈ news') → ∀ b o, b ≠ L' → s₁.heap.get? b = some o → h'.get? b = some o := fun h' m' news' F' N' sub => all_kept F₂ hall F' N' sub
    refine seg_leaf (.ok .next) ?_
    refine seg_execs_cons (seg_If ?_)
    k_steps
    have hlen := congrArg List.length htk
    rw [List.length_drop] at hlen
    cases esc with
    | false =>
      have h0 : n = 0 := by simp [tokList] at hlen; omega
      subst h0
      refine seg_execs_nil ?_
      exact seg_end (.ok (.ret .none)) ⟨rfl, rfl, hsn⟩
    | true =>
      have h1 : n = 1 := by simp [tokList] at hlen; omega
      subst h1
      refine seg_yield1 rfl rfl rfl ?_ rfl rfl
      k_steps
      with_reducible rename (∀ s'', Seg _ _ _ _ _ _ _ _ _ _ → _) => hkap
      with_reducible rename Fr h₀ L' _ _ => F₃
      with_reducible rename News h₀ L' _ _ => N₃
      have kept := kept0 _ _ _ F₃ N₃ fun q hq => List.mem_cons_of_mem _ hq
      have htok : (tokList 0 false x.cps.toList)[(tokList 0 false x.cps.toList).length - 1 - 0]? = some (x.cps.size - 1, Str.ofString "\\") := by
        have e0 : (tokList x.cps.size true []) = [(x.cps.size - 1, Str.ofString "\\")] := by rw [show Str.ofString "\\" = ⟨#[92]⟩ from by decide +kernel]; rfl
        rw [e0] at htk
        have e1 := congrArg (fun l => l[0]?) htk
        simp only [List.getElem?_drop] at e1
        simpa using e1.symm
      refine gy_mk (s₁ := s₁) hsn kept N₃ (List.mem_cons_self ..) htok fun s₄ hal hs₄ => hkap s₄ ?_
      refine seg_execs_nil (seg_execs_nil ?_)
      exact seg_end (.ok (.ret .none)) ⟨rfl, rfl, Since.refl _ _⟩
end Mine

end
section
open PySem PySem.W PySem.Calls PyProof.Rows
set_option linter.unusedVariables false
set_option maxRecDepth 100000
set_option maxHeartbeats 4000000
namespace Mine
theorem strip_fn (w : World) (x : Str) (t : Tok) (hx : x.length ≤ 1000) :
   FnG PySem.Challenge.rw_rw0063_02.row.prog w (Mine.hd.heap_39 w.params) Mine.hd.view_39 49 3 [.str x t] (fun v => ∃ t', v = .str (stripQ x) t') := by
  k_fill
  unfold FnG
  intro loose mean mg mb dp un gd cn cs aa ccd cl outer A₀ base h₀ L m news s Q E B F X N T hk hb hd9 hu9 hret
  refine wpAny_call ?_
  refine' code_def ?k1 ?k2 ?k3 ?k4 ?k5 ?kA ?kF ?kK ?k6 ?k7 ?k8 ?k9 ?kB ?_ ?c2 ?c3 ?c4 ?c5
  case kA => exact rfl
  case kF => exact rfl
  case kK => assumption
  case k1 => exact B
  case k2 => exact F
  case k3 => exact X
  case k4 => exact N
  case k5 => exact T
  case k6 => k_is
  case k7 => k_is
  case k8 => ktr_room
  case k9 => exact BindsTo.of_eq rfl
  case c5 => decide
  case kB => exact locs rfl
  case c2 => exact rfl
  case c3 => exact rfl
  case c4 => exact rfl
  intro g' L' h' FG F' N' B' X' T'
  dsimp only
  k_fold
  k_steps
  · rename Fr h₀ L _ m => kF
    rename News h₀ L _ _ => kN
    rename (Builtin.Str.occurrences x (Str.ofString "\"") 0 x.length 1).isEmpty = true => hcont
    have hQ : stripQ x = x := by
      unfold stripQ
      rw [if_neg (by unfold Txt.contains; rw [hcont]; simp)]
    exact hret _ _ _ _ ⟨t, by rw [hQ]⟩ kF kN hb
  · refine For_gen (h₀ := g') rfl rfl rfl rfl ?_ (fun _ => rfl) (by passes_own)
    k_steps
    with_reducible rename News g' L' _ _ => N1
    with_reducible rename Fr g' L' _ _ => F1
    with_reducible rename (∀ p ∈ news, p.1 < _) => hl1
    rename (Builtin.Str.occurrences x (Str.ofString "\"") 0 x.length 1).isEmpty = false => hcont
    refine gen_make w x t _ _ _ _ _ _ _ _ _ _ _ _ _ _ _ _ _ _ _ _ _ _ B' F1 X' N1 T' rfl ?_ ?_ ?_
    · ktr_room
    · ktr_units
    intro La h1 tk1 c1 F2 N2 hlt hltn hz hkeep G
    clear F1 N1
    refine genAt_mk (fun i m nx => ∃ R l n, (∃ t1, m "start" = some (.int ((tokList 0 false x.cps.toList).take i |>.foldl (stripStep x) (0, none, [])).1 t1)) ∧
      (∃ t2, m "open_pos" = some (optV ((tokList 0 false x.cps.toList).take i |>.foldl (stripStep x) (0, none, [])).2.1 t2)) ∧ m "result" = some (.ref R) ∧ m "addr" = some (.str x t) ∧
      nx = (R, listOf (strValues l).toArray n) :: news ∧ l.map (·.1) = ((tokList 0 false x.cps.toList).take i |>.foldl (stripStep x) (0, none, [])).2.2 ∧
      (0 ≤ ((tokList 0 false x.cps.toList).take i |>.foldl (stripStep x) (0, none, [])).1 ∧ ((tokList 0 false x.cps.toList).take i |>.foldl (stripStep x) (0, none, [])).1 ≤ x.length) ∧
      (∀ o ∈ ((tokList 0 false x.cps.toList).take i |>.foldl (stripStep x) (0, none, [])).2.1, 0 ≤ o ∧ o < x.length) ∧ l.length ≤ i ∧ (∀ q ∈ l, q.1.length ≤ x.length) ∧ ∀ q ∈ news, q.1 ≠ R) F2 N2 hlt hltn (G _ rfl) T'.nolimit ?_ ?_ ?_ ?_ ?_
    · ktr_room
    · exact AllBare.push hb rfl
    · exact ⟨_, [], _, ⟨_, rfl⟩, ⟨0, rfl⟩, rfl, rfl, rfl, rfl, ⟨Int.le_refl _, by simp⟩, (fun o h => by cases h), Nat.le_refl _, (fun q h => by cases h), fun q hq => Nat.ne_of_lt (hl1 q hq)⟩
    · intro i p c tp tc m₁ news₁ own h tk gs htok hadr hoff hJ F3 N3 hbs
      replace F3 : Fr g' L' h _ := F3
      replace N3 : News g' L' h _ := N3
      obtain ⟨R, l, n, ⟨t1, e1⟩, ⟨t2, e2⟩, e3, e4, rfl, e5, e6, e7, e8, e9, e10⟩ := hJ
      have ht : (tokList 0 false x.cps.toList).take (i + 1) = (tokList 0 false x.cps.toList).take i ++ [(p, c)] := by rw [List.take_add_one, htok]; rfl
      have hst : ((tokList 0 false x.cps.toList).take (i + 1)).foldl (stripStep x) (0, none, []) = stripStep x (((tokList 0 false x.cps.toList).take i).foldl (stripStep x) (0, none, [])) (p, c) := by rw [ht, List.foldl_append]; rfl
      rw [hst]
      have hpl : p < x.length := by
        have := tok_lt x.cps.toList 0 false (by simp) (p, c) (List.mem_of_getElem? htok)
        simpa [Str.length] using this
      have hil : i < x.length := by
        have h1 := tok_len x.cps.toList 0 false
        have h2 := (List.getElem?_eq_some_iff.mp htok).1
        simp at h1
        simp only [Str.length]
        omega
      generalize ((tokList 0 false x.cps.toList).take i).foldl (stripStep x) (0, none, []) = st at *
      obtain ⟨start, op, res⟩ := st
      dsimp only at e1 e2 e5 e6 e7
      have F4 := fr_ovr F3 [("ch", .str c tc), ("pos", .int (p : Nat) tp), ("start", .int start t1), ("open_pos", optV op t2), ("result", .ref R), ("addr", .str x t)] (by simp only [List.forall_mem_cons]; exact ⟨rfl, rfl, e1, e2, e3, e4, by simp⟩)
      clear F3 F2 N2 e1 e2 e3 e4 ht hst
      have hR := (List.cons.inj hadr).1
      dsimp only at hR
      have hne : ∀ q ∈ news ++ own, q.1 ≠ R := by
        intro q hq
        rcases List.mem_append.mp hq with hq | hq
        · exact e10 q hq
        · rw [hR]; exact hoff q hq _ (List.mem_cons_self ..)
      have sub1 : ∀ {o : Obj}, ∀ q ∈ (R, o) :: news, q ∈ (R, o) :: news ++ own := fun q hq => List.mem_append_left _ hq
      have sub2 : ∀ {o : Obj}, ∀ q ∈ own, q ∈ (R, o) :: news ++ own := fun q hq => List.mem_append_right _ hq
      cases op with
      | none =>
        dsimp only [optV] at F4
        k_steps
        · with_reducible rename Fr g' L' _ _ => F5
          with_reducible rename News g' L' _ _ => N5
          with_reducible rename (c == _) = true => hc
          have hS : stripStep x (start, none, res) (p, c) = (start, some (p : Int), res) := by simp only [stripStep, hc, if_true]
          refine ⟨_, _, _, _, _, rfl, F5, N5, sub1, sub2, hadr, R, l, n, ?_⟩
          rw [hS]
          exact ⟨⟨_, rfl⟩, ⟨_, rfl⟩, rfl, rfl, rfl, e5, e6, (fun o ho => by cases ho; exact ⟨Int.natCast_nonneg _, by exact_mod_cast hpl⟩), by omega, e9, e10⟩
        · with_reducible rename (c == _) = false => hc
          have hS : stripStep x (start, none, res) (p, c) = (start, none, res) := by simp only [stripStep, hc, Bool.false_eq_true, if_false]
          refine ⟨_, _, _, _, _, rfl, F4, N3, sub1, sub2, hadr, R, l, n, ?_⟩
          rw [hS]
          exact ⟨⟨_, rfl⟩, ⟨0, rfl⟩, rfl, rfl, rfl, e5, e6, e7, by omega, e9, e10⟩
      | some o =>
        have e7' := e7 o rfl
        dsimp only [optV] at F4
        k_steps
        · with_reducible rename Fr g' L' _ _ => F5
          with_reducible rename News g' L' _ _ => N5
          with_reducible rename (c == _) = true => hc
          with_reducible rename start ≠ o => hso
          with_reducible rename (Txt.slice x (some start) (some o)).length ≤ x.length => hsl
          refine append_K F5 N5 (Upd.head hne) (fun h6 F6 N6 => ?_) (push_size (by omega))
          k_steps
          with_reducible rename Fr g' L' _ _ => F7
          with_reducible rename News g' L' _ _ => N7
          have hS : stripStep x (start, some o, res) (p, c) = ((p : Int) + 1, none, res ++ [Txt.slice x (some start) (some o)]) := by simp only [stripStep, hc, if_true]; rw [if_pos (by simpa using hso)]
          obtain ⟨l', N8, hl1, hl2, hl3⟩ := push_text N7
          refine ⟨_, _, _, _, _, rfl, F7, N8, sub1, sub2, hadr, R, l', n + 1, ?_⟩
          rw [hS]
          refine ⟨⟨_, rfl⟩, ⟨0, rfl⟩, rfl, rfl, rfl, by rw [hl1, e5], ⟨by dsimp only; omega, by dsimp only; omega⟩, (fun o ho => by cases ho), by omega, fun q hq => ?_, e10⟩
          rcases hl3 q hq with hq | hq
          · exact e9 q hq
          · rw [hq]; exact hsl
        · with_reducible rename Fr g' L' _ _ => F7
          with_reducible rename News g' L' _ _ => N7
          with_reducible rename (c == _) = true => hc
          with_reducible rename start = o => hso
          have hS : stripStep x (start, some o, res) (p, c) = ((p : Int) + 1, none, res) := by simp only [stripStep, hc, if_true]; rw [if_neg (by simpa using hso)]
          refine ⟨_, _, _, _, _, rfl, F7, N7, sub1, sub2, hadr, R, l, n, ?_⟩
          rw [hS]
          exact ⟨⟨_, rfl⟩, ⟨0, rfl⟩, rfl, rfl, rfl, e5, ⟨by dsimp only; omega, by dsimp only; omega⟩, (fun o ho => by cases ho), by omega, e9, e10⟩
        · with_reducible rename (c == _) = false => hc
          have hS : stripStep x (start, some o, res) (p, c) = (start, some o, res) := by simp only [stripStep, hc, Bool.false_eq_true, if_false]
          refine ⟨_, _, _, _, _, rfl, F4, N3, sub1, sub2, hadr, R, l, n, ?_⟩
          rw [hS]
          exact ⟨⟨_, rfl⟩, ⟨_, rfl⟩, rfl, rfl, rfl, e5, e6, e7, by omega, e9, e10⟩
    · intro m₁ news₁ h tk gs hJ F3 N3 hbs
      replace F3 : Fr g' L' h _ := F3
      replace N3 : News g' L' h _ := N3
      rw [List.take_length] at hJ
      obtain ⟨R, l, n, ⟨t1, e1⟩, ⟨t2, e2⟩, e3, e4, rfl, e5, e6, e7, e8, e9, e10⟩ := hJ
      have hlen := tok_len x.cps.toList 0 false
      have hQ : stripQ x = Txt.join (Str.ofString "") (if ((tokList 0 false x.cps.toList).foldl (stripStep x) (0, none, [])).1 < x.length then ((tokList 0 false x.cps.toList).foldl (stripStep x) (0, none, [])).2.2 ++ [Txt.slice x (some ((tokList 0 false x.cps.toList).foldl (stripStep x) (0, none, [])).1) none] else ((tokList 0 false x.cps.toList).foldl (stripStep x) (0, none, [])).2.2) := by
        unfold stripQ
        rw [if_pos (by unfold Txt.contains; rw [hcont]; rfl)]
      generalize (tokList 0 false x.cps.toList).foldl (stripStep x) (0, none, []) = st at *
      obtain ⟨start, op, res⟩ := st
      dsimp only at e1 e2 e5 e6 e7 hQ
      have F4 := fr_ovr F3 [("start", .int start t1), ("result", .ref R), ("addr", .str x t)] (by simp only [List.forall_mem_cons]; exact ⟨e1, e3, e4, by simp⟩)
      clear F3 F2 N2 e1 e2 e3 e4
      have hll : l.length ≤ 1000 := by
        simp only [Bool.false_eq_true, if_false, Nat.add_zero, Array.length_toList] at hlen
        simp only [Str.length] at hx
        omega
      k_steps
      · with_reducible rename Fr g' L' _ _ => F5
        with_reducible rename (Txt.slice x (some start) none).length ≤ x.length => hsl
        with_reducible rename start < _ => hst
        rename News g' L' h _ => N5
        rename News g' L' _ ((R, _) :: news) => N6
        refine append_K F5 N6 (Upd.head e10) (fun h6 F6 N6 => ?_) (push_size (by omega))
        obtain ⟨l', N8, hl1, hl2, hl3⟩ := push_text N6
        clear N6 N5
        k_steps
        have htx : ∀ y ∈ res ++ [Txt.slice x (some start) none], y.length ≤ 1000 := by
          intro y hy
          rcases List.mem_append.mp hy with hy | hy
          · rw [← e5] at hy
            obtain ⟨q, hq, rfl⟩ := List.mem_map.mp hy
            exact Nat.le_trans (e9 q hq) hx
          · rw [List.mem_singleton.mp hy]; exact Nat.le_trans hsl hx
        have hrl : res.length = l.length := by rw [← e5, List.length_map]
        refine SC.join (News.isList N8 (.head _)) (hl1.trans (by rw [e5])) (join_ok htx (by rw [List.length_append, hrl]; simp; omega)) ?_
        intro t' k
        k_steps
        rename Fr h₀ L _ m => kF
        rename News h₀ L _ _ => kN
        rw [if_pos hst] at hQ
        exact hret _ _ _ _ ⟨t', by rw [hQ]⟩ kF (fun q hq => kN q (List.mem_cons_of_mem _ hq)) hbs
      · rename ¬ start < _ => hst
        have htx : ∀ y ∈ res, y.length ≤ 1000 := by
          intro y hy
          rw [← e5] at hy
          obtain ⟨q, hq, rfl⟩ := List.mem_map.mp hy
          exact Nat.le_trans (e9 q hq) hx
        have hrl : res.length = l.length := by rw [← e5, List.length_map]
        refine SC.join (News.isList N3 (.head _)) e5 (join_ok htx (by omega)) ?_
        intro t' k
        k_steps
        rename Fr h₀ L _ m => kF
        rename News h₀ L _ _ => kN
        rw [if_neg hst] at hQ
        exact hret _ _ _ _ ⟨t', by rw [hQ]⟩ kF (fun q hq => kN q (List.mem_cons_of_mem _ hq)) hbs
end Mine

end
section
open PySem PySem.W PySem.Calls PyProof.Rows
set_option linter.unusedVariables false
set_option maxRecDepth 100000
set_option maxHeartbeats 4000000
namespace Mine
local macro_rules | `(tactic| walk_at "call ref") => `(tactic| (k_here; (with_reducible show wpAny _ _ (call (Value.ref 49) _) _ _ _); k_dflt (refine' FnG.use (strip_fn _ _ _ ?hx) ?k1 ?k2 ?k3 ?k4 ?k5 ?kK ?kb ?kd ?ku ?_; (case k1 => k_asm); (case k2 => k_asm); (case k3 => k_asm); (case k4 => k_asm); (case k5 => k_asm); (case kK => first | exact rfl | assumption); (case kb => (dsimp only; assumption)); (case kd => ktr_room); (case ku => ktr_units); (case hx => assumption)); intro v9 h9 tk9 gs9 hv9 F9 N9 hb9; obtain ⟨t9, e9⟩ := hv9; subst e9; (try dsimp only); (try k_fold)))
theorem check_fn (w : World) (x : Str) (t : Tok) (hx : x.length ≤ 1000) :
   FnG PySem.Challenge.rw_rw0063_02.row.prog w (Mine.hd.heap_39 w.params) Mine.hd.view_39 56 5 [.str x t] (fun v => v = .bool (checkP x)) := by
  k_fill
  unfold FnG
  intro loose mean mg mb dp un gd cn cs aa ccd cl outer A₀ base h₀ L m news s Q E B F X N T hk hb hd9 hu9 hret
  refine wpAny_call ?_
  refine' code_def ?k1 ?k2 ?k3 ?k4 ?k5 ?kA ?kF ?kK ?k6 ?k7 ?k8 ?k9 ?kB ?_ ?c2 ?c3 ?c4 ?c5
  case kA => exact rfl
  case kF => exact rfl
  case kK => assumption
  case k1 => exact B
  case k2 => exact F
  case k3 => exact X
  case k4 => exact N
  case k5 => exact T
  case k6 => k_is
  case k7 => k_is
  case k8 => ktr_room
  case k9 => exact BindsTo.of_eq rfl
  case c5 => decide
  case kB => exact locs rfl
  case c2 => exact rfl
  case c3 => exact rfl
  case c4 => exact rfl
  intro g' L' h' FG F' N' B' X' T'
  dsimp only
  k_fold
  k_steps
  rename AllBare _ => hb2
  refine For_gen (h₀ := g') rfl rfl rfl rfl ?_ (fun _ => rfl) (by passes_own)
  k_steps
  with_reducible rename News g' L' _ _ => N1
  with_reducible rename Fr g' L' _ _ => F1
  refine gen_make w (stripQ x) _ _ _ _ _ _ _ _ _ _ _ _ _ _ _ _ _ _ _ _ _ _ _ B' F1 X' N1 T' rfl ?_ ?_ ?_
  · ktr_room
  · ktr_units
  intro La h1 tk1 c1 F2 N2 hlt hltn hz hkeep G
  clear F1 N1
  have hP : checkP x = match (tokList 0 false (stripQ x).cps.toList).foldl checkStep (some 0) with
    | some o => o == 0
    | none => false := rfl
  generalize tokList 0 false (stripQ x).cps.toList = toks at *
  refine genAt_mk (fun i m nx => ∃ o, (toks.take i).foldl checkStep (some 0) = some o ∧ (∃ t1, m "opens" = some (.int o t1)) ∧ 0 ≤ o ∧ nx = news) F2 N2 hlt hltn (G _ rfl) T'.nolimit ?_ ?_ ?_ ?_ ?_
  · ktr_room
  · exact AllBare.push hb2 rfl
  · exact ⟨0, rfl, ⟨_, rfl⟩, Int.le_refl _, rfl⟩
  · intro i p c tp tc m₁ news₁ own h tk gs htok hadr hoff hJ F3 N3 hbs
    replace F3 : Fr g' L' h _ := F3
    replace N3 : News g' L' h _ := N3
    obtain ⟨o, e1, ⟨t1, e2⟩, e3, rfl⟩ := hJ
    have hst : (toks.take (i + 1)).foldl checkStep (some 0) = checkStep (some o) (p, c) := by rw [List.take_add_one, htok, List.foldl_append, e1]; rfl
    have F4 := fr_ovr F3 [("ch", .str c tc), ("pos", .int (p : Nat) tp), ("opens", .int o t1)] (by simp only [List.forall_mem_cons]; exact ⟨rfl, rfl, e2, by simp⟩)
    have sub1 : ∀ q ∈ news₁, q ∈ news₁ ++ own := fun q hq => List.mem_append_left _ hq
    have sub2 : ∀ q ∈ own, q ∈ news₁ ++ own := fun q hq => List.mem_append_right _ hq
    clear F3 F2 N2 e2
    k_steps
    · with_reducible rename Fr g' L' _ _ => F5
      with_reducible rename News g' L' _ _ => N5
      with_reducible rename (c == Str.ofString "(") = true => hc
      refine ⟨_, _, _, _, _, rfl, F5, N5, sub1, sub2, hadr, o + 1, ?_, ⟨_, rfl⟩, by omega, rfl⟩
      rw [hst]; simp only [checkStep, hc, if_true]
    · rename Fr h₀ L _ m => kF
      rename News h₀ L _ _ => kN
      with_reducible rename (c == Str.ofString "(") = false => hc
      with_reducible rename (c == Str.ofString ")") = true => hc2
      rename o - 1 < 0 => ho
      have hall : toks.foldl checkStep (some 0) = none := by
        rw [← List.take_append_drop (i + 1) toks, List.foldl_append, hst]
        have : checkStep (some o) (p, c) = none := by simp only [checkStep, hc, hc2, if_true, Bool.false_eq_true, if_false]; rw [if_pos ho]
        rw [this]; exact check_none _
      exact hret _ _ _ _ (by rw [hP, hall]) kF (fun q hq => kN q (List.mem_append_left _ hq)) hbs
    · with_reducible rename Fr g' L' _ _ => F5
      with_reducible rename News g' L' _ _ => N5
      with_reducible rename (c == Str.ofString "(") = false => hc
      with_reducible rename (c == Str.ofString ")") = true => hc2
      rename ¬ o - 1 < 0 => ho
      refine ⟨_, _, _, _, _, rfl, F5, N5, sub1, sub2, hadr, o - 1, ?_, ⟨_, rfl⟩, by omega, rfl⟩
      rw [hst]; simp only [checkStep, hc, hc2, if_true, Bool.false_eq_true, if_false]; rw [if_neg ho]
    · with_reducible rename (c == Str.ofString "(") = false => hc
      with_reducible rename (c == Str.ofString ")") = false => hc2
      refine ⟨_, _, _, _, _, rfl, F4, N3, sub1, sub2, hadr, o, ?_, ⟨_, rfl⟩, e3, rfl⟩
      rw [hst]; simp only [checkStep, hc, hc2, Bool.false_eq_true, if_false]
  · intro m₁ news₁ h tk gs hJ F3 N3 hbs
    replace F3 : Fr g' L' h _ := F3
    replace N3 : News g' L' h _ := N3
    rw [List.take_length] at hJ
    obtain ⟨o, e1, ⟨t1, e2⟩, e3, rfl⟩ := hJ
    have F4 := fr_ovr F3 [("opens", .int o t1)] (by simp only [List.forall_mem_cons]; exact ⟨e2, by simp⟩)
    clear F3 F2 N2 e2
    k_steps
    rename Fr h₀ L _ m => kF
    rename News h₀ L _ _ => kN
    exact hret _ _ _ _ (by rw [hP, e1]) kF kN hbs
end Mine

end
section
open PySem PySem.W PySem.Calls PyProof.Rows
set_option linter.unusedVariables false
namespace Mine
/-- a turn's end: the ledger may be another one, but for the iterator's own -/
def FreePost (h₀ : Heap) (L : Addr) (J : (Str → Option Value) → List (Addr × Obj) → Prop) (own : List (Addr × Obj)) (I : Addr) (s₁ : Shared) (Q : Flow → Shared → Prop) (f : Flow) (s₂ : Shared) : Prop :=
  match f with
  | .ret v => Q (.ret v) s₂
  | .brk => Q .next s₂
  | _ => ∃ h' tk m' news' nx, s₂ = { s₁ with heap := h', toks := tk } ∧ Fr h₀ L h' m' ∧ News h₀ L h' news' ∧ (∀ p ∈ nx, p ∈ news') ∧ (∀ p ∈ own, p ∈ news') ∧ (∀ p ∈ nx, p.1 ≠ I) ∧ J m' nx

section
variable {prog : Program} {w : World} {A : Around} {E : Value → Shared → Prop} {s : Shared} {env : Env} {h₀ : Heap} {x : Str} {body : List Stmt} {Q : Flow → Shared → Prop}

theorem loop_free {I : Addr} {fp : List Addr} {n : Nat} {P : Nat → Value → Prop} {St : Nat → Heap → Prop} {m₀ : Str → Option Value} {news : List (Addr × Obj)} (J : Nat → (Str → Option Value) → List (Addr × Obj) → Prop)
    (W : Walks prog w A I fp [I] n P St) (hlive : ∀ i h, St i h → ∃ o, h.get? I = some o) (hIf : I ∈ fp) (hLf : env.locals ∉ fp) (hI0 : h₀.get? I = none) (hfp : ∀ q ∈ news, q.1 ≠ I) (hst : St 0 s.heap) (F : Fr h₀ env.locals s.heap m₀) (N : News h₀ env.locals s.heap news) (hj : J 0 m₀ news)
    (turn : ∀ i v m₁ news₁ h tk own, i < n → P i v → (∃ o, (I, o) ∈ own) → (∀ p ∈ own, p.1 ∈ fp) → (∀ p ∈ news₁, p.1 ≠ I) → J i m₁ news₁ → Fr h₀ env.locals h (fun y => if y = x then some v else m₁ y) → News h₀ env.locals h (news₁ ++ own) →
      wpAny (model prog w) A (execs body env) (FreePost h₀ env.locals (J (i + 1)) own I { s with heap := h, toks := tk } Q) E { s with heap := h, toks := tk })
    (done : ∀ m₁ news₁ h tk, J n m₁ news₁ → (∀ p ∈ news₁, p.1 ≠ I) → Fr h₀ env.locals h m₁ → News h₀ env.locals h news₁ → Q .next { s with heap := h, toks := tk }) :
    LoopAtV prog w A h₀ env x body Q E (.ref I) s := by
  refine ⟨I, fp, [I], n, P, St, m₀, news, J, rfl, W, hLf, fun b hb => by rw [List.mem_singleton.mp hb]; exact hI0, fun p hp hm => hfp p hp (List.mem_singleton.mp hm), hst, F, N, hj, ?_, ?_⟩
  · rintro i v m₁ news₁ s₁ own ⟨hh', tk', rfl⟩ hin hP hJ hoff hsub _ hall hst₁ F₁ N₁
    obtain ⟨oI, hoI⟩ := hlive _ _ hst₁
    have N₂ : News h₀ env.locals hh' (news₁ ++ own) := fun p hp => N₁ p ((List.mem_append.mp hp).elim (fun h => List.mem_append.mpr (.inr h)) fun h => List.mem_append.mpr (.inl h))
    refine wpAny_mono (turn i v m₁ news₁ hh' tk' own hin hP ⟨oI, hall I hIf hI0 oI hoI⟩ hsub (fun p hp e => hoff p hp (List.mem_singleton.mpr e)) hJ F₁ N₂) (fun f s₂ p => ?_) fun _ _ e => e
    have fin : (∃ h' tk m' news' nx, s₂ = { s with heap := h', toks := tk } ∧ Fr h₀ env.locals h' m' ∧ News h₀ env.locals h' news' ∧ (∀ p ∈ nx, p ∈ news') ∧ (∀ p ∈ own, p ∈ news') ∧ (∀ p ∈ nx, p.1 ≠ I) ∧ J (i + 1) m' nx) → LoopStepU h₀ env.locals [I] own (J (i + 1)) { s with heap := hh', toks := tk' } .next s₂ := by
      rintro ⟨h', tk, m', news', nx, e, F', N', hn, ho, ha, hm⟩
      exact ⟨rfl, h', tk, m', nx, e, F', fun p hp => N' p ((List.mem_append.mp hp).elim (ho p) (hn p)), fun p hp hq => ha p hp (List.mem_singleton.mp hq), hm⟩
    cases f with
    | ret v => exact .ret p
    | brk => exact .brk p
    | next => exact .next (fin p)
    | cont => exact .cont (fin p)
  · exact fun h' tk m' news' F' N' hoff hJ => done m' news' h' tk hJ (fun p hp e => hoff p hp (List.mem_singleton.mpr e)) F' N'

/-- a for over a text's signs -/
theorem iter_text {xt : Str} {tx : Tok} {m₀ : Str → Option Value} {news : List (Addr × Obj)} (J : Nat → (Str → Option Value) → List (Addr × Obj) → Prop)
    (hh : A.handled = none) (F : Fr h₀ env.locals s.heap m₀) (N : News h₀ env.locals s.heap news) (hj : J 0 m₀ news)
    (turn : ∀ i c u m₁ news₁ h tk own I, xt.cps[i]? = some c → (∃ o, (I, o) ∈ own) → (∀ p ∈ own, p.1 = I) → (∀ p ∈ news₁, p.1 ≠ I) → J i m₁ news₁ → Fr h₀ env.locals h (fun y => if y = x then some (.str ⟨#[c]⟩ u) else m₁ y) → News h₀ env.locals h (news₁ ++ own) →
      wpAny (model prog w) A (execs body env) (FreePost h₀ env.locals (J (i + 1)) own I { s with heap := h, toks := tk } Q) E { s with heap := h, toks := tk })
    (done : ∀ m₁ news₁ h tk, J xt.cps.size m₁ news₁ → Fr h₀ env.locals h m₁ → News h₀ env.locals h news₁ → Q .next { s with heap := h, toks := tk }) :
    wpAny (model prog w) A (pyIter (.str xt tx)) (fun it s₂ => LoopAtV prog w A h₀ env x body Q E it s₂) E s := by
  refine wpAny_pyIter_strU ?_
  have hIL : env.locals ≠ s.heap.objs.size := Nat.ne_of_lt F.ns.lt
  have main : ∀ ty, Walks prog w A s.heap.objs.size [s.heap.objs.size] [s.heap.objs.size] xt.cps.size (SignAt xt) (fun i h => h.IsStrIter s.heap.objs.size ty xt tx i) →
      LoopAtV prog w A h₀ env x body Q E (.ref s.heap.objs.size) { s with heap := s.heap.push { cls := .type ty, data := .fields #[.str xt tx, .int 0 0] } } := by
    intro ty W
    refine loop_free J W (fun i h st => let ⟨o, ho, _⟩ := st; ⟨o, ho⟩) (List.mem_singleton.mpr rfl) (fun hm => hIL (List.mem_singleton.mp hm)) (next_is_new F) (fun q hq => Nat.ne_of_lt (Heap.lt_size (N q hq).1)) ⟨_, Heap.get?_push_size _ rfl, rfl, rfl⟩ (F.push _) (fun p hp => ⟨Heap.get?_push_of_some _ (N p hp).1, (N p hp).2⟩) hj ?_ (fun m₁ news₁ h tk a _ b c => done m₁ news₁ h tk a b c)
    rintro i v m₁ news₁ h tk own hi ⟨c, u, hc, rfl⟩ hI hsub hoff hJ F₁ N₁
    exact turn i c u m₁ news₁ h tk own _ hc hI (fun p hp => List.mem_singleton.mp (hsub p hp)) hoff hJ F₁ N₁
  cases ha : xt.cps.all (· < 128)
  · rw [show strIterType xt = "str_iterator" from by simp [strIterType, ha]]
    exact main _ (Walks.strWide hh _ xt tx)
  · rw [show strIterType xt = "str_ascii_iterator" from by simp [strIterType, ha]]
    exact main _ (Walks.strAscii hh _ xt tx)

/-- a for over range(n) -/
theorem iter_range {r : Addr} {a₀ b₀ : Int} {t₀ u₀ v₀ : Tok} {n : Nat} {m₀ : Str → Option Value} {news : List (Addr × Obj)} (J : Nat → (Str → Option Value) → List (Addr × Obj) → Prop)
    (hh : A.handled = none) (hr : IsRange s.heap r a₀ b₀ 1 t₀ u₀ v₀) (hsmall : Builtin.Range.small a₀ b₀ 1 = true) (hn : Builtin.Range.rangeSize a₀ b₀ 1 = (n : Int)) (F : Fr h₀ env.locals s.heap m₀) (N : News h₀ env.locals s.heap news) (hj : J 0 m₀ news)
    (turn : ∀ i t m₁ news₁ h tk own I, i < n → (∃ o, (I, o) ∈ own) → (∀ p ∈ own, p.1 = I) → (∀ p ∈ news₁, p.1 ≠ I) → J i m₁ news₁ → Fr h₀ env.locals h (fun y => if y = x then some (.int (a₀ + (i : Nat)) t) else m₁ y) → News h₀ env.locals h (news₁ ++ own) →
      wpAny (model prog w) A (execs body env) (FreePost h₀ env.locals (J (i + 1)) own I { s with heap := h, toks := tk } Q) E { s with heap := h, toks := tk })
    (done : ∀ m₁ news₁ h tk, J n m₁ news₁ → Fr h₀ env.locals h m₁ → News h₀ env.locals h news₁ → Q .next { s with heap := h, toks := tk }) :
    wpAny (model prog w) A (pyIter (.ref r)) (fun it s₂ => LoopAtV prog w A h₀ env x body Q E it s₂) E s := by
  refine wpAny_pyIter_range hr hsmall ?_
  have hIL : env.locals ≠ s.heap.objs.size := Nat.ne_of_lt F.ns.lt
  have W : Walks prog w A s.heap.objs.size [s.heap.objs.size] [s.heap.objs.size] n (fun i v => i < n ∧ ∃ t, v = .int (a₀ + i * 1) t)
      (fun i h => IsRangeIter h s.heap.objs.size (a₀ + (i : Nat) * 1) ((n : Int) - (i : Nat)) 1) := (Walks.range hh _ a₀ 1 n).bound
  refine loop_free J W (fun i h st => ⟨_, st⟩) (List.mem_singleton.mpr rfl) (fun hm => hIL (List.mem_singleton.mp hm)) (next_is_new F) (fun q hq => Nat.ne_of_lt (Heap.lt_size (N q hq).1)) (by show IsRangeIter _ _ _ _ _; rw [hn]; simpa using Heap.get?_push_size _ rfl) (F.push _) (fun p hp => ⟨Heap.get?_push_of_some _ (N p hp).1, (N p hp).2⟩) hj ?_ (fun m₁ news₁ h tk a _ b c => done m₁ news₁ h tk a b c)
  rintro i v m₁ news₁ h tk own hi ⟨_, t, rfl⟩ hI hsub hoff hJ F₁ N₁
  rw [Int.mul_one] at F₁
  exact turn i t m₁ news₁ h tk own _ hi hI (fun p hp => List.mem_singleton.mp (hsub p hp)) hoff hJ F₁ N₁

/-- a for over a made list, which stands apart -/
theorem iter_list {l : Addr} {vs : List Value} {m₀ : Str → Option Value} {news : List (Addr × Obj)} (J : Nat → (Str → Option Value) → List (Addr × Obj) → Prop)
    (hh : A.handled = none) (hl : s.heap.IsList l vs.toArray) (hlL : env.locals ≠ l) (F : Fr h₀ env.locals s.heap m₀) (N : News h₀ env.locals s.heap news) (hj : J 0 m₀ news)
    (turn : ∀ i v m₁ news₁ h tk own I, vs[i]? = some v → (∃ o, (I, o) ∈ own) → (∀ p ∈ own, p.1 = I ∨ p.1 = l) → (∀ p ∈ news₁, p.1 ≠ I) → J i m₁ news₁ → Fr h₀ env.locals h (fun y => if y = x then some v else m₁ y) → News h₀ env.locals h (news₁ ++ own) →
      wpAny (model prog w) A (execs body env) (FreePost h₀ env.locals (J (i + 1)) own I { s with heap := h, toks := tk } Q) E { s with heap := h, toks := tk })
    (done : ∀ m₁ news₁ h tk, J vs.length m₁ news₁ → Fr h₀ env.locals h m₁ → News h₀ env.locals h news₁ → Q .next { s with heap := h, toks := tk }) :
    wpAny (model prog w) A (pyIter (.ref l)) (fun it s₂ => LoopAtV prog w A h₀ env x body Q E it s₂) E s := by
  refine wpAny_pyIter_list hl ?_
  have hIL : env.locals ≠ s.heap.objs.size := Nat.ne_of_lt F.ns.lt
  have hne : l ≠ s.heap.objs.size := let ⟨o, ho, _⟩ := hl; Nat.ne_of_lt (Heap.lt_size ho)
  have W := Walks.list (prog := prog) (w := w) hh s.heap.objs.size l hne vs.toArray
  have hlen : vs.toArray.size = vs.length := by simp
  rw [hlen] at W
  refine loop_free J W (fun i h st => let ⟨o, ho, _⟩ := st.1; ⟨o, ho⟩) (List.mem_cons_self ..) (fun hm => by rcases List.mem_cons.mp hm with e | hm; exact hIL e; exact hlL (List.mem_singleton.mp hm)) (next_is_new F) (fun q hq => Nat.ne_of_lt (Heap.lt_size (N q hq).1)) ⟨⟨_, Heap.get?_push_size _ rfl, rfl, rfl⟩, hl.at fun o e => Heap.get?_push_of_some _ e⟩ (F.push _) (fun p hp => ⟨Heap.get?_push_of_some _ (N p hp).1, (N p hp).2⟩) hj ?_ (fun m₁ news₁ h tk a _ b c => done m₁ news₁ h tk a b c)
  intro i v m₁ news₁ h tk own hi hP hI hsub hoff hJ F₁ N₁
  exact turn i v m₁ news₁ h tk own _ (by simpa using hP) hI (fun p hp => by rcases List.mem_cons.mp (hsub p hp) with e | hm; exact .inl e; exact .inr (List.mem_singleton.mp hm)) hoff hJ F₁ N₁
end
end Mine

end
section
open PySem PySem.W PySem.Calls PyProof.Rows
open Builtin Builtin.Str
set_option linter.unusedVariables false
namespace Mine
def find4 (x y : Str) (i j : Int) : Int := match occurrences x y (fromIndex x.length i) (min (fromIndex x.length j) x.length) 1 with | k :: _ => (k : Int) | [] => -1
def ellFind (got : Str) (e : Int) : List Str → Int → Bool
  | [], _ => true
  | w :: r, st => if find4 got w st e < 0 then false else ellFind got e r (find4 got w st e + w.length)
def ell3 (got : Str) (ws : List Str) (st en : Int) : Bool := if st > en then false else ellFind got en ws st
def ell2 (got : Str) (ws : List Str) (st : Int) : Bool :=
  if (ws.getLastD Str.empty).length = 0 then ell3 got ws st got.length
  else if Txt.endswith got (ws.getLastD Str.empty) then ell3 got ws.dropLast st (got.length - (ws.getLastD Str.empty).length) else false
def ellM (want got : Str) : Bool :=
  if Txt.contains want (Str.ofString "...") then
    let ws := Txt.split want (Str.ofString "...")
    if (ws.headD Str.empty).length = 0 then ell2 got ws 0
    else if Txt.startswith got (ws.headD Str.empty) then ell2 got ws.tail (ws.headD Str.empty).length else false
  else want == got
theorem gives_find4 (x y : Str) (i j : Int) (t u v z : Tok) : Gives («str.find» ⟨[.str x t, .str y u, .int i v, .int j z], []⟩) (.int (find4 x y i j)) := by
  show Gives (match occurrences x y (fromIndex x.length i) (min (fromIndex x.length j) x.length) 1 with | k :: _ => retInt k | [] => (do rule "str.find.not-found"; retInt (-1))) _
  unfold find4
  cases occurrences x y (fromIndex x.length i) (min (fromIndex x.length j) x.length) 1 with
  | nil => exact .rule (.of_eq rfl)
  | cons k _ => exact .of_eq rfl
theorem call_find4 {prog : Program} {w : World} {A : Around} {E : Value → Shared → Prop} {s : Shared} {x y : Str} {t u v z : Tok} {i j : Int} {Q : Value → Shared → Prop} (hq : Q (.int (find4 x y i j) s.toks) { s with toks := s.toks + 1 }) : wpAny (model prog w) A (call (.builtin "str.find") [.str x t, .str y u, .int i v, .int j z]) Q E s :=
  call_gives F.slot_str_find (typeIs_str _ _ _) F.entry_str_find (F.args_str_find_4 _ _ _ _) (gives_find4 x y i j t u v z) hq
end Mine

end
section
open PySem PySem.W PySem.Calls PyProof.Rows
set_option linter.unusedVariables false
namespace Mine
@[irreducible] def S (l : List Nat) : Str := ⟨l.toArray⟩
theorem S_def (l : List Nat) : S l = ⟨l.toArray⟩ := by unfold S; rfl
theorem S_len (l : List Nat) : (S l).length = l.length := by simp [S, Str.length]
theorem S_beq (a b : List Nat) : (S a == S b) = decide (a = b) := by
  by_cases h : a = b
  · subst h; simp
  · have : S a ≠ S b := fun e => h (by simpa [S] using e)
    simp [h, this]
theorem S_of (x : Str) : S x.cps.toList = x := by cases x; simp [S]
theorem slice_drop (l : List Nat) (i : Nat) (h : i ≤ l.length) : Txt.slice (S l) (some (i : Int)) none = S (l.drop i) := by
  rw [slice_from_eq (b := ((S l).length : Int)) (by omega) (by rw [S_len]; omega) rfl, S_len]
  rw [S_def, S_def]
  simp
  exact List.take_of_length_le (by simp)
theorem slice_take (l : List Nat) (i : Nat) (h : i ≤ l.length) : Txt.slice (S l) none (some (i : Int)) = S (l.take i) := by
  have := slice_closes_toL (x := S l) (j := (i : Int)) (by omega) (by rw [S_len]; omega)
  rw [eq_of_beq this]
  rw [S_def, S_def]
  simp
theorem slice_cut (l : List Nat) (k : Nat) (hk : 1 ≤ k) (h : k ≤ l.length) : Txt.slice (S l) none (some (-(k : Int))) = S (l.take (l.length - k)) := by
  rw [slice_to_neg (by omega), S_len]
  have e : max 0 ((l.length : Int) + -(k : Int)) = ((l.length - k : Nat) : Int) := by omega
  rw [e, slice_take l _ (by omega)]
theorem slice_all (x : Str) : Txt.slice x none none = x := by
  unfold Txt.slice
  rw [if_pos]
  have : (sliceRange 0 (x.length : Int) 1).length = x.length := by unfold sliceRange; simp; split <;> simp_all <;> omega
  simp [Builtin.Str.strSliceIndices, this]
theorem item_at (l : List Nat) (i : Nat) (h : i < l.length) : Txt.item (S l) (i : Int) = S [l[i]] := by
  rw [item_meets (n := l[i]) (by omega)]
  · rw [S_def]
  · simp [S, h]
theorem item_neg (l : List Nat) (k : Nat) (h0 : 1 ≤ k) (h : k ≤ l.length) : Txt.item (S l) (-(k : Int)) = S [l[l.length - k]] := by
  have := item_closes_neg (x := S l) (i := -(k : Int)) (j := ((l.length - k : Nat) : Int)) (by omega) (by rw [S_len]; omega) (by rw [S_len]; omega)
  rw [eq_of_beq this]
  have e : (S l).cps.getD (((l.length - k : Nat) : Int)).toNat 0 = l[l.length - k] := by
    simp [S]
    rw [List.getElem?_eq_getElem (by omega)]; rfl
  rw [e, S_def]

/-- the common start taken off -/
def tp : List Nat → List Nat → List Nat × List Nat
  | a :: as, b :: bs => if a = b then tp as bs else (a :: as, b :: bs)
  | as, bs => (as, bs)
theorem tp_nil_left (b : List Nat) : tp [] b = ([], b) := by cases b <;> rfl
theorem tp_nil_right (a : List Nat) : tp a [] = (a, []) := by cases a <;> rfl
theorem tp_drop_same {a b : List Nat} {i : Nat} (ha : i < a.length) (hb : i < b.length) (h : a[i] = b[i]) : tp (a.drop i) (b.drop i) = tp (a.drop (i + 1)) (b.drop (i + 1)) := by
  rw [List.drop_eq_getElem_cons ha, List.drop_eq_getElem_cons hb]
  simp only [tp]
  rw [if_pos h]
theorem tp_drop_other {a b : List Nat} {i : Nat} (ha : i < a.length) (hb : i < b.length) (h : ¬ a[i] = b[i]) : tp (a.drop i) (b.drop i) = (a.drop i, b.drop i) := by
  rw [List.drop_eq_getElem_cons ha, List.drop_eq_getElem_cons hb]
  simp only [tp]
  rw [if_neg h]
theorem tp_drop_left {a b : List Nat} {i : Nat} (ha : a.length ≤ i) : tp (a.drop i) (b.drop i) = (a.drop i, b.drop i) := by
  rw [List.drop_eq_nil_of_le ha]; exact tp_nil_left _
theorem tp_drop_right {a b : List Nat} {i : Nat} (hb : b.length ≤ i) : tp (a.drop i) (b.drop i) = (a.drop i, b.drop i) := by
  rw [List.drop_eq_nil_of_le hb]; exact tp_nil_right _

def substS (a b : Str) : Int := if (a == b) = true then 0 else if (Txt.lower a == Txt.lower b) = true then 1 else 2
def substC (a b : Nat) : Int := substS (S [a]) (S [b])
/-- one row of the table -/
def rowRun (c : Nat) : List Nat → List Int → Int → Int → Int → List Int × Int × Int
  | p :: ps, o :: os, dist, res, mn =>
    let r := min (min res o + 2) (dist + substC c p)
    let q := rowRun c ps os o r (if r < mn then r else mn)
    (r :: q.1, q.2)
  | _, _, _, res, mn => ([], res, mn)
def levRows (mx : Int) (p : List Nat) : List Nat → Nat → List Int → Int → Int
  | [], _, _, res => res
  | c :: q, bi, row, _ =>
    let r := rowRun c p row ((bi : Int) * 2) ((bi : Int) * 2) 9223372036854775807
    if r.2.2 > mx then mx + 1 else levRows mx p q (bi + 1) r.1 r.2.1
theorem rowRun_zero (c : Nat) (p : List Nat) (row : List Int) (d r m : Int) : rowRun c p row d r m = (row.take 0 ++ (rowRun c (p.drop 0) (row.drop 0) d r m).1, (rowRun c (p.drop 0) (row.drop 0) d r m).2) := rfl
theorem levRows_at {mx : Int} {p q : List Nat} {j : Nat} (hj : j < q.length) {row : List Int} {res : Int} : levRows mx p (q.drop j) j row res = if (rowRun q[j] p row ((j : Int) * 2) ((j : Int) * 2) 9223372036854775807).2.2 > mx then mx + 1 else levRows mx p (q.drop (j + 1)) (j + 1) (rowRun q[j] p row ((j : Int) * 2) ((j : Int) * 2) 9223372036854775807).1 (rowRun q[j] p row ((j : Int) * 2) ((j : Int) * 2) 9223372036854775807).2.1 := by
  rw [List.drop_eq_getElem_cons hj]; rfl
def row0 (n : Nat) : List Int := (List.range n).map fun (k : Nat) => (2 + 2 * k : Int)
def levT (p q : List Nat) (mx : Int) : Int :=
  if p.length = 0 ∨ q.length = 0 then 2 * ((p.length : Int) + q.length)
  else if p.length > 40 ∨ q.length > 40 then mx + 1
  else if q.length < p.length then (if ((p.length : Int) - q.length) * 2 > mx then mx + 1 else levRows mx q p 0 (row0 q.length) 0)
  else (if ((q.length : Int) - p.length) * 2 > mx then mx + 1 else levRows mx p q 0 (row0 p.length) 0)
theorem levT_a {p q : List Nat} {mx : Int} (h : p.length = 0 ∨ q.length = 0) : levT p q mx = 2 * ((p.length : Int) + q.length) := by unfold levT; rw [if_pos h]
theorem levT_b {p q : List Nat} {mx : Int} (h : 1 ≤ p.length ∧ 1 ≤ q.length) (h2 : p.length > 40 ∨ q.length > 40) : levT p q mx = mx + 1 := by
  have h1 : ¬ (p.length = 0 ∨ q.length = 0) := by omega
  unfold levT; rw [if_neg h1, if_pos h2]
theorem levT_c {p q : List Nat} {mx : Int} (h : 1 ≤ p.length ∧ 1 ≤ q.length) (h2 : p.length ≤ 40 ∧ q.length ≤ 40) (h3 : q.length < p.length) : levT p q mx = if ((p.length : Int) - q.length) * 2 > mx then mx + 1 else levRows mx q p 0 (row0 q.length) 0 := by
  have h1 : ¬ (p.length = 0 ∨ q.length = 0) := by omega
  have h4 : ¬ (p.length > 40 ∨ q.length > 40) := by omega
  unfold levT; rw [if_neg h1, if_neg h4, if_pos h3]
theorem levT_d {p q : List Nat} {mx : Int} (h : 1 ≤ p.length ∧ 1 ≤ q.length) (h2 : p.length ≤ 40 ∧ q.length ≤ 40) (h3 : ¬ q.length < p.length) : levT p q mx = if ((q.length : Int) - p.length) * 2 > mx then mx + 1 else levRows mx p q 0 (row0 p.length) 0 := by
  have h1 : ¬ (p.length = 0 ∨ q.length = 0) := by omega
  have h4 : ¬ (p.length > 40 ∨ q.length > 40) := by omega
  unfold levT; rw [if_neg h1, if_neg h4, if_neg h3]
def trim (a b : List Nat) : List Nat × List Nat :=
  let r := tp (tp a b).1.reverse (tp a b).2.reverse
  (r.1.reverse, r.2.reverse)
def levM (a b : List Nat) (mx : Int) : Int := if a = b then 0 else levT (trim a b).1 (trim a b).2 mx

theorem rev_cut (l : List Nat) (k : Nat) : (l.reverse.drop k).reverse = l.take (l.length - k) := by rw [List.drop_reverse, List.reverse_reverse]

section
variable {prog : Program} {w : World} {A : Around} {E : Value → Shared → Prop} {Q : Flow → Shared → Prop} {s : Shared} {env : Env} {h₀ : Heap}
def WhileOut (h₀ : Heap) (L : Addr) (s : Shared) (D : (Str → Option Value) → List (Addr × Obj) → Prop) (s₃ : Shared) : Prop :=
  ∃ h' tk m₂ news₂, s₃ = { s with heap := h', toks := tk } ∧ Fr h₀ L h' m₂ ∧ News h₀ L h' news₂ ∧ D m₂ news₂
theorem While_out {test : Expr} {body : List Stmt} {pos : Pos} {m : Str → Option Value} {news : List (Addr × Obj)} (J : Nat → (Str → Option Value) → List (Addr × Obj) → Prop) (D : (Str → Option Value) → List (Addr × Obj) → Prop) {n₀ : Nat}
    (F : Fr h₀ env.locals s.heap m) (N : News h₀ env.locals s.heap news) (hJ : J n₀ m news)
    (turn : ∀ n m₁ news₁ h₁ tk₁, Fr h₀ env.locals h₁ m₁ → News h₀ env.locals h₁ news₁ → J n m₁ news₁ →
      wpAny (model prog w) A (isTrue test env (eval test env)) (fun b s₂ =>
        if b = true then wpAny (model prog w) A (execs body env) (WhileStep h₀ env.locals s J n) E s₂ else WhileOut h₀ env.locals s D s₂) E { s with heap := h₁, toks := tk₁ })
    (done : ∀ m₁ news₁ h tk, D m₁ news₁ → Fr h₀ env.locals h m₁ → News h₀ env.locals h news₁ → Q .next { s with heap := h, toks := tk })
    (hE : PassesOwn (model prog w) A env E := by passes_own) :
    wpAny (model prog w) A (exec (.While test body [] pos) env) Q E s := by
  refine While_inv J F N hJ (fun n m₁ news₁ h₁ tk₁ F₁ N₁ J₁ => ?_) hE
  refine wpAny_mono (turn n m₁ news₁ h₁ tk₁ F₁ N₁ J₁) (fun b s₂ h₂ => ?_) (fun _ _ e => e)
  cases b with
  | true => simpa using h₂
  | false =>
    simp only [Bool.false_eq_true, if_false] at h₂ ⊢
    obtain ⟨h', tk, m₂, news₂, rfl, F₂, N₂, hD⟩ := h₂
    exact done m₂ news₂ h' tk hD F₂ N₂
end
end Mine

end
section
open PySem PySem.W PySem.Calls PyProof.Rows
set_option linter.unusedVariables false
set_option maxRecDepth 100000
namespace Mine
/-- a list of ints, with their tokens -/
def iv (l : List (Int × Tok)) : List Value := l.map fun q => .int q.1 q.2
theorem iv_len (l : List (Int × Tok)) : (iv l).length = l.length := by simp [iv]
theorem iv_get {l : List (Int × Tok)} {i : Nat} (h : i < l.length) : (iv l)[i]? = some (Value.int l[i].1 l[i].2) := by simp [iv, h]
theorem iv_set (l : List (Int × Tok)) (i : Nat) (x : Int) (t : Tok) : (iv l).set i (Value.int x t) = iv (l.set i (x, t)) := by simp [iv, List.map_set]
theorem iv_of : ∀ (vs : List Value) (f : Nat → Int), (∀ j v, vs[j]? = some v → ∃ t, v = Value.int (f j) t) → ∃ ls, vs = iv ls ∧ ls.map (·.1) = (List.range vs.length).map f
  | [], f, _ => ⟨[], rfl, rfl⟩
  | v :: r, f, h => by
    obtain ⟨t, rfl⟩ := h 0 v rfl
    obtain ⟨ls, e1, e2⟩ := iv_of r (fun j => f (j + 1)) (fun j v hv => h (j + 1) v (by simpa using hv))
    refine ⟨(f 0, t) :: ls, by rw [e1]; rfl, ?_⟩
    rw [List.map_cons, e2, List.length_cons, List.range_succ_eq_map, List.map_cons, List.map_map]
    rfl
theorem size2 (n : Nat) : Builtin.Range.rangeSize 2 (2 * ((n : Int) + 1)) 2 = (n : Int) := by
  unfold Builtin.Range.rangeSize
  rw [if_pos (by decide)]
  split <;> omega
theorem small_gen (a b c z : Int) (hz : Builtin.Range.rangeSize a b c = z) (hc : c > 0) (ha : -1000000 ≤ a ∧ a ≤ 1000000) (hb : -1000000 ≤ b ∧ b ≤ 1000000) (hc2 : c ≤ 1000000) (hz1 : 0 ≤ z) (hz2 : z ≤ 1000000) : Builtin.Range.small a b c = true := by
  unfold Builtin.Range.small
  rw [hz]
  simp only [Builtin.Range.rangeFitsLong, Bool.and_eq_true, Bool.or_eq_true, decide_eq_true_eq, beq_iff_eq, hc, if_true]
  omega
section
variable {prog : Program} {w : World} {A : Around} {E : Value → Shared → Prop} {s : Shared} {h₀ : Heap} {L r : Addr} {m : Str → Option Value} {news : List (Addr × Obj)}
theorem list_range2 {t₀ u₀ v₀ : Tok} {n : Nat} {b : Int} {Q : Value → Shared → Prop} (hh : A.handled = none) (F : Fr h₀ L s.heap m) (N : News h₀ L s.heap news) (hb : b = 2 * ((n : Int) + 1)) (hr : IsRange s.heap r 2 b 2 t₀ u₀ v₀) (hn : n ≤ 1000)
    (h : ∀ D ls c h' tk, ls.map (·.1) = row0 n → Fr h₀ L h' m → News h₀ L h' ((D, listOf (iv ls).toArray c) :: news) → (∀ p ∈ news, p.1 < D) → Q (.ref D) { s with heap := h', toks := tk }) :
    wpAny (model prog w) A (call (.type "list") [.ref r]) Q E s := by
  subst hb
  have hsmall : Builtin.Range.small 2 (2 * ((n : Int) + 1)) 2 = true := by
    exact small_gen _ _ _ _ (size2 n) (by decide) (by omega) (by omega) (by omega) (by omega) (by omega)
  refine call_list_range hh hr hsmall (size2 n) (Nat.le_trans hn (by decide)) fun h' tk acc c hk hD hI => ?_
  obtain ⟨ls, e1, e2⟩ := iv_of acc.toList (fun j => 2 + 2 * (j : Int)) (fun j v hj => by
    obtain ⟨t, e⟩ := hI.2 j v (by rw [← hj, Array.getElem?_toList])
    exact ⟨t, by rw [e, Int.mul_comm]⟩)
  have hD' : h'.get? s.heap.objs.size = some (listOf (iv ls).toArray c) := by
    rw [← e1, Array.toArray_toList]
    exact hD
  refine h _ ls c h' tk ?_ (F.keeps hk) (news_pushed F N hk hD' rfl) (fun p hp => Heap.lt_size (N p hp).1)
  rw [e2, Array.length_toList, hI.1]
  rfl

end
theorem rowRun_step {c : Nat} {p : List Nat} {l : List Int} {dist res mn d' r m' : Int} {i : Nat} (hi : i < p.length) (hl : l.length = p.length) (hd : l[i]! = d') (hr : r = min (min res l[i]! + 2) (dist + substC c p[i])) (hm : m' = if r < mn then r else mn) :
    (l.take i ++ (rowRun c (p.drop i) (l.drop i) dist res mn).1, (rowRun c (p.drop i) (l.drop i) dist res mn).2) = ((l.set i r).take (i + 1) ++ (rowRun c (p.drop (i + 1)) ((l.set i r).drop (i + 1)) d' r m').1, (rowRun c (p.drop (i + 1)) ((l.set i r).drop (i + 1)) d' r m').2) := by
  have hil : i < l.length := by omega
  have e1 : l[i]! = l[i] := by simp [hil]
  rw [e1] at hd hr
  have e2 : (l.set i r).take (i + 1) = l.take i ++ [r] := by
    rw [List.take_add_one, List.take_set_of_le (Nat.le_refl i)]
    simp [hil]
  have e3 : (l.set i r).drop (i + 1) = l.drop (i + 1) := List.drop_set_of_lt (Nat.lt_succ_self i)
  rw [e2, e3, List.drop_eq_getElem_cons hi, List.drop_eq_getElem_cons hil]
  simp only [rowRun]
  rw [← hr, ← hm, hd]
  simp
theorem rowRun_end {c : Nat} {p : List Nat} {l : List Int} {dist res mn : Int} (hl : l.length = p.length) :
    (l.take p.length ++ (rowRun c (p.drop p.length) (l.drop p.length) dist res mn).1, (rowRun c (p.drop p.length) (l.drop p.length) dist res mn).2) = (l, res, mn) := by
  rw [List.drop_length, ← hl, List.take_length, List.drop_length]
  simp [rowRun]
section
variable {prog : Program} {w : World} {A : Around} {E : Value → Shared → Prop} {s : Shared} {h₀ : Heap} {L r : Addr} {m : Str → Option Value} {news : List (Addr × Obj)}
/-- this object is a list of these ints -/
def IsIv (o : Obj) (ls : List (Int × Tok)) : Prop := o.cls = .type "list" ∧ ∃ n, o.data = .seq (iv ls).toArray n
theorem IsIv.at {h : Heap} {R : Addr} {o : Obj} {ls : List (Int × Tok)} (x : IsIv o ls) (N : News h₀ L h news) (hm : (R, o) ∈ news) : h.IsList R (iv ls).toArray :=
  ⟨o, (N _ hm).1, x.1, x.2⟩
theorem get_row {value slice : Expr} {R : Addr} {o : Obj} {ls : List (Int × Tok)} {k : Nat} {u : Tok} {Q : Value → Shared → Prop} (N : News h₀ L s.heap news) (hm : (R, o) ∈ news) (x : IsIv o ls) (hk : k < ls.length) (hl : ls.length ≤ 1000)
    (h : Q (.int ls[k].1 ls[k].2) s) (hs : subscripted slice false (.ref R) (.int (k : Int) u) = operate [.ref R, .int (k : Int) u] (getItem (.ref R) (.int (k : Int) u))) (hg : ∀ r, letTemporaryGo value (.ref R) r = pure ()) :
    wpAny (model prog w) A (subscriptTail value slice (.ref R) (.int (k : Int) u)) Q E s :=
  item_list (x.at N hm) (by omega) (by omega) (by simpa using iv_get hk) h hs hg
theorem set_row {R : Addr} {o : Obj} {rest : List (Addr × Obj)} {ls : List (Int × Tok)} {k : Nat} {u t : Tok} {x : Int} {Q : Unit → Shared → Prop} (F : Fr h₀ L s.heap m) (N : News h₀ L s.heap ((R, o) :: rest)) (hap : ∀ p ∈ rest, p.1 ≠ R) (ho : IsIv o ls) (hk : k < ls.length) (hl : ls.length ≤ 1000)
    (h : ∀ h' o', IsIv o' (ls.set k (x, t)) → Fr h₀ L h' m → News h₀ L h' ((R, o') :: rest) → Q () { s with heap := h' }) :
    wpAny (model prog w) A (setItem (.ref R) (.int (k : Int) u) (.int x t)) Q E s := by
  refine wpAny_setItem_list (ho.at N (.head _)) (by omega) (by omega) (by simp [iv_len]; omega) fun h' hl' hs => ?_
  obtain ⟨o', g1, g2, n', g3⟩ := hl'
  refine h h' o' ⟨g2, n', ?_⟩ (F.change hs (N _ (.head _)).2.1 (N _ (.head _)).2.2) (N.setHead hap hs g1)
  rw [g3]
  simp [iv_set]
end
end Mine

end
section
open PySem PySem.W PySem.Calls PyProof.Rows
set_option linter.unusedVariables false
namespace Mine
end Mine

end
section
open PySem PySem.W PySem.Calls PyProof.Rows
set_option linter.unusedVariables false
namespace Mine
section
variable {prog : Program} {w : World} {A : Around} {E : Value → Shared → Prop} {s : Shared} {env : Env} {h₀ : Heap} {target : Expr} {body : List Stmt} {Q : Flow → Shared → Prop}
/-- a for over a made tuple, its items unpacked -/
theorem turns_tup {ax : Addr} {vs : List Value} {m₀ : Str → Option Value} {news : List (Addr × Obj)} (J : Nat → (Str → Option Value) → List (Addr × Obj) → Prop)
    (hh : A.handled = none) (hl : s.heap.IsTuple ax vs.toArray) (hlL : env.locals ≠ ax) (F : Fr h₀ env.locals s.heap m₀) (N : News h₀ env.locals s.heap news) (hj : J 0 m₀ news)
    (turn : ∀ i v m₁ news₁ h tk own I, vs[i]? = some v → (∀ p ∈ own, p.1 = I ∨ p.1 = ax) → (∀ p ∈ news₁, p.1 ≠ I) → J i m₁ news₁ → Fr h₀ env.locals h m₁ → News h₀ env.locals h (news₁ ++ own) →
      wpAny (model prog w) A (assign target env v) (fun _ s₃ => wpAny (model prog w) A (execs body env) (FreePost h₀ env.locals (J (i + 1)) own I { s with heap := h, toks := tk } Q) E s₃) E { s with heap := h, toks := tk })
    (done : ∀ m₁ news₁ h tk, J vs.length m₁ news₁ → Fr h₀ env.locals h m₁ → News h₀ env.locals h news₁ → Q .next { s with heap := h, toks := tk }) :
    wpAny (model prog w) A (pyIter (.ref ax)) (fun it s₂ => TurnsAt prog w A h₀ env target body Q E it s₂) E s := by
  refine wpAny_pyIter_tuple hl ?_
  have hIL : env.locals ≠ s.heap.objs.size := Nat.ne_of_lt F.ns.lt
  have hne : ax ≠ s.heap.objs.size := let ⟨o, ho, _⟩ := hl; Nat.ne_of_lt (Heap.lt_size ho)
  have W := Walks.tuple (prog := prog) (w := w) hh s.heap.objs.size ax hne vs.toArray
  have hlen : vs.toArray.size = vs.length := by simp
  rw [hlen] at W
  refine ⟨s.heap.objs.size, _, _, _, _, _, _, m₀, news, J, rfl, KTurns.ofWalks W (fun i v s Q E st q => letGo_tupleiter st.1 q), ?_, ?_, ?_, ⟨⟨_, Heap.get?_push_size _ rfl, rfl, rfl⟩, hl.push _⟩, F.push _, (fun p hp => ⟨Heap.get?_push_of_some _ (N p hp).1, (N p hp).2⟩), hj, ?_, ?_⟩
  · intro hm
    rcases List.mem_cons.mp hm with e | hm
    · exact hIL e
    · exact hlL (List.mem_singleton.mp hm)
  · intro b hb
    rw [List.mem_singleton.mp hb]
    exact next_is_new F
  · intro p hp hm
    exact Nat.ne_of_lt (Heap.lt_size (N p hp).1) (List.mem_singleton.mp hm)
  · intro i v m₁ news₁ h₁ tk₁ own hi hP hJ hnw hsub _ hall hst F₁ N₁
    have N₂ : News h₀ env.locals h₁ (news₁ ++ own) := fun p hp => N₁ p ((List.mem_append.mp hp).elim (fun h => List.mem_append.mpr (.inr h)) fun h => List.mem_append.mpr (.inl h))
    have hno : ∀ p ∈ news₁, p.1 ≠ s.heap.objs.size := fun p hp e => hnw p hp (List.mem_singleton.mpr e)
    have hown : ∀ p ∈ own, p.1 = s.heap.objs.size ∨ p.1 = ax := fun p hp => by
      rcases List.mem_cons.mp (hsub p hp) with e | hm
      · exact .inl e
      · exact .inr (List.mem_singleton.mp hm)
    refine wpAny_mono (turn i v m₁ news₁ h₁ tk₁ own _ (by simpa using hP) hown hno hJ F₁ N₂) (fun _ s₃ h₃ => wpAny_mono h₃ (fun f s₂ p => ?_) fun _ _ e => e) fun _ _ e => e
    have fin : (∃ h' tk m' news' nx, s₂ = { s with heap := h', toks := tk } ∧ Fr h₀ env.locals h' m' ∧ News h₀ env.locals h' news' ∧ (∀ p ∈ nx, p ∈ news') ∧ (∀ p ∈ own, p ∈ news') ∧ (∀ p ∈ nx, p.1 ≠ s.heap.objs.size) ∧ J (i + 1) m' nx) → LoopStepU h₀ env.locals [s.heap.objs.size] own (J (i + 1)) { s with heap := h₁, toks := tk₁ } .next s₂ := by
      rintro ⟨h', tk, m', news', nx, e, F', N', hn, ho, ha, hm⟩
      exact ⟨rfl, h', tk, m', nx, e, F', fun p hp => N' p ((List.mem_append.mp hp).elim (ho p) (hn p)), fun p hp hq => ha p hp (List.mem_singleton.mp hq), hm⟩
    cases f with
    | ret v => exact .ret p
    | brk => exact .brk p
    | next => exact .next (fin p)
    | cont => exact .cont (fin p)
  · intro h' tk m' news' F' N' _ hJ
    exact done m' news' h' tk hJ F' N'
end
end Mine

end
section
open PySem PySem.W PySem.Calls PyProof.Rows
set_option linter.unusedVariables false
set_option maxRecDepth 100000
namespace Mine
/-- a frame at work -/
structure Cx where
  prog : Program
  w : World
  A : Around
  env : Env
  g : Heap
  s₁ : Shared
  K : Frag
  keep : Bool
abbrev Tys := List (Str × (Value → Prop))
abbrev Led := List (Addr × Obj)
abbrev noE : Value → Shared → Prop := fun _ _ => False
def Has (m : Str → Option Value) (Γ : Tys) : Prop := ∀ q ∈ Γ, ∃ v, m q.1 = some v ∧ q.2 v
/-- the state: the names' kinds and values, the ledger -/
def St (c : Cx) (Γ : Tys) (N : Led) (s : Shared) : Prop :=
  ∃ h tk gs m, s = { c.s₁ with heap := h, toks := tk, gens := gs } ∧ (c.keep = false → AllBare gs) ∧ (c.keep = true → gs = c.s₁.gens) ∧ Fr c.g c.env.locals h m ∧ News c.g c.env.locals h N ∧ Has m Γ
def IsL (n : Nat) (l : List Nat) : Value → Prop := fun v => (∃ t, v = .str (S l) t) ∧ l.length ≤ n
def IsI (i : Int) : Value → Prop := fun v => ∃ t, v = .int i t
def IsK (n k : Nat) : Value → Prop := fun v => (∃ t, v = .int (k : Int) t) ∧ k ≤ n
def IsB (b : Bool) : Value → Prop := fun v => v = .bool b
def IsV (x : Value) : Value → Prop := fun v => v = x
/-- evaluating e gives a value with P, and leaves the rest -/
def Ev (c : Cx) (Γ : Tys) (e : Expr) (P : Value → Prop) : Prop := ∀ N s, St c Γ N s → wpAny (model c.prog c.w) c.A (eval e c.env) (fun v s' => P v ∧ St c Γ N s') noE s
/-- a call of f with vs -/
def Cn (c : Cx) (f : Value) (vs : List Value) (P : Value → Prop) : Prop := ∀ Γ N s, St c Γ N s → wpAny (model c.prog c.w) c.A (call f vs) (fun v s' => P v ∧ St c Γ N s') noE s
/-- a test -/
def Tr (c : Cx) (Γ : Tys) (e : Expr) (b : Bool) : Prop := ∀ N s, St c Γ N s → wpAny (model c.prog c.w) c.A (isTrue e c.env (eval e c.env)) (fun b' s' => b' = b ∧ St c Γ N s') noE s
/-- a statement, a block that goes on -/
def Ex (c : Cx) (Γ : Tys) (N : Led) (st : Stmt) (Γ' : Tys) (N' : Led) : Prop := ∀ s, St c Γ N s → wpAny (model c.prog c.w) c.A (exec st c.env) (fun f s' => f = .next ∧ St c Γ' N' s') noE s
def Xs (c : Cx) (Γ : Tys) (N : Led) (l : List Stmt) (Γ' : Tys) (N' : Led) : Prop := ∀ s, St c Γ N s → wpAny (model c.prog c.w) c.A (execs l c.env) (fun f s' => f = .next ∧ St c Γ' N' s') noE s
/-- a def of the text, callable by its name -/
def Gl (c : Cx) (x : Str) (f : Value) : Prop := ∀ p s m (Q : Value → Shared → Prop) E, Fr c.g c.env.locals s.heap m → Q f s → wpAny (model c.prog c.w) c.A (eval (.Name x p) c.env) Q E s
def Fc (c : Cx) (x : Str) (f : Value) : Prop := Gl c x f ∧ keepIn c.K f = true ∧ c.K.In c.g
variable {c : Cx} {Γ Γ₁ Γ' : Tys} {N N₁ N' : Led}

theorem wp_then {α : Type} {M : Model} {A : Around} {t : Sem α} {Q Q' : α → Shared → Prop} {E : Value → Shared → Prop} {s : Shared} (h : wpAny M A t Q noE s) (k : ∀ v s', Q v s' → Q' v s') : wpAny M A t Q' E s := wpAny_mono h k (fun _ _ e => e.elim)
theorem St.toks {s : Shared} (h : St c Γ N s) (k : Nat) : St c Γ N { s with toks := k } := by
  obtain ⟨h', tk, gs, m, rfl, r⟩ := h
  exact ⟨h', k, gs, m, rfl, r⟩
theorem St.weak {s : Shared} (h : St c Γ N s) (hs : ∀ q ∈ Γ', q ∈ Γ) : St c Γ' N s := by
  obtain ⟨h', tk, gs, m, e, a, g, b, d, H⟩ := h
  exact ⟨h', tk, gs, m, e, a, g, b, d, fun q hq => H q (hs q hq)⟩
theorem St.led {s : Shared} (h : St c Γ N s) (hs : ∀ q ∈ N', q ∈ N) : St c Γ N' s := by
  obtain ⟨h', tk, gs, m, e, a, g, b, d, H⟩ := h
  exact ⟨h', tk, gs, m, e, a, g, b, fun q hq => d q (hs q hq), H⟩
theorem Ev.mono {e : Expr} {P P' : Value → Prop} (h : Ev c Γ e P) (k : ∀ v, P v → P' v) : Ev c Γ e P' := fun N s hs => wp_then (h N s hs) fun v s' hv => ⟨k v hv.1, hv.2⟩

theorem Ev.name {x : Str} {p : Pos} {P : Value → Prop} (h : (x, P) ∈ Γ) (hf : c.env.scope.kind = .function) (hk : c.env.kindOf x = some .local) (hd : (x == ("__debug__" : Str)) = false) : Ev c Γ (.Name x p) P := by
  rintro N s ⟨h', tk, gs, m, rfl, hb, g, F, Nn, H⟩
  obtain ⟨v, hv, hP⟩ := H _ h
  exact wpAny_Name (wpAny_loadName_local hf hk F.ns hv ⟨hP, h', tk, gs, m, rfl, hb, g, F, Nn, H⟩) hd
theorem Ev.lit {x : Str} {k : Nat} {p : Pos} {n : Nat} {l : List Nat} (hx : x = S l) (hl : l.length = n) : Ev c Γ (.Constant (.str x) k p) (IsL n l) := by
  intro N s hs
  refine Calls.Constant_str ⟨⟨⟨_, by rw [hx]⟩, Nat.le_of_eq hl⟩, hs.toks _⟩
theorem Ev.int {i : Int} {k : Nat} {p : Pos} : Ev c Γ (.Constant (.int i) k p) (IsI i) := fun N s hs => wpAny_Constant_int ⟨⟨_, rfl⟩, hs.toks _⟩
theorem Ev.bool {b : Bool} {k : Nat} {p : Pos} : Ev c Γ (.Constant (.bool b) k p) (IsB b) := fun N s hs => Constant_bool ⟨rfl, hs⟩
theorem Ev.bin {a b : Expr} {o : Operator} {p : Pos} {P P' R : Value → Prop} (ha : Ev c Γ a P) (hb : Ev c Γ b P')
    (hop : ∀ v v', P v → P' v' → ∀ N s, St c Γ N s → wpAny (model c.prog c.w) c.A (binaryOp o v v') (fun v s' => R v ∧ St c Γ N s') noE s) : Ev c Γ (.BinOp a o b p) R := by
  intro N s hs
  refine wpAny_BinOp (wp_then (ha N s hs) fun v s₁ h₁ => wp_then (hb N s₁ h₁.2) fun v' s₂ h₂ => hop v v' h₁.1 h₂.1 N s₂ h₂.2)
theorem IsL.fits {n m : Nat} {l j : List Nat} (h : l.length ≤ n) (h' : j.length ≤ m) (hs : Nat.ble (n + m) 1000000 = true) : (S l).length + (S j).length ≤ sizeLine := by
  have := Nat.le_of_ble_eq_true hs
  rw [S_len, S_len, sizeLine_eq]; omega
theorem S_cat (a b : List Nat) : S a ++ S b = S (a ++ b) := by
  show Str.append _ _ = _
  simp [S, Str.append]
theorem Ev.add {a b : Expr} {p : Pos} {n m : Nat} {l j : List Nat} (ha : Ev c Γ a (IsL n l)) (hb : Ev c Γ b (IsL m j)) (hs : Nat.ble (n + m) 1000000 = true) : Ev c Γ (.BinOp a .Add b p) (IsL (n + m) (l ++ j)) := by
  refine Ev.bin ha hb ?_
  rintro v v' ⟨⟨t, rfl⟩, hl⟩ ⟨⟨t', rfl⟩, hj⟩ N s hst
  exact SB.add (fun t'' k => ⟨⟨⟨t'', by rw [S_cat]⟩, by rw [List.length_append]; omega⟩, hst.toks _⟩) (IsL.fits hl hj hs)
theorem Ev.cmp {a b : Expr} {o : CmpOp} {p : Pos} {P P' : Value → Prop} {r : Bool} (ha : Ev c Γ a P) (hb : Ev c Γ b P')
    (hop : ∀ v v', P v → P' v' → ∀ s Q E, Q (.bool r) s → wpAny (model c.prog c.w) c.A (compareOp o v v') Q E s) (hm : behindInMarks o b = false) : Ev c Γ (.Compare a [o] [b] p) (IsB r) := by
  intro N s hs
  refine wpAny_Compare1 (wp_then (ha N s hs) fun v s₁ h₁ => wp_then (hb N s₁ h₁.2) fun v' s₂ h₂ => hop v v' h₁.1 h₂.1 _ _ _ ⟨rfl, h₂.2⟩) hm
theorem Tr.cmp {a b : Expr} {o : CmpOp} {p : Pos} {P P' : Value → Prop} {r : Bool} (ha : Ev c Γ a P) (hb : Ev c Γ b P')
    (hop : ∀ v v', P v → P' v' → ∀ s Q E, Q (.bool r) s → wpAny (model c.prog c.w) c.A (compareOp o v v') Q E s) (hm : behindInMarks o b = false) : Tr c Γ (.Compare a [o] [b] p) r := by
  intro N s hs
  exact wpAny_isTrue_Compare1 (wp_then (ha N s hs) fun v s₁ h₁ => wp_then (hb N s₁ h₁.2) fun v' s₂ h₂ => hop v v' h₁.1 h₂.1 _ _ _ (wpAny_truthy_bool ⟨rfl, h₂.2⟩)) hm
theorem Tr.plain {e : Expr} {b : Bool} (h : Ev c Γ e (IsB b)) (he : isTrue e c.env (eval e c.env) = (do let v ← eval e c.env; standAt e.pos; holding [v] (truthy v))) : Tr c Γ e b := fun N s hs =>
  isTrue_plain (wp_then (h N s hs) fun v s₁ h₁ => by rw [show v = .bool b from h₁.1]; exact wpAny_truthy_bool ⟨rfl, h₁.2⟩) he
theorem Tr.or2 {a b : Expr} {p : Pos} (ha : Tr c Γ a false) {r : Bool} (hb : Tr c Γ b r) : Tr c Γ (.BoolOp .Or [a, b] p) r := fun N s hs =>
  isTrue_or (wp_then (ha N s hs) fun v s₁ h₁ => by
    rw [h₁.1]
    exact isTrue_or (wp_then (hb N s₁ h₁.2) fun v s₂ h₂ => by
      rw [h₂.1]
      cases r with
      | true => exact ⟨rfl, h₂.2⟩
      | false => exact isTrue_or_nil ⟨rfl, h₂.2⟩))
theorem op_isnot {a b r : Bool} (hr : (a != b) = r) : ∀ v v', IsB a v → IsB b v' → ∀ s Q E, Q (.bool r) s → wpAny (model c.prog c.w) c.A (compareOp .IsNot v v') Q E s := by
  rintro v v' rfl rfl s Q E h; subst hr; exact isnot_bool h
theorem op_ne {a b : Int} {r : Bool} (hr : (a != b) = r) : ∀ v v', IsI a v → IsI b v' → ∀ s Q E, Q (.bool r) s → wpAny (model c.prog c.w) c.A (compareOp .NotEq v v') Q E s := by
  rintro v v' ⟨t, rfl⟩ ⟨t', rfl⟩ s Q E h; subst hr; exact ne_int h
theorem op_eq {a b : Int} {r : Bool} (hr : (a == b) = r) : ∀ v v', IsI a v → IsI b v' → ∀ s Q E, Q (.bool r) s → wpAny (model c.prog c.w) c.A (compareOp .Eq v v') Q E s := by
  rintro v v' ⟨t, rfl⟩ ⟨t', rfl⟩ s Q E h; subst hr; exact eq_int h
theorem op_isnot_int : ∀ v v', IsV (.type "int") v → IsV (.type "int") v' → ∀ s Q E, Q (.bool false) s → wpAny (model c.prog c.w) c.A (compareOp .IsNot v v') Q E s := by
  rintro v v' rfl rfl s Q E h; exact isnot_type_same h
theorem op_is_int : ∀ v v', IsV (.type "int") v → IsV (.type "int") v' → ∀ s Q E, Q (.bool true) s → wpAny (model c.prog c.w) c.A (compareOp .Is v v') Q E s := by
  rintro v v' rfl rfl s Q E h; exact wpAny_is_self (by rfl) h
theorem op_eq_str {a b : List Nat} {n m : Nat} {r : Bool} (hr : decide (a = b) = r) : ∀ v v', IsL n a v → IsL m b v' → ∀ s Q E, Q (.bool r) s → wpAny (model c.prog c.w) c.A (compareOp .Eq v v') Q E s := by
  rintro v v' ⟨⟨t, rfl⟩, _⟩ ⟨⟨t', rfl⟩, _⟩ s Q E h
  subst hr
  refine eq_str ?_
  rw [S_beq]; exact h


theorem St.fr {s : Shared} (h : St c Γ N s) : ∃ m, Fr c.g c.env.locals s.heap m := by
  obtain ⟨h', tk, gs, m, rfl, hb, g, F, r⟩ := h
  exact ⟨m, F⟩
theorem Ev.gl {x : Str} {p : Pos} {f : Value} (h : Gl c x f) : Ev c Γ (.Name x p) (IsV f) := fun N s hs => let ⟨m, F⟩ := hs.fr; h p s m _ _ F ⟨rfl, hs⟩
/-- arguments -/
def AllP : List (Value → Prop) → List Value → Prop
  | [], [] => True
  | P :: Ps, v :: vs => P v ∧ AllP Ps vs
  | _, _ => False
theorem lenP1 {P : Value → Prop} : ∀ {vs : List Value}, AllP [P] vs → ∃ v, vs = [v]
  | [v], _ => ⟨v, rfl⟩
theorem lenP2 {P P' : Value → Prop} : ∀ {vs : List Value}, AllP [P, P'] vs → ∃ v v', vs = [v, v']
  | v :: vs, h => let ⟨v', e⟩ := lenP1 (P := P') h.2; ⟨v, v', e ▸ rfl⟩
theorem lenP3 {P P' P'' : Value → Prop} : ∀ {vs : List Value}, AllP [P, P', P''] vs → ∃ v v' v'', vs = [v, v', v'']
  | v :: vs, h => let ⟨v', v'', e⟩ := lenP2 (P := P') (P' := P'') h.2; ⟨v, v', v'', e ▸ rfl⟩
def EvA (c : Cx) (Γ : Tys) (es : List Expr) (Ps : List (Value → Prop)) : Prop := ∀ p N s, St c Γ N s → wpAny (model c.prog c.w) c.A (spliced (backTo p (starEach es c.env))) (fun vs s' => AllP Ps vs ∧ St c Γ N s') noE s
theorem EvA.nil : EvA c Γ [] [] := fun p N s hs => Calls.spliced_nil ⟨trivial, hs⟩
theorem EvA.cons {e : Expr} {es : List Expr} {P : Value → Prop} {Ps : List (Value → Prop)} (h : Ev c Γ e P) (hr : EvA c Γ es Ps) (h1 : starEach (e :: es) c.env = (false, eval e c.env) :: starEach es c.env) : EvA c Γ (e :: es) (P :: Ps) := by
  intro p N s hs
  rw [h1]
  exact Calls.spliced_cons (wp_then (h N s hs) fun v s₁ h₁ => wp_then (hr p N s₁ h₁.2) fun vs s₂ h₂ => ⟨⟨h₁.1, h₂.1⟩, h₂.2⟩)
/-- a call that hands back new objects -/
def CnN (c : Cx) (f : Value) (vs : List Value) (P : Value → Led → Prop) : Prop := ∀ Γ N s, St c Γ N s → wpAny (model c.prog c.w) c.A (call f vs) (fun v s' => ∃ own, P v own ∧ (∀ p ∈ own, ∀ q ∈ N, q.1 < p.1) ∧ St c Γ (own ++ N) s') noE s
def EvN (c : Cx) (Γ : Tys) (e : Expr) (P : Value → Led → Prop) : Prop := ∀ N s, St c Γ N s → wpAny (model c.prog c.w) c.A (eval e c.env) (fun v s' => ∃ own, P v own ∧ (∀ p ∈ own, ∀ q ∈ N, q.1 < p.1) ∧ St c Γ (own ++ N) s') noE s
theorem EvN.call {x : Str} {p p2 : Pos} {e : Expr} {es : List Expr} {f : Value} {Ps : List (Value → Prop)} {R : Value → Led → Prop} (hf : Fc c x f) (ha : EvA c Γ (e :: es) Ps) (hc : ∀ vs, AllP Ps vs → CnN c f vs R)
    (h1 : starEach (e :: es) c.env = (false, eval e c.env) :: starEach es c.env) (h2 : (backTo p2 (starEach es c.env)).any (·.1) = false)
    (he : eval (.Call (.Name x p) (e :: es) [] p2) c.env = (do callWith p2 (← eval (.Name x p) c.env) [] (backTo p2 (starEach (e :: es) c.env)) (backToKw p2 (keywordEach [] c.env)))) : EvN c Γ (.Call (.Name x p) (e :: es) [] p2) R := by
  intro N s hs
  obtain ⟨m, F⟩ := hs.fr
  refine Call_ (hf.1 p s m _ _ F ?_) he
  refine callWith_K hf.2.2 hf.2.1 ?_ h1 h2
  refine wp_then (ha p2 N s hs) fun vs s₂ h₂ => ⟨?_, hc vs h₂.1 Γ N s₂ h₂.2⟩
  obtain ⟨m₂, F₂⟩ := h₂.2.fr
  exact hf.2.2.keeps F₂.keep
theorem Ev.call {x : Str} {p p2 : Pos} {e : Expr} {es : List Expr} {f : Value} {Ps : List (Value → Prop)} {R : Value → Prop} (hf : Fc c x f) (ha : EvA c Γ (e :: es) Ps) (hc : ∀ vs, AllP Ps vs → Cn c f vs R)
    (h1 : starEach (e :: es) c.env = (false, eval e c.env) :: starEach es c.env) (h2 : (backTo p2 (starEach es c.env)).any (·.1) = false)
    (he : eval (.Call (.Name x p) (e :: es) [] p2) c.env = (do callWith p2 (← eval (.Name x p) c.env) [] (backTo p2 (starEach (e :: es) c.env)) (backToKw p2 (keywordEach [] c.env)))) : Ev c Γ (.Call (.Name x p) (e :: es) [] p2) R := by
  intro N s hs
  obtain ⟨m, F⟩ := hs.fr
  refine Call_ (hf.1 p s m _ _ F ?_) he
  refine callWith_K hf.2.2 hf.2.1 ?_ h1 h2
  refine wp_then (ha p2 N s hs) fun vs s₂ h₂ => ⟨?_, hc vs h₂.1 Γ N s₂ h₂.2⟩
  obtain ⟨m₂, F₂⟩ := h₂.2.fr
  exact hf.2.2.keeps F₂.keep
/-- a built-in called by its name: one argument -/
theorem Ev.type1 {x : Str} {T : String} {p p2 : Pos} {e : Expr} {P R : Value → Prop} (hf : Gl c x (.type T)) (ha : Ev c Γ e P) (hc : ∀ v, P v → Cn c (.type T) [v] R)
    (h1 : starEach [e] c.env = (false, eval e c.env) :: starEach [] c.env)
    (he : eval (.Call (.Name x p) [e] [] p2) c.env = (do callWith p2 (← eval (.Name x p) c.env) [] (backTo p2 (starEach [e] c.env)) (backToKw p2 (keywordEach [] c.env)))) : Ev c Γ (.Call (.Name x p) [e] [] p2) R := by
  intro N s hs
  obtain ⟨m, F⟩ := hs.fr
  refine Call_ (hf p s m _ _ F ?_) he
  refine PySem.Pv.callWith_type1 ?_ h1 rfl
  refine wp_then (EvA.cons ha EvA.nil h1 p2 N s hs) fun vs s₂ h₂ => ?_
  have hv := h₂.1
  obtain ⟨v, rfl⟩ := lenP1 hv
  exact hc v hv.1 Γ N s₂ h₂.2
theorem Ev.fun1 {x : Str} {T : String} {p p2 : Pos} {e : Expr} {P R : Value → Prop} (hf : Gl c x (.builtin T)) (ha : Ev c Γ e P) (hc : ∀ v, P v → Cn c (.builtin T) [v] R)
    (h1 : starEach [e] c.env = (false, eval e c.env) :: starEach [] c.env)
    (he : eval (.Call (.Name x p) [e] [] p2) c.env = (do callWith p2 (← eval (.Name x p) c.env) [] (backTo p2 (starEach [e] c.env)) (backToKw p2 (keywordEach [] c.env)))) : Ev c Γ (.Call (.Name x p) [e] [] p2) R := by
  intro N s hs
  obtain ⟨m, F⟩ := hs.fr
  refine Call_ (hf p s m _ _ F ?_) he
  refine PyProof.Rows.callWith_builtin1 ?_ h1
  refine wp_then (EvA.cons ha EvA.nil h1 p2 N s hs) fun vs s₂ h₂ => ?_
  have hv := h₂.1
  obtain ⟨v, rfl⟩ := lenP1 hv
  exact hc v hv.1 Γ N s₂ h₂.2
theorem cn_type_int {i : Int} : ∀ v, IsI i v → Cn c (.type "type") [v] (IsV (.type "int")) := by
  rintro v ⟨t, rfl⟩ Γ N s hs
  exact call_type_of (typeIs_int s i t) (by rfl) ⟨rfl, hs⟩
theorem cn_len {n : Nat} {l : List Nat} (h : Nat.ble n 1000000 = true) : ∀ v, IsL n l v → Cn c (.builtin "len") [v] (IsK n l.length) := by
  rintro v ⟨⟨t, rfl⟩, hl⟩ Γ N s hs
  have := Nat.le_of_ble_eq_true h
  refine P.len_str (by rw [S_len]; omega) ⟨⟨⟨_, by rw [S_len]⟩, hl⟩, hs.toks _⟩

/-- what a contract asks of the frame -/
def Fnc (c : Cx) (p : Program) (n : Nat) : Prop :=
  ∃ (loose : List Str) (mean : ExcName → Option Value) (mg mb : Str → Option Value) (dp un : Nat) (gd : Option (List Code)) (cn : Str) (cs : PySem.Scope) (a : Addr) (ccd : Value) (cl : List (Str × Addr)) (outer : List Env) (A₀ : Around) (base : Heap),
    c.A = ktrTop dp un gd cn cs c.env.locals a ccd cl outer ∧ Below A₀ base outer c.g ∧ c.K.In c.g ∧ Top p loose mean mg mb c.g ∧ cs.kind = .function ∧ dp + n < recursionLimit ∧ un + 8 * n < cLine
theorem cnN_fn {p : Program} {f : Addr} {need n : Nat} {vs : List Value} {P : Value → Led → Prop} (C : Fn c.prog c.w c.K p f need vs P) (X : Fnc c p n) (hn : Nat.ble need n = true) : CnN c (.ref f) vs P := by
  intro Γ N s hs
  have hn := Nat.le_of_ble_eq_true hn
  obtain ⟨loose, mean, mg, mb, dp, un, gd, cn, cs, a, ccd, cl, outer, A₀, base, hA, B, X, T, hk, hd, hu⟩ := X
  obtain ⟨h', tk, gs, m, rfl, hb, g, F, Nn, H⟩ := hs
  rw [hA]
  exact C.use B F X Nn T hk (by omega) (by omega) fun v own h'' tk'' hP F' N' hl => ⟨own, hP, hl, h'', tk'', gs, m, rfl, hb, g, F', N', H⟩
theorem cn_fn {p : Program} {f : Addr} {need n : Nat} {vs : List Value} {P : Value → Led → Prop} {R : Value → Prop} (C : Fn c.prog c.w c.K p f need vs P) (X : Fnc c p n) (hn : Nat.ble need n = true) (hR : ∀ v own, P v own → R v) : Cn c (.ref f) vs R := fun Γ N s hs =>
  wp_then (cnN_fn C X hn Γ N s hs) fun v s' ⟨own, hP, _, h⟩ => ⟨hR v own hP, h.led fun q hq => List.mem_append_right _ hq⟩
theorem cn_fnG {p : Program} {f : Addr} {need n : Nat} {vs : List Value} {P : Value → Prop} (C : FnG c.prog c.w c.K p f need vs P) (X : Fnc c p n) (hn : Nat.ble need n = true) (hk0 : c.keep = false) : Cn c (.ref f) vs P := by
  intro Γ N s hs
  have hn := Nat.le_of_ble_eq_true hn
  obtain ⟨loose, mean, mg, mb, dp, un, gd, cn, cs, a, ccd, cl, outer, A₀, base, hA, B, X, T, hk, hd, hu⟩ := X
  obtain ⟨h', tk, gs, m, rfl, hb, g, F, Nn, H⟩ := hs
  rw [hA]
  exact C.use B F X Nn T hk (hb hk0) (by omega) (by omega) fun v h'' tk'' gs'' hP F' N' hb' => ⟨hP, h'', tk'', gs'', m, rfl, fun _ => hb', (fun q => by rw [hk0] at q; cases q), F', N', H⟩

/-- statements -/
theorem Xs.nil : Xs c Γ N [] Γ N := fun s hs => wpAny_execs_nil ⟨rfl, hs⟩
theorem Xs.cons {st : Stmt} {l : List Stmt} (h : Ex c Γ N st Γ₁ N₁) (hr : Xs c Γ₁ N₁ l Γ' N') : Xs c Γ N (st :: l) Γ' N' := fun s hs =>
  wpAny_execs_cons (wp_then (h s hs) fun f s₁ h₁ => by rw [h₁.1]; exact hr s₁ h₁.2)
theorem Ex.weak {st : Stmt} (h : Ex c Γ N st Γ₁ N') (hs : ∀ q ∈ Γ', q ∈ Γ₁) : Ex c Γ N st Γ' N' := fun s h' => wp_then (h s h') fun f s₁ h₁ => ⟨h₁.1, h₁.2.weak hs⟩
theorem Ex.if0 {t : Expr} {body orelse : List Stmt} {p : Pos} (ht : Tr c Γ t false) (h : Xs c Γ N orelse Γ' N') : Ex c Γ N (.If t body orelse p) Γ' N' := fun s hs =>
  wpAny_If (wp_then (ht N s hs) fun b s₁ h₁ => by rw [h₁.1]; exact h s₁ h₁.2)
theorem Ex.if1 {t : Expr} {body orelse : List Stmt} {p : Pos} (ht : Tr c Γ t true) (h : Xs c Γ N body Γ' N') : Ex c Γ N (.If t body orelse p) Γ' N' := fun s hs =>
  wpAny_If (wp_then (ht N s hs) fun b s₁ h₁ => by rw [h₁.1]; exact h s₁ h₁.2)
def fresh (x : Str) (Γ : Tys) : Bool := Γ.all fun q => q.1 != x
theorem fresh_ne {x : Str} {Γ : Tys} (h : fresh x Γ = true) : ∀ q ∈ Γ, q.1 ≠ x := fun q hq e => by
  have := List.all_eq_true.mp h q hq
  simp [e] at this
theorem St.set {x : Str} {P : Value → Prop} {v : Value} {s : Shared} (hs : St c Γ N s) (hP : P v) (hf : fresh x Γ = true) (hx : c.env.kindOf x = some .local) (hp : (c.env.scope.kind == .class || (c.env.scope.kind == .module && c.env.locals != c.env.globals)) = false) :
    wpAny (model c.prog c.w) c.A (storeName c.env x v) (fun _ s' => St c ((x, P) :: Γ) N s') noE s := by
  obtain ⟨h', tk, gs, m, rfl, hb, g, F, Nn, H⟩ := hs
  refine wpAny_storeName_local hx F.ns (fun h'' hn hsb => ⟨h'', _, gs, _, rfl, hb, g, F.set hn hsb, Nn.set hsb, ?_⟩) hp
  intro q hq
  rcases List.mem_cons.mp hq with rfl | hq
  · exact ⟨v, by simp, hP⟩
  · obtain ⟨u, hu, hPu⟩ := H q hq
    exact ⟨u, by simp only [if_neg (fresh_ne hf q hq)]; exact hu, hPu⟩
theorem Ex.assign {x : Str} {p p2 : Pos} {e : Expr} {P : Value → Prop} (he : Ev c Γ e P) (hsub : ∀ q ∈ Γ', q ∈ Γ) (hf : fresh x Γ' = true) (hx : c.env.kindOf x = some .local) (hp : (c.env.scope.kind == .class || (c.env.scope.kind == .module && c.env.locals != c.env.globals)) = false)
    (hs : swapsWith e (some (.Name x p)) p2.line c.env = pure false) : Ex c Γ N (.Assign [.Name x p] e p2) ((x, P) :: Γ') N := fun s h =>
  wpAny_Assign_Name (wp_then (he N s h) fun v s₁ h₁ => wp_then ((h₁.2.weak hsub).set h₁.1 hf hx hp) fun _ s₂ h₂ => ⟨rfl, h₂⟩) hs
/-- two names at once, from a tuple that stands in the ledger -/
theorem assign2 {x y : Str} {p1 p2 p3 : Pos} {k : Nat} {P P' : Value → Prop} {s : Shared} {T : Addr} {v v' : Value} (hs : St c Γ N s) (hm : (T, tupOf [v, v']) ∈ N) (hP : P v) (hP' : P' v') (hh : c.A.handled = none) (hf : fresh x Γ = true) (hf2 : fresh y ((x, P) :: Γ) = true)
    (hx : c.env.kindOf x = some .local) (hy : c.env.kindOf y = some .local) (hp : (c.env.scope.kind == .class || (c.env.scope.kind == .module && c.env.locals != c.env.globals)) = false) :
    wpAny (model c.prog c.w) c.A (assign (.Tuple [.Name x p1, .Name y p2] k p3) c.env (.ref T)) (fun _ s' => St c ((y, P') :: (x, P) :: Γ) N s') noE s := by
  obtain ⟨h', tk, gs, m, rfl, hb, g, F, Nn, H⟩ := hs
  refine unpackN_ F Nn (News.isTup Nn hm) hh rfl rfl fun h₁ F₁ N₁ => ?_
  have st : St c Γ N { c.s₁ with heap := h₁, toks := tk, gens := gs } := ⟨h₁, tk, gs, m, rfl, hb, g, F₁, N₁, H⟩
  refine assignInOrder_cons (assign_Name (wp_then (st.set hP hf hx hp) fun _ s₂ h₂ => ?_))
  exact assignInOrder_cons (assign_Name (wp_then (h₂.set hP' hf2 hy hp) fun _ s₃ h₃ => assignInOrder_nil h₃))
theorem Ex.unpack2 {x y : Str} {p1 p2 p3 p4 : Pos} {k : Nat} {e : Expr} {P P' : Value → Prop} {R : Value → Led → Prop} (he : EvN c Γ e R) (hR : ∀ v own, R v own → ∃ T a b, v = .ref T ∧ (T, tupOf [a, b]) ∈ own ∧ P a ∧ P' b) (hh : c.A.handled = none)
    (hsub : ∀ q ∈ Γ', q ∈ Γ) (hf : fresh x Γ' = true) (hf2 : fresh y ((x, P) :: Γ') = true)
    (hx : c.env.kindOf x = some .local) (hy : c.env.kindOf y = some .local) (hp : (c.env.scope.kind == .class || (c.env.scope.kind == .module && c.env.locals != c.env.globals)) = false)
    (hs : swapsWithSole [.Tuple [.Name x p1, .Name y p2] k p3] e p4.line c.env = pure false) (hw : swappedStores [.Tuple [.Name x p1, .Name y p2] k p3] e c.env = pure none) :
    Ex c Γ N (.Assign [.Tuple [.Name x p1, .Name y p2] k p3] e p4) ((y, P') :: (x, P) :: Γ') N := by
  intro s h
  refine Assign_Tuple (wp_then (he N s h) ?_) hs hw
  rintro v s₁ ⟨own, hv, _, h₁⟩
  obtain ⟨T, a, b, rfl, hm, ha, hb⟩ := hR v own hv
  exact wp_then (assign2 (h₁.weak hsub) (List.mem_append_left _ hm) ha hb hh hf hf2 hx hy hp) fun _ s₂ h₂ => ⟨rfl, h₂.led fun q hq => List.mem_append_right _ hq⟩

/-- two names at once, from a written pair -/
theorem Ex.swap2 {x y : Str} {p1 p2 p3 p4 p5 : Pos} {k k2 : Nat} {a b : Expr} {P P' : Value → Prop} (ha : EvA c Γ [a, b] [P, P']) (hh : c.A.handled = none)
    (hsub : ∀ q ∈ Γ', q ∈ Γ) (hf : fresh y Γ' = true) (hf2 : fresh x ((y, P') :: Γ') = true)
    (hx : c.env.kindOf x = some .local) (hy : c.env.kindOf y = some .local) (hp : (c.env.scope.kind == .class || (c.env.scope.kind == .module && c.env.locals != c.env.globals)) = false)
    (hs : swapsWithSole [.Tuple [.Name x p1, .Name y p2] k p3] (.Tuple [a, b] k2 p5) p4.line c.env = pure false) (hw : swappedStores [.Tuple [.Name x p1, .Name y p2] k p3] (.Tuple [a, b] k2 p5) c.env = pure (some [x, y])) :
    Ex c Γ N (.Assign [.Tuple [.Name x p1, .Name y p2] k p3] (.Tuple [a, b] k2 p5) p4) ((x, P) :: (y, P') :: Γ') N := by
  intro s h
  refine Assign_Tuple_swapped (names := [x, y]) (Tuple_ (wp_then (ha p5 N s h) ?_)) hs hw
  rintro vs s₁ ⟨hv, h₁⟩
  obtain ⟨v, v', rfl⟩ := lenP2 hv
  · skip
    obtain ⟨hv, hv', _⟩ := hv
    obtain ⟨h', tk, gs, m, rfl, hb, g, F, Nn, H⟩ := h₁
    refine kup_newTuple F Nn (fun D h₂ F₂ N₂ _ => ?_) (by rw [sizeLine_eq]; simp)
    refine unpackItemsN_ F₂ N₂ (News.isTup N₂ (.head _)) hh rfl fun h₃ F₃ N₃ => ?_
    have st : St c Γ N { c.s₁ with heap := h₃, toks := tk, gens := gs } := ⟨h₃, tk, gs, m, rfl, hb, g, F₃, fun q hq => N₃ q (List.mem_cons_of_mem _ hq), H⟩
    refine assignInOrder_cons (bindName_ (wp_then ((st.weak hsub).set hv' hf hy hp) fun _ s₂ h₂ => ?_))
    exact assignInOrder_cons (bindName_ (wp_then (h₂.set hv hf2 hx hp) fun _ s₃ h₃ => assignInOrder_nil ⟨rfl, h₃⟩))
/-- a tuple of pairs -/
def Pairs (own : Led) : List ((Value → Prop) × (Value → Prop)) → List Value → Prop
  | [], [] => True
  | r :: rs, v :: vs => (∃ D a b, v = .ref D ∧ (D, tupOf [a, b]) ∈ own ∧ r.1 a ∧ r.2 b) ∧ Pairs own rs vs
  | _, _ => False
theorem Pairs.mono {own own' : Led} (h : ∀ q ∈ own, q ∈ own') : ∀ {rs vs}, Pairs own rs vs → Pairs own' rs vs
  | [], [], x => x
  | [], _ :: _, x => x
  | _ :: _, [], x => x
  | r :: rs, v :: vs, ⟨⟨D, a, b, e, m, x, y⟩, z⟩ => ⟨⟨D, a, b, e, h _ m, x, y⟩, Pairs.mono h z⟩
theorem Pairs.at {own : Led} : ∀ {rs vs} {i : Nat} {v : Value}, Pairs own rs vs → vs[i]? = some v → ∃ r, rs[i]? = some r ∧ ∃ D a b, v = .ref D ∧ (D, tupOf [a, b]) ∈ own ∧ r.1 a ∧ r.2 b
  | [], [], i, v, _, e => by simp at e
  | [], _ :: _, _, _, x, _ => x.elim
  | _ :: _, [], _, _, x, _ => x.elim
  | r :: rs, u :: vs, 0, v, x, e => by
    simp at e; subst e
    exact ⟨r, rfl, x.1⟩
  | r :: rs, u :: vs, i + 1, v, x, e => by
    obtain ⟨r', h1, h2⟩ := Pairs.at x.2 (by simpa using e)
    exact ⟨r', by simpa using h1, h2⟩
def EvPs (c : Cx) (Γ : Tys) (es : List Expr) (rs : List ((Value → Prop) × (Value → Prop))) : Prop := ∀ p N s, St c Γ N s → wpAny (model c.prog c.w) c.A (spliced (backTo p (starEach es c.env))) (fun vs s' => ∃ own, Pairs own rs vs ∧ St c Γ (own ++ N) s') noE s
theorem EvPs.nil : EvPs c Γ [] [] := fun p N s hs => Calls.spliced_nil ⟨[], trivial, hs⟩
theorem EvPs.cons {a b : Expr} {k : Nat} {p2 : Pos} {es : List Expr} {P P' : Value → Prop} {rs : List ((Value → Prop) × (Value → Prop))} (h : EvA c Γ [a, b] [P, P']) (hr : EvPs c Γ es rs)
    (h1 : starEach (.Tuple [a, b] k p2 :: es) c.env = (false, eval (.Tuple [a, b] k p2) c.env) :: starEach es c.env) : EvPs c Γ (.Tuple [a, b] k p2 :: es) ((P, P') :: rs) := by
  intro p N s hs
  rw [h1]
  refine Calls.spliced_cons (Tuple_ (k := k) (wp_then (h p2 N s hs) ?_))
  rintro vs s₁ ⟨hv, h₁⟩
  obtain ⟨v, v', rfl⟩ := lenP2 hv
  · skip
    obtain ⟨hv, hv', _⟩ := hv
    obtain ⟨h', tk, gs, m, rfl, hb, g, F, Nn, H⟩ := h₁
    refine kup_newTuple F Nn (fun D h₂ F₂ N₂ _ => ?_) (by rw [sizeLine_eq]; simp)
    have st : St c Γ ((D, tupOf [v, v']) :: N) { c.s₁ with heap := h₂, toks := tk, gens := gs } := ⟨h₂, tk, gs, m, rfl, hb, g, F₂, N₂, H⟩
    refine wp_then (hr p _ _ st) ?_
    rintro us s₃ ⟨own, hps, h₃⟩
    refine ⟨own ++ [(D, tupOf [v, v'])], ⟨⟨D, v, v', rfl, by simp, hv, hv'⟩, hps.mono fun q hq => List.mem_append_left _ hq⟩, ?_⟩
    rw [List.append_assoc]; exact h₃
def Cx.kp (c : Cx) (gs : Array GenState) : Cx := { c with keep := true, s₁ := { c.s₁ with gens := gs } }
/-- a for over a written tuple of pairs -/
theorem Ex.forPairs {x y : Str} {p1 p2 p3 p4 p5 : Pos} {k k2 : Nat} {es : List Expr} {body : List Stmt} {rs : List ((Value → Prop) × (Value → Prop))} (he : EvPs c Γ es rs) (hh : c.A.handled = none)
    (hb : ∀ r ∈ rs, ∀ gs N, Xs (c.kp gs) ((y, r.2) :: (x, r.1) :: Γ) N body Γ N) (hl : Nat.ble rs.length 1000 = true)
    (hf : fresh x Γ = true) (hf2 : ∀ P, fresh y ((x, P) :: Γ) = true) (hx : c.env.kindOf x = some .local) (hy : c.env.kindOf y = some .local) (hp : (c.env.scope.kind == .class || (c.env.scope.kind == .module && c.env.locals != c.env.globals)) = false)
    (hfold : ∀ v, foldedSetIterable (.Tuple es k2 p5) c.env v = pure v) : Ex c Γ N (.For (.Tuple [.Name x p1, .Name y p2] k p3) (.Tuple es k2 p5) body [] p4) Γ N := by
  intro s hs
  obtain ⟨m0, F0⟩ := hs.fr
  refine For_turns (h₀ := c.g) F0 ?_ hfold PassesOwn.never
  refine Tuple_ (wp_then (he p5 N s hs) ?_)
  rintro vs s₁ ⟨own, hps, st⟩
  have hlen : vs.length ≤ 1000 := by
    have : ∀ {rs : List ((Value → Prop) × (Value → Prop))} {vs : List Value}, Pairs own rs vs → vs.length = rs.length := by
      intro rs
      induction rs with
      | nil => intro vs h; cases vs with
        | nil => rfl
        | cons v vs => exact h.elim
      | cons r rs ih => intro vs h; cases vs with
        | nil => exact h.elim
        | cons v vs => rw [List.length_cons, List.length_cons, ih h.2]
    rw [this hps]; exact Nat.le_of_ble_eq_true hl
  obtain ⟨h₁, tk₁, gs₁, m₁, rfl, hb₁, g₁, F₁, N₁, H₁⟩ := st
  refine kup_newTuple F₁ N₁ (fun D h₂ F₂ N₂ _ => ?_) (by rw [sizeLine_eq]; omega)
  have hD := N₂ _ (.head _)
  refine turns_tup (s := { c.s₁ with heap := h₂, toks := tk₁, gens := gs₁ }) (fun i m nx => nx = own ++ N ∧ Has m Γ) hh ⟨_, hD.1, rfl, _, rfl⟩ (fun e => hD.2.1 e.symm) F₂ (fun q hq => N₂ q (List.mem_cons_of_mem _ hq)) ⟨rfl, H₁⟩ ?_ ?_
  · rintro i v m₃ nx h₃ tk₃ own₂ I hv hown hno ⟨rfl, H₃⟩ F₃ N₃
    obtain ⟨r, hr, D', a, b, rfl, hm, ha, hb'⟩ := hps.at hv
    have st : St (c.kp gs₁) Γ (own ++ N ++ own₂) { c.s₁ with heap := h₃, toks := tk₃, gens := gs₁ } := ⟨h₃, tk₃, gs₁, m₃, rfl, (fun q => by cases q), fun _ => rfl, F₃, N₃, H₃⟩
    refine wp_then (assign2 (c := c.kp gs₁) st (List.mem_append_left _ (List.mem_append_left _ hm)) ha hb' hh hf (hf2 _) hx hy hp) fun _ s₄ h₄ => ?_
    refine wp_then (hb r (List.mem_of_getElem? hr) gs₁ _ s₄ h₄) fun f s₅ h₅ => ?_
    obtain ⟨rfl, h', tk, gs, m, rfl, hb, g, F, Nn, H⟩ := h₅
    obtain rfl := g rfl
    exact ⟨h', tk, m, _, own ++ N, rfl, F, Nn, fun q hq => List.mem_append_left _ hq, fun q hq => List.mem_append_right _ hq, hno, rfl, H⟩
  · rintro m₃ nx h₃ tk₃ ⟨rfl, H₃⟩ F₃ N₃
    exact ⟨rfl, h₃, tk₃, gs₁, m₃, rfl, hb₁, g₁, F₃, fun q hq => N₃ q (List.mem_append_right _ hq), H₃⟩
end Mine

end
section
open PySem PySem.W PySem.Calls PyProof.Rows
set_option linter.unusedVariables false
set_option maxRecDepth 100000
namespace Mine
variable {c : Cx} {Γ Γ₁ Γ' : Tys} {N N₁ N' : Led}
theorem op_le {n m a b : Nat} {r : Bool} (hr : decide ((a : Int) ≤ (b : Int)) = r) : ∀ v v', IsK n a v → IsK m b v' → ∀ s Q E, Q (.bool r) s → wpAny (model c.prog c.w) c.A (compareOp .LtE v v') Q E s := by
  rintro v v' ⟨⟨t, rfl⟩, _⟩ ⟨⟨t', rfl⟩, _⟩ s Q E h; subst hr; exact le_int h
theorem op_gt {a b : Int} {r : Bool} (hr : decide (a > b) = r) : ∀ v v', IsI a v → IsI b v' → ∀ s Q E, Q (.bool r) s → wpAny (model c.prog c.w) c.A (compareOp .Gt v v') Q E s := by
  rintro v v' ⟨t, rfl⟩ ⟨t', rfl⟩ s Q E h; subst hr; exact gt_int h
theorem op_lt {a b : Int} {r : Bool} (hr : decide (a < b) = r) : ∀ v v', IsI a v → IsI b v' → ∀ s Q E, Q (.bool r) s → wpAny (model c.prog c.w) c.A (compareOp .Lt v v') Q E s := by
  rintro v v' ⟨t, rfl⟩ ⟨t', rfl⟩ s Q E h; subst hr; exact lt_int h
theorem Ev.and2 {a b : Expr} {p : Pos} {r r' : Bool} (ha : Ev c Γ a (IsB r)) (hb : Ev c Γ b (IsB r')) : Ev c Γ (.BoolOp .And [a, b] p) (IsB (r && r')) := fun N s hs =>
  BoolOp_and (wp_then (ha N s hs) fun v s₁ h₁ => by
    rw [show v = .bool r from h₁.1]
    refine wpAny_truthy_bool ?_
    cases r with
    | true => exact BoolOp_one (wp_then (hb N s₁ h₁.2) fun v s₂ h₂ => ⟨by rw [Bool.true_and]; exact h₂.1, h₂.2⟩)
    | false => exact ⟨rfl, h₁.2⟩)
theorem Ev.and3 {a b d : Expr} {p : Pos} {r r' : Bool} (ha : Ev c Γ a (IsB r)) (hb : Ev c Γ (.BoolOp .And [b, d] p) (IsB r')) : Ev c Γ (.BoolOp .And [a, b, d] p) (IsB (r && r')) := fun N s hs =>
  BoolOp_and (wp_then (ha N s hs) fun v s₁ h₁ => by
    rw [show v = .bool r from h₁.1]
    refine wpAny_truthy_bool ?_
    cases r with
    | true => exact wp_then (hb N s₁ h₁.2) fun v s₂ h₂ => ⟨by rw [Bool.true_and]; exact h₂.1, h₂.2⟩
    | false => exact ⟨rfl, h₁.2⟩)
theorem Ev.ifexp {a b d : Expr} {p : Pos} {r : Bool} {P : Value → Prop} (ht : Tr c Γ b r) (ha : r = true → Ev c Γ a P) (hd : r = false → Ev c Γ d P) : Ev c Γ (.IfExp b a d p) P := fun N s hs =>
  IfExp_ (wp_then (ht N s hs) fun v s₁ h₁ => by
    rw [h₁.1]
    cases r with
    | true => exact ha rfl N s₁ h₁.2
    | false => exact hd rfl N s₁ h₁.2)
theorem IsK.I {n k : Nat} : ∀ v, IsK n k v → IsI (k : Int) v := fun v h => h.1
/-- x[:e] -/
theorem Ev.sliceTo {a e : Expr} {p p2 : Pos} {n m k : Nat} {l : List Nat} (ha : Ev c Γ a (IsL n l)) (he : Ev c Γ e (IsK m k)) (hk : k ≤ l.length) (hn : Nat.ble n 1000000 = true)
    (hs : ∀ {x t r}, subscripted (.Slice none (some e) none p) false (.str x t) (.ref r) = operate [.ref r, .str x t] (getItem (.str x t) (.ref r)))
    (ht : ∀ {x t} r, letTemporaryGo a (.str x t) r = pure ()) : Ev c Γ (.Subscript a (.Slice none (some e) none p) p2) (IsL n (l.take k)) := by
  intro N s hs'
  refine Subscript_ (wp_then (ha N s hs') ?_)
  rintro v s₁ ⟨⟨⟨t, rfl⟩, hl⟩, h₁⟩
  refine wpAny_Slice (evalPart_none_step (evalPart_some_step (wp_then (he N s₁ h₁) ?_)))
  rintro v s₂ ⟨⟨⟨t', rfl⟩, hm⟩, h₂⟩
  refine evalPart_none_step ?_
  obtain ⟨h', tk, gs, m', rfl, hb, g, F, Nn, H⟩ := h₂
  have := Nat.le_of_ble_eq_true hn
  refine slice_strN_ns (s := { c.s₁ with heap := h', toks := tk, gens := gs }) F Nn (fun h₃ t₃ k₃ F₃ N₃ => ?_) hs ht (by rw [S_len, sizeLine_eq]; omega)
  refine ⟨⟨⟨t₃, by rw [slice_take l k hk]⟩, by rw [List.length_take]; omega⟩, h₃, k₃, gs, m', rfl, hb, g, F₃, N₃, H⟩
/-- x[e:] -/
theorem Ev.sliceFrom {a e : Expr} {p p2 : Pos} {n m k : Nat} {l : List Nat} (ha : Ev c Γ a (IsL n l)) (he : Ev c Γ e (IsK m k)) (hk : k ≤ l.length) (hn : Nat.ble n 1000000 = true)
    (hs : ∀ {x t r}, subscripted (.Slice (some e) none none p) false (.str x t) (.ref r) = operate [.ref r, .str x t] (getItem (.str x t) (.ref r)))
    (ht : ∀ {x t} r, letTemporaryGo a (.str x t) r = pure ()) : Ev c Γ (.Subscript a (.Slice (some e) none none p) p2) (IsL n (l.drop k)) := by
  intro N s hs'
  refine Subscript_ (wp_then (ha N s hs') ?_)
  rintro v s₁ ⟨⟨⟨t, rfl⟩, hl⟩, h₁⟩
  refine wpAny_Slice (evalPart_some_step (wp_then (he N s₁ h₁) ?_))
  rintro v s₂ ⟨⟨⟨t', rfl⟩, hm⟩, h₂⟩
  refine evalPart_none_step (evalPart_none_step ?_)
  obtain ⟨h', tk, gs, m', rfl, hb, g, F, Nn, H⟩ := h₂
  have := Nat.le_of_ble_eq_true hn
  refine slice_strN_sn (s := { c.s₁ with heap := h', toks := tk, gens := gs }) F Nn (fun h₃ t₃ k₃ F₃ N₃ => ?_) hs ht (by rw [S_len, sizeLine_eq]; omega)
  refine ⟨⟨⟨t₃, by rw [slice_drop l k hk]⟩, by rw [List.length_drop]; omega⟩, h₃, k₃, gs, m', rfl, hb, g, F₃, N₃, H⟩
theorem Ev.fdiv {a b : Expr} {p : Pos} {n m i j : Nat} (ha : Ev c Γ a (IsK n i)) (hb : Ev c Γ b (IsK m j)) (hj : j ≠ 0) (hn : (Nat.ble n 1000000 && Nat.ble m 1000000) = true) : Ev c Γ (.BinOp a .FloorDiv b p) (IsK n (i / j)) := by
  refine Ev.bin ha hb ?_
  rintro v v' ⟨⟨t, rfl⟩, hi⟩ ⟨⟨t', rfl⟩, hjm⟩ N s hst
  rw [Bool.and_eq_true] at hn
  have := Nat.le_of_ble_eq_true hn.1
  have := Nat.le_of_ble_eq_true hn.2
  refine floordiv_int (by omega) ⟨⟨⟨s.toks, ?_⟩, Nat.le_trans (Nat.div_le_self i j) hi⟩, hst.toks _⟩ (Or.inl (PyProof.noPylong_small (by omega)))
  rw [Int.fdiv_eq_ediv_of_nonneg _ (by omega)]; rfl
theorem Ev.mod {a b : Expr} {p : Pos} {n m i j : Nat} (ha : Ev c Γ a (IsK n i)) (hb : Ev c Γ b (IsK m j)) (hj : j ≠ 0) (hn : (Nat.ble n 1000000 && Nat.ble m 1000000) = true) : Ev c Γ (.BinOp a .Mod b p) (IsK n (i % j)) := by
  refine Ev.bin ha hb ?_
  rintro v v' ⟨⟨t, rfl⟩, hi⟩ ⟨⟨t', rfl⟩, hjm⟩ N s hst
  rw [Bool.and_eq_true] at hn
  have := Nat.le_of_ble_eq_true hn.1
  have := Nat.le_of_ble_eq_true hn.2
  refine mod_int' (by omega) ⟨⟨⟨s.toks, ?_⟩, Nat.le_trans (Nat.mod_le i j) hi⟩, hst.toks _⟩
  rw [Int.fmod_eq_emod_of_nonneg _ (by omega)]; rfl
theorem mul_rep (l : List Nat) (k : Nat) : Txt.mul (S l) (k : Int) = S (List.replicate k l).flatten := by
  unfold Txt.mul
  split
  · rw [show k = 0 by omega, S_def]; rfl
  · split
    · rename_i h1 h2
      rw [Bool.or_eq_true, beq_iff_eq, beq_iff_eq, S_len] at h2
      rcases h2 with h2 | h2
      · rw [show k = 1 by omega]; simp
      · rw [List.eq_nil_of_length_eq_zero h2]; simp
    · rw [Int.toNat_natCast]
      have : ∀ (k : Nat) (a : Array Nat), ((List.replicate k (S l).cps).foldl (· ++ ·) a) = (a.toList ++ (List.replicate k l).flatten).toArray := by
        intro k
        induction k with
        | zero => intro a; simp
        | succ k ih => intro a; rw [List.replicate_succ, List.foldl_cons, ih]; simp [S, List.replicate_succ]
      rw [this]; simp [S]
theorem Ev.mul {a b : Expr} {p : Pos} {n m k : Nat} {l : List Nat} (ha : Ev c Γ a (IsL n l)) (hb : Ev c Γ b (IsK m k)) (hs : (Nat.ble n 1000 && Nat.ble m 1000) = true) : Ev c Γ (.BinOp a .Mult b p) (IsL (n * m) (List.replicate k l).flatten) := by
  refine Ev.bin ha hb ?_
  rintro v v' ⟨⟨t, rfl⟩, hl⟩ ⟨⟨t', rfl⟩, hk⟩ N s hst
  rw [Bool.and_eq_true] at hs
  have h1 := Nat.le_of_ble_eq_true hs.1
  have h2 := Nat.le_of_ble_eq_true hs.2
  refine SB.mul (mulOk_of 1000 1000 (by rw [S_len]; omega) (by omega) (by omega) (by decide) (by decide)) fun t' n => ⟨⟨⟨t', by rw [mul_rep]⟩, ?_⟩, hst.toks _⟩
  rw [List.length_flatten, List.map_replicate, List.sum_replicate_nat, Nat.mul_comm]
  exact Nat.mul_le_mul hl hk
theorem Ev.endswith {a b : Expr} {p p2 : Pos} {n m : Nat} {l j : List Nat} {pl : Sem Bool} (ha : Ev c Γ a (IsL n l)) (hb : Ev c Γ b (IsL m j)) (h1 : starEach [b] c.env = (false, eval b c.env) :: starEach [] c.env)
    (he : eval (.Call (.Attribute a "endswith" p) [b] [] p2) c.env = (do
      let ov ← eval a c.env
      standAt p.atName
      let (f, first) ← holding [ov] (getMethod ov "endswith" pl)
      callWith p2 f first (backTo p2 (starEach [b] c.env)) [])) : Ev c Γ (.Call (.Attribute a "endswith" p) [b] [] p2) (IsB (Txt.endswith (S l) (S j))) := by
  intro N s hs
  refine MethodCall_ (pl := pl) (wp_then (ha N s hs) ?_) he
  rintro v s₁ ⟨⟨⟨t, rfl⟩, hl⟩, h₁⟩
  refine GM.endswith (callWith_method1 (wp_then (EvA.cons hb EvA.nil h1 p2 N s₁ h₁) ?_) h1 rfl)
  rintro vs s₂ ⟨hv, h₂⟩
  obtain ⟨v, rfl⟩ := lenP1 hv
  · skip
    obtain ⟨⟨⟨t', rfl⟩, _⟩, _⟩ := hv
    exact SC.endswith ⟨rfl, h₂⟩
/-- a while by an invariant and a measure -/
theorem Ex.while {α : Type} {t : Expr} {body : List Stmt} {p : Pos} (Γf : α → Tys) (ms : α → Nat) (bt : α → Bool) (nx : α → α) (Inv : α → Prop) {a₀ : α} (h0 : Inv a₀) (ht : ∀ gs a, Inv a → Tr (c.kp gs) (Γf a) t (bt a))
    (hb : ∀ gs a, Inv a → bt a = true → ∀ N, Xs (c.kp gs) (Γf a) N body (Γf (nx a)) N) (hn : ∀ a, Inv a → bt a = true → Inv (nx a) ∧ ms (nx a) < ms a) (hfin : ∀ a, Inv a → bt a = false → ∀ q ∈ Γ', q ∈ Γf a) : Ex c (Γf a₀) N (.While t body [] p) Γ' N := by
  intro s hs
  obtain ⟨h', tk, gs, m, rfl, hbr, g, F, Nn, H⟩ := hs
  refine While_out (h₀ := c.g) (n₀ := ms a₀) (s := { c.s₁ with heap := h', toks := tk, gens := gs }) (fun n m nx => nx = N ∧ ∃ a, ms a = n ∧ Inv a ∧ Has m (Γf a)) (fun m nx => nx = N ∧ Has m Γ') F Nn ⟨rfl, a₀, rfl, h0, H⟩ ?_ ?_ PassesOwn.never
  · rintro n m₁ nx₁ h₁ tk₁ F₁ N₁ ⟨rfl, a, rfl, hI, H₁⟩
    have st : St (c.kp gs) (Γf a) nx₁ { c.s₁ with heap := h₁, toks := tk₁, gens := gs } := ⟨h₁, tk₁, gs, m₁, rfl, (fun q => by cases q), fun _ => rfl, F₁, N₁, H₁⟩
    refine wp_then (ht gs a hI _ _ st) ?_
    rintro b s₂ ⟨rfl, h₂⟩
    cases hbt : bt a with
    | true =>
      rw [if_pos rfl]
      refine wp_then (hb gs a hI hbt _ _ h₂) ?_
      rintro f s₃ ⟨rfl, h'', tk'', gs'', m'', rfl, hb'', g'', F'', N'', H''⟩
      obtain rfl := g'' rfl
      exact ⟨rfl, h'', tk'', m'', _, _, rfl, F'', N'', (hn a hI hbt).2, rfl, nx a, rfl, (hn a hI hbt).1, H''⟩
    | false =>
      rw [if_neg (by simp)]
      obtain ⟨h'', tk'', gs'', m'', rfl, hb'', g'', F'', N'', H''⟩ := h₂
      obtain rfl := g'' rfl
      exact ⟨h'', tk'', m'', _, rfl, F'', N'', rfl, fun q hq => H'' q (hfin a hI hbt q hq)⟩
  · rintro m₁ nx₁ h₁ tk₁ ⟨rfl, H₁⟩ F₁ N₁
    exact ⟨rfl, h₁, tk₁, gs, m₁, rfl, hbr, g, F₁, N₁, H₁⟩
theorem Ev.sub {a b : Expr} {p : Pos} {i j : Int} (ha : Ev c Γ a (IsI i)) (hb : Ev c Γ b (IsI j)) : Ev c Γ (.BinOp a .Sub b p) (IsI (i - j)) := by
  refine Ev.bin ha hb ?_
  rintro v v' ⟨t, rfl⟩ ⟨t', rfl⟩ N s hst
  exact sub_int ⟨⟨_, rfl⟩, hst.toks _⟩
theorem Ev.eqB {e : Expr} {r r' : Bool} (h : Ev c Γ e (IsB r)) (he : r = r') : Ev c Γ e (IsB r') := he ▸ h
theorem Ev.intE {i j : Int} {k : Nat} {p : Pos} (h : j = i) : Ev c Γ (.Constant (.int i) k p) (IsI j) := h ▸ Ev.int
end Mine

end
section
open PySem PySem.W PySem.Calls PyProof.Rows
set_option linter.unusedVariables false
set_option maxRecDepth 100000
namespace Mine
variable {c : Cx} {Γ Γ₁ Γ' : Tys} {N N₀ N₁ N' : Led}
/-- a block that hands back a value -/
def Rt (c : Cx) (N₀ : Led) (Γ : Tys) (N : Led) (l : List Stmt) (P : Value → Led → Prop) : Prop := ∀ s, St c Γ N s → wpAny (model c.prog c.w) c.A (execs l c.env) (fun f s' => ∃ v own, f = .ret v ∧ P v own ∧ (∀ p ∈ own, ∀ q ∈ N₀, q.1 < p.1) ∧ St c [] (own ++ N₀) s') noE s
theorem Rt.cons {st : Stmt} {l : List Stmt} {P : Value → Led → Prop} (h : Ex c Γ N st Γ₁ N₁) (hr : Rt c N₀ Γ₁ N₁ l P) : Rt c N₀ Γ N (st :: l) P := fun s hs =>
  wpAny_execs_cons (wp_then (h s hs) fun f s₁ h₁ => by rw [h₁.1]; exact hr s₁ h₁.2)
theorem Rt.ret {e : Expr} {p : Pos} {l : List Stmt} {R : Value → Prop} (he : Ev c Γ e R) (hs : ∀ q ∈ N₀, q ∈ N) : Rt c N₀ Γ N (.Return (some e) p :: l) (fun v own => R v ∧ own = []) := fun s h =>
  wpAny_execs_cons (wpAny_Return_some (wp_then (he N s h) fun v s₁ h₁ => ⟨v, [], rfl, ⟨h₁.1, rfl⟩, (fun _ q => nomatch q), (h₁.2.weak (Γ' := []) fun _ q => nomatch q).led hs⟩))
theorem Rt.retN {e : Expr} {p : Pos} {l : List Stmt} {R : Value → Led → Prop} (he : EvN c Γ e R) : Rt c N Γ N (.Return (some e) p :: l) R := fun s h =>
  wpAny_execs_cons (wpAny_Return_some (wp_then (he N s h) fun v s₁ ⟨own, hv, hl, h₁⟩ => ⟨v, own, rfl, hv, hl, h₁.weak (Γ' := []) fun _ q => nomatch q⟩))
theorem Rt.if1 {t : Expr} {body orelse : List Stmt} {p : Pos} {l : List Stmt} {P : Value → Led → Prop} (ht : Tr c Γ t true) (h : Rt c N₀ Γ N body P) : Rt c N₀ Γ N (.If t body orelse p :: l) P := fun s hs =>
  wpAny_execs_cons (wpAny_If (wp_then (ht N s hs) fun b s₁ h₁ => by
    rw [h₁.1]
    exact wp_then (h s₁ h₁.2) fun f s₂ ⟨v, own, hf, r⟩ => by subst hf; exact ⟨v, own, rfl, r⟩))
theorem Rt.mono {l : List Stmt} {P P' : Value → Led → Prop} (h : Rt c N₀ Γ N l P) (k : ∀ v own, P v own → P' v own) : Rt c N₀ Γ N l P' := fun s hs =>
  wp_then (h s hs) fun f s₁ ⟨v, own, hf, hp, r⟩ => ⟨v, own, hf, k v own hp, r⟩
/-- what a def's body may use -/
def Rm (c : Cx) (p : Program) (n : Nat) : Prop :=
  c.A.handled = none ∧ Fnc c p n ∧ c.K.In c.g ∧ (∀ x v, nsIn c.K mainGlobals x = some (some v) → c.env.kindOf x = some .globalImplicit → (x == ("__debug__" : Str)) = false → Gl c x v) ∧
    (∀ x v, nsIn c.K mainGlobals x = some none → bootBuiltins x = some v → x ≠ "__name__" → c.env.kindOf x = some .globalImplicit → (x == ("__debug__" : Str)) = false → Gl c x v)
theorem Rm.fc {p : Program} {n : Nat} (R : Rm c p n) {x : Str} {f : Value} (h : nsIn c.K mainGlobals x = some (some f)) (hk : c.env.kindOf x = some .globalImplicit) (hd : (x == ("__debug__" : Str)) = false) (hf : keepIn c.K f = true) : Fc c x f := ⟨R.2.2.2.1 x f h hk hd, hf, R.2.2.1⟩
theorem Fn.of_rt {prog : Program} {w : World} {K : Frag} {p : Program} {f : Addr} {n : Nat} {vs : List Value} {P : Value → Led → Prop}
    {name qual : Str} {params : Arguments} {body : List Stmt} {scope : PySem.Scope} {dV kV doc pm cdv ct oc : Value} {an od : Option Addr} {osl : Array (Option Value)} {binds : List (Str × Value)}
    (ho : K.lookup f = some ⟨oc, od, .func (fnOf name qual params body scope dV kV doc pm an cdv ct), osl⟩) (hcd : codeIn K cdv qual = true)
    (hbind : ∀ s, BindsTo s (fnOf name qual params body scope dV kV doc pm an cdv ct) ⟨vs, []⟩ binds) (hloc : ∀ y ∈ binds, scope.names.lookup y.1 = some .local) (Γ : Tys) (hΓ : Has (fun y => binds.reverse.lookup y) Γ)
    (hco : scope.isCoroutine = false) (hgen : scope.isGenerator = false) (hk : scope.kind = .function) (hcell : ∀ x ∈ scope.names, x.2 ≠ .cell)
    (hr : ∀ A L' g s, Rm ⟨prog, w, A, envOf qual scope L' f cdv, g, s, K, true⟩ p n → ∀ N, Rt ⟨prog, w, A, envOf qual scope L' f cdv, g, s, K, true⟩ N Γ N body P) : Fn prog w K p f (n + 1) vs P := by
  intro loose mean mg mb dp un gd cn cs a ccd cl outer A₀ base h₀ L m news s Q E B F X N T hkk hd hu ret
  refine wpAny_call ?_
  refine W.code_def (env := envX cn cs L a ccd cl) (outer := outer) B F X N T rfl rfl hkk ho hcd (by show dp < recursionLimit; omega) (hbind s) hloc ?_ hco hgen hk hcell
  intro g L' h₁ FG F' N' B' X' T'
  have T'' := topRead_of T'
  have R : Rm ⟨prog, w, (ktrTop dp un gd cn cs L a ccd cl outer).deeper (envOf qual scope L' f cdv), envOf qual scope L' f cdv, g, s, K, true⟩ p n :=
    ⟨rfl, ⟨loose, mean, mg, mb, dp + 1, un + 3, gd, qual, scope, f, cdv, [], envX cn cs L a ccd cl :: outer, _, base, rfl, B', X', T', hk, by omega, by omega⟩, X',
      fun x v e hx hdd pp s' m' Q' E' F₁ hq => nameX_K F₁ X' T'' e hq hk hx hdd, fun x v e hv hne hx hdd pp s' m' Q' E' F₁ hq => nameX_B F₁ X' T'' e hv hne hq hk hx hdd⟩
  refine wpAny_mono (hr _ _ _ _ R news { s with heap := h₁, toks := s.toks + binds.length } ⟨h₁, _, s.gens, _, rfl, (fun q => by cases q), fun _ => rfl, F', N', hΓ⟩) ?_ (fun _ _ e => e.elim)
  rintro fl s' ⟨v, own, rfl, hP, hl, h', tk', gs, m', rfl, _, hg, F₂, N₂, _⟩
  obtain rfl := hg rfl
  exact leaveK_ F₂ N₂ fun F₃ N₃ => ret v own h' tk' hP F₃ N₃ hl
theorem Rm.gint {p : Program} {n : Nat} (R : Rm c p n) {x : Str} {i : Int} {t : Tok} {pp : Pos} (h : nsIn c.K mainGlobals x = some (some (.int i t))) (hk : c.env.kindOf x = some .globalImplicit) (hd : (x == ("__debug__" : Str)) = false) : Ev c Γ (.Name x pp) (IsI i) :=
  Ev.mono (Ev.gl (R.2.2.2.1 x _ h hk hd)) fun v e => ⟨t, e⟩
/-- any text -/
def IsX (x : Str) : Value → Prop := fun v => ∃ t, v = .str x t
theorem IsL.X {n : Nat} {l : List Nat} : ∀ v, IsL n l v → IsX (S l) v := fun v h => h.1
theorem op_eq_X {x y : Str} {r : Bool} (hr : (x == y) = r) : ∀ v v', IsX x v → IsX y v' → ∀ s Q E, Q (.bool r) s → wpAny (model c.prog c.w) c.A (compareOp .Eq v v') Q E s := by
  rintro v v' ⟨t, rfl⟩ ⟨t', rfl⟩ s Q E h
  subst hr
  exact PyProof.Rows.eq_str h
/-- a method of a text, without arguments -/
theorem Ev.lower {a : Expr} {p p2 : Pos} {x : Str} {pl : Sem Bool} (ha : Ev c Γ a (IsX x)) (hl : x.length ≤ 1000)
    (he : eval (.Call (.Attribute a "lower" p) [] [] p2) c.env = (do
      let ov ← eval a c.env
      standAt p.atName
      let (f, first) ← holding [ov] (getMethod ov "lower" pl)
      callWith p2 f first (backTo p2 (starEach [] c.env)) [])) : Ev c Γ (.Call (.Attribute a "lower" p) [] [] p2) (IsX (Txt.lower x)) := by
  intro N s hs
  refine MethodCall_ (pl := pl) (wp_then (ha N s hs) ?_) he
  rintro v s₁ ⟨⟨t, rfl⟩, h₁⟩
  refine GM.lower (callWith_method0 ?_)
  exact SCL.lower (by have := sizeLine_eq; omega) fun _ => ⟨⟨_, rfl⟩, h₁.toks _⟩
end Mine

end
section
open PySem PySem.W PySem.Calls PyProof.Rows
set_option linter.unusedVariables false
set_option maxRecDepth 100000
namespace Mine
variable {c : Cx} {Γ Γ₁ Γ' : Tys} {N N₀ N₁ N' : Led} {Q : Flow → Shared → Prop}
/-- a block, by what is wanted behind it -/
def Bl (c : Cx) (Γ : Tys) (N : Led) (l : List Stmt) (Q : Flow → Shared → Prop) : Prop := ∀ s, St c Γ N s → wpAny (model c.prog c.w) c.A (execs l c.env) Q noE s
def RetP (c : Cx) (N₀ : Led) (P : Value → Led → Prop) : Flow → Shared → Prop := fun f s' => ∃ v own, f = .ret v ∧ P v own ∧ (∀ p ∈ own, ∀ q ∈ N₀, q.1 < p.1) ∧ St c [] (own ++ N₀) s'
theorem Rt.of {l : List Stmt} {P : Value → Led → Prop} (h : Bl c Γ N l (RetP c N₀ P)) : Rt c N₀ Γ N l P := h
theorem Bl.cons {st : Stmt} {l : List Stmt} (h : Ex c Γ N st Γ₁ N₁) (hr : Bl c Γ₁ N₁ l Q) : Bl c Γ N (st :: l) Q := fun s hs =>
  wpAny_execs_cons (wp_then (h s hs) fun f s₁ h₁ => by rw [h₁.1]; exact hr s₁ h₁.2)
theorem Bl.nil (h : ∀ s, St c Γ N s → Q .next s) : Bl c Γ N [] Q := fun s hs => wpAny_execs_nil (h s hs)
theorem Bl.ret {e : Expr} {p : Pos} {l : List Stmt} {P : Value → Led → Prop} {R : Value → Prop} (he : Ev c Γ e R) (hP : ∀ v, R v → P v []) (hs : ∀ q ∈ N₀, q ∈ N) : Bl c Γ N (.Return (some e) p :: l) (RetP c N₀ P) := fun s h =>
  wpAny_execs_cons (wpAny_Return_some (wp_then (he N s h) fun v s₁ h₁ => ⟨v, [], rfl, hP v h₁.1, (fun _ q => nomatch q), (h₁.2.weak (Γ' := []) fun _ q => nomatch q).led hs⟩))
theorem Bl.if1 {t : Expr} {body orelse : List Stmt} {p : Pos} {l : List Stmt} {P : Value → Led → Prop} (ht : Tr c Γ t true) (h : Bl c Γ N body (RetP c N₀ P)) : Bl c Γ N (.If t body orelse p :: l) (RetP c N₀ P) := Rt.if1 ht h
theorem Bl.if1r {t : Expr} {body orelse : List Stmt} {p : Pos} {l : List Stmt} (ht : Tr c Γ t true) (h : Bl c Γ N body (fun f s => ∃ v, f = .ret v ∧ Q f s)) : Bl c Γ N (.If t body orelse p :: l) Q := fun s hs =>
  wpAny_execs_cons (wpAny_If (wp_then (ht N s hs) fun b s₁ h₁ => by
    rw [h₁.1]
    exact wp_then (h s₁ h₁.2) fun f s₂ ⟨v, hf, r⟩ => by subst hf; exact r))
theorem Bl.weak {l : List Stmt} (hs : ∀ q ∈ Γ₁, q ∈ Γ) (h : Bl c Γ₁ N l Q) : Bl c Γ N l Q := fun s h' => h s (h'.weak hs)
theorem Bl.led {l : List Stmt} (hs : ∀ q ∈ N₁, q ∈ N) (h : Bl c Γ N₁ l Q) : Bl c Γ N l Q := fun s h' => h s (h'.led hs)
/-- tests -/
def TrA (c : Cx) (Γ : Tys) (o : BoolOp) (es : List Expr) (p : Pos) (r : Bool) : Prop := ∀ whole N s, St c Γ N s → wpAny (model c.prog c.w) c.A (isTrue (.BoolOp o es p) c.env whole) (fun b' s' => b' = r ∧ St c Γ N s') noE s
theorem Tr.of {o : BoolOp} {es : List Expr} {p : Pos} {r : Bool} (h : TrA c Γ o es p r) : Tr c Γ (.BoolOp o es p) r := h _
theorem TrA.and_nil {p : Pos} : TrA c Γ .And [] p true := fun whole N s hs => isTrue_and_nil ⟨rfl, hs⟩
theorem TrA.or_nil {p : Pos} : TrA c Γ .Or [] p false := fun whole N s hs => isTrue_or_nil ⟨rfl, hs⟩
theorem TrA.and {e : Expr} {es : List Expr} {p : Pos} {r r' : Bool} (h : Tr c Γ e r) (hr : r = true → TrA c Γ .And es p r') : TrA c Γ .And (e :: es) p (r && r') := fun whole N s hs =>
  isTrue_and (wp_then (h N s hs) fun b s₁ h₁ => by
    rw [h₁.1]
    cases r with
    | true => exact wp_then (hr rfl whole N s₁ h₁.2) fun b' s₂ h₂ => ⟨by rw [Bool.true_and]; exact h₂.1, h₂.2⟩
    | false => exact ⟨rfl, h₁.2⟩)
theorem TrA.or {e : Expr} {es : List Expr} {p : Pos} {r r' : Bool} (h : Tr c Γ e r) (hr : r = false → TrA c Γ .Or es p r') : TrA c Γ .Or (e :: es) p (r || r') := fun whole N s hs =>
  isTrue_or (wp_then (h N s hs) fun b s₁ h₁ => by
    rw [h₁.1]
    cases r with
    | false => exact wp_then (hr rfl whole N s₁ h₁.2) fun b' s₂ h₂ => ⟨by rw [Bool.false_or]; exact h₂.1, h₂.2⟩
    | true => exact ⟨rfl, h₁.2⟩)
theorem Tr.not {e : Expr} {p : Pos} {r : Bool} (h : Tr c Γ e r) : Tr c Γ (.UnaryOp .Not e p) (!r) := fun N s hs => isTrue_not (wp_then (h N s hs) fun b s₁ h₁ => ⟨by rw [h₁.1], h₁.2⟩)
theorem Tr.text {e : Expr} {n : Nat} {l : List Nat} {r : Bool} (h : Ev c Γ e (IsL n l)) (hn : Nat.ble n 1000000 = true) (hr : (l.length != 0) = r) (he : isTrue e c.env (eval e c.env) = (do let v ← eval e c.env; standAt e.pos; holding [v] (truthy v))) : Tr c Γ e r := fun N s hs =>
  isTrue_plain (wp_then (h N s hs) fun v s₁ h₁ => by
    obtain ⟨⟨⟨t, rfl⟩, hl⟩, h₂⟩ := h₁
    have := Nat.le_of_ble_eq_true hn
    refine SBL.truthy (by rw [S_len]; omega) ⟨?_, h₂.toks _⟩
    subst hr
    rw [S_len, Bool.eq_iff_iff]
    simp) he
/-- ints -/
theorem Ev.addI {a b : Expr} {p : Pos} {i j : Int} (ha : Ev c Γ a (IsI i)) (hb : Ev c Γ b (IsI j)) : Ev c Γ (.BinOp a .Add b p) (IsI (i + j)) := by
  refine Ev.bin ha hb ?_
  rintro v v' ⟨t, rfl⟩ ⟨t', rfl⟩ N s hst
  exact add_int ⟨⟨_, rfl⟩, hst.toks _⟩
theorem Ev.addK {a b : Expr} {p : Pos} {n m i j : Nat} (ha : Ev c Γ a (IsK n i)) (hb : Ev c Γ b (IsK m j)) : Ev c Γ (.BinOp a .Add b p) (IsK (n + m) (i + j)) := by
  refine Ev.bin ha hb ?_
  rintro v v' ⟨⟨t, rfl⟩, hi⟩ ⟨⟨t', rfl⟩, hj⟩ N s hst
  exact add_int ⟨⟨⟨s.toks, by rw [Int.natCast_add]⟩, Nat.add_le_add hi hj⟩, hst.toks _⟩
theorem Ev.subK {a b : Expr} {p : Pos} {n m i j : Nat} (ha : Ev c Γ a (IsK n i)) (hb : Ev c Γ b (IsK m j)) (hij : j ≤ i) : Ev c Γ (.BinOp a .Sub b p) (IsK n (i - j)) := by
  refine Ev.bin ha hb ?_
  rintro v v' ⟨⟨t, rfl⟩, hi⟩ ⟨⟨t', rfl⟩, hj⟩ N s hst
  exact sub_int ⟨⟨⟨s.toks, by rw [Int.ofNat_sub hij]⟩, Nat.le_trans (Nat.sub_le i j) hi⟩, hst.toks _⟩
theorem Ev.mulK {a b : Expr} {p : Pos} {n m i j : Nat} (ha : Ev c Γ a (IsK n i)) (hb : Ev c Γ b (IsK m j)) (hs : (Nat.ble n 100000 && Nat.ble m 100000) = true) : Ev c Γ (.BinOp a .Mult b p) (IsK (n * m) (i * j)) := by
  refine Ev.bin ha hb ?_
  rintro v v' ⟨⟨t, rfl⟩, hi⟩ ⟨⟨t', rfl⟩, hj⟩ N s hst
  rw [Bool.and_eq_true] at hs
  have h1 := Nat.le_of_ble_eq_true hs.1
  have h2 := Nat.le_of_ble_eq_true hs.2
  exact mul_int ⟨⟨⟨s.toks, by rw [Int.natCast_mul]⟩, Nat.mul_le_mul hi hj⟩, hst.toks _⟩ (IntMulOk.of_left (intBits_le_64 (by omega) (by omega)))
theorem Ev.intK {i : Nat} {k : Nat} {p : Pos} : Ev c Γ (.Constant (.int (i : Int)) k p) (IsK i i) := fun N s hs => wpAny_Constant_int ⟨⟨⟨_, rfl⟩, Nat.le_refl i⟩, hs.toks _⟩
theorem Ev.toK {e : Expr} {i n : Nat} (h : Ev c Γ e (IsI i)) (hk : i ≤ n) : Ev c Γ e (IsK n i) := Ev.mono h fun v h => ⟨h, hk⟩
theorem Ev.I {e : Expr} {i n : Nat} (h : Ev c Γ e (IsK n i)) : Ev c Γ e (IsI (i : Int)) := Ev.mono h IsK.I
theorem Ev.eqI {e : Expr} {i j : Int} (h : Ev c Γ e (IsI i)) (hij : i = j) : Ev c Γ e (IsI j) := hij ▸ h
/-- x op= e -/
theorem Ex.aug {x : Str} {p p2 : Pos} {o : Operator} {e : Expr} {P P' R : Value → Prop} (hm : (x, P) ∈ Γ) (he : Ev c Γ e P') (hop : ∀ v v', P v → P' v' → ∀ N s, St c Γ N s → wpAny (model c.prog c.w) c.A (inplaceOp o v v') (fun v s' => R v ∧ St c Γ N s') noE s)
    (hsub : ∀ q ∈ Γ', q ∈ Γ) (hf : fresh x Γ' = true) (hkf : c.env.scope.kind = .function) (hx : c.env.kindOf x = some .local) (hp : (c.env.scope.kind == .class || (c.env.scope.kind == .module && c.env.locals != c.env.globals)) = false) : Ex c Γ N (.AugAssign (.Name x p) o e p2) ((x, R) :: Γ') N := by
  intro s hs
  refine wpAny_AugAssign_Name ?_
  have hs0 := hs
  obtain ⟨h', tk, gs, m, rfl, hb, g, F, Nn, H⟩ := hs
  obtain ⟨v, hv, hP⟩ := H _ hm
  refine wpAny_loadName_local hkf hx F.ns hv ?_
  exact wp_then (he N _ hs0) fun v' s₂ h₂ => wp_then (hop v v' hP h₂.1 N s₂ h₂.2) fun r s₃ h₃ => wp_then ((h₃.2.weak hsub).set h₃.1 hf hx hp) fun _ s₄ h₄ => ⟨rfl, h₄⟩
theorem iop_addI {i j : Int} : ∀ v v', IsI i v → IsI j v' → ∀ N s, St c Γ N s → wpAny (model c.prog c.w) c.A (inplaceOp .Add v v') (fun v s' => IsI (i + j) v ∧ St c Γ N s') noE s := by
  rintro v v' ⟨t, rfl⟩ ⟨t', rfl⟩ N s hst; exact iadd_int ⟨⟨_, rfl⟩, hst.toks _⟩
theorem iop_subI {i j : Int} : ∀ v v', IsI i v → IsI j v' → ∀ N s, St c Γ N s → wpAny (model c.prog c.w) c.A (inplaceOp .Sub v v') (fun v s' => IsI (i - j) v ∧ St c Γ N s') noE s := by
  rintro v v' ⟨t, rfl⟩ ⟨t', rfl⟩ N s hst; exact isub_int ⟨⟨_, rfl⟩, hst.toks _⟩
/-- x[k], x[-k] -/
theorem Ev.item {a e : Expr} {p : Pos} {n k : Nat} {l : List Nat} (ha : Ev c Γ a (IsL n l)) (he : Ev c Γ e (IsI (k : Int))) (hk : k < l.length) (hn : Nat.ble n 1000000 = true)
    (hs : ∀ {x t i u}, subscripted e false (.str x t) (.int i u) = operate [.str x t, .int i u] (getItem (.str x t) (.int i u))) (ht : ∀ {x t} r, letTemporaryGo a (.str x t) r = pure ()) : Ev c Γ (.Subscript a e p) (IsL 1 [l[k]]) := by
  intro N s hs'
  refine Subscript_ (wp_then (ha N s hs') ?_)
  rintro v s₁ ⟨⟨⟨t, rfl⟩, hl⟩, h₁⟩
  refine wp_then (he N s₁ h₁) ?_
  rintro v s₂ ⟨⟨t', rfl⟩, h₂⟩
  have := Nat.le_of_ble_eq_true hn
  exact item_str (fitsSsize_of (N := 10000000) (by omega) (by omega) (by decide)) (by rw [S_len]; omega) (by rw [S_len]; omega) (fun _ => ⟨⟨⟨_, by rw [item_at l k hk]⟩, Nat.le_refl _⟩, h₂.toks _⟩) hs ht
theorem Ev.itemN {a e : Expr} {p : Pos} {n k : Nat} {l : List Nat} (ha : Ev c Γ a (IsL n l)) (he : Ev c Γ e (IsI (-(k : Int)))) (h0 : 1 ≤ k) (hk : k ≤ l.length) (hn : Nat.ble n 1000000 = true)
    (hs : ∀ {x t i u}, subscripted e false (.str x t) (.int i u) = operate [.str x t, .int i u] (getItem (.str x t) (.int i u))) (ht : ∀ {x t} r, letTemporaryGo a (.str x t) r = pure ()) : Ev c Γ (.Subscript a e p) (IsL 1 [l[l.length - k]]) := by
  intro N s hs'
  refine Subscript_ (wp_then (ha N s hs') ?_)
  rintro v s₁ ⟨⟨⟨t, rfl⟩, hl⟩, h₁⟩
  refine wp_then (he N s₁ h₁) ?_
  rintro v s₂ ⟨⟨t', rfl⟩, h₂⟩
  have := Nat.le_of_ble_eq_true hn
  exact item_str (fitsSsize_of (N := 10000000) (by omega) (by omega) (by decide)) (by rw [S_len]; omega) (by rw [S_len]; omega) (fun _ => ⟨⟨⟨_, by rw [item_neg l k h0 hk]⟩, Nat.le_refl _⟩, h₂.toks _⟩) hs ht
/-- x[:e], e None or negative -/
theorem Ev.sliceN {a e : Expr} {p p2 : Pos} {n k : Nat} {l : List Nat} (ha : Ev c Γ a (IsL n l)) (he : Ev c Γ e (fun v => (k = 0 ∧ v = .none) ∨ (1 ≤ k ∧ IsI (-(k : Int)) v))) (hk : k ≤ l.length) (hn : Nat.ble n 1000000 = true)
    (hs : ∀ {x t r}, subscripted (.Slice none (some e) none p) false (.str x t) (.ref r) = operate [.ref r, .str x t] (getItem (.str x t) (.ref r)))
    (ht : ∀ {x t} r, letTemporaryGo a (.str x t) r = pure ()) : Ev c Γ (.Subscript a (.Slice none (some e) none p) p2) (IsL n (l.take (l.length - k))) := by
  intro N s hs'
  refine Subscript_ (wp_then (ha N s hs') ?_)
  rintro v s₁ ⟨⟨⟨t, rfl⟩, hl⟩, h₁⟩
  refine wpAny_Slice (evalPart_none_step (evalPart_some_step (wp_then (he N s₁ h₁) ?_)))
  rintro v s₂ ⟨hv, h₂⟩
  refine evalPart_none_step ?_
  obtain ⟨h', tk, gs, m', rfl, hb, g, F, Nn, H⟩ := h₂
  have hfit : (S l).length ≤ sizeLine := by have := Nat.le_of_ble_eq_true hn; rw [S_len, sizeLine_eq]; omega
  rcases hv with ⟨h0, rfl⟩ | ⟨h0, t', rfl⟩
  · subst h0
    refine slice_strN_nn (s := { c.s₁ with heap := h', toks := tk, gens := gs }) F Nn (fun h₃ t₃ k₃ F₃ N₃ => ?_) hs ht hfit
    exact ⟨⟨⟨t₃, by rw [slice_all, Nat.sub_zero, List.take_length]⟩, by rw [List.length_take]; omega⟩, h₃, k₃, gs, m', rfl, hb, g, F₃, N₃, H⟩
  · refine slice_strN_ns (s := { c.s₁ with heap := h', toks := tk, gens := gs }) F Nn (fun h₃ t₃ k₃ F₃ N₃ => ?_) hs ht hfit
    exact ⟨⟨⟨t₃, by rw [slice_cut l k h0 hk]⟩, by rw [List.length_take]; omega⟩, h₃, k₃, gs, m', rfl, hb, g, F₃, N₃, H⟩
/-- e or None -/
theorem Ev.orNone {e : Expr} {p p2 : Pos} {kk k : Nat} (he : Ev c Γ e (IsI (-(k : Int)))) : Ev c Γ (.BoolOp .Or [e, .Constant .none kk p2] p) (fun v => (k = 0 ∧ v = .none) ∨ (1 ≤ k ∧ IsI (-(k : Int)) v)) := by
  intro N s hs
  refine BoolOp_or (wp_then (he N s hs) ?_)
  rintro v s₁ ⟨⟨t, rfl⟩, h₁⟩
  refine truthy_int ?_
  rcases Nat.eq_zero_or_pos k with h0 | h0
  · subst h0
    exact BoolOp_one (wpAny_Constant_none ⟨.inl ⟨rfl, rfl⟩, h₁⟩)
  · rw [show ((-(k : Int)) != 0) = true by rw [bne_iff_ne]; omega]
    exact ⟨.inr ⟨h0, t, rfl⟩, h₁⟩
end Mine

end
section
open PySem PySem.W PySem.Calls PyProof.Rows
set_option linter.unusedVariables false
set_option maxRecDepth 100000
namespace Mine
variable {c : Cx} {Γ Γ₁ Γ' : Tys} {N N₀ N₁ N' : Led} {Q : Flow → Shared → Prop}
theorem Bl.while {α : Type} {t : Expr} {body l : List Stmt} {p : Pos} (Γf : α → Tys) (ms : α → Nat) (bt : α → Bool) (nx : α → α) (Inv : α → Prop) {a₀ : α} (hkp : c.keep = true) (h0 : Inv a₀) (ht : ∀ a, Inv a → Tr c (Γf a) t (bt a))
    (hb : ∀ a, Inv a → bt a = true → Xs c (Γf a) N body (Γf (nx a)) N) (hn : ∀ a, Inv a → bt a = true → Inv (nx a) ∧ ms (nx a) < ms a) (hk : ∀ a, Inv a → bt a = false → Bl c (Γf a) N l Q) : Bl c (Γf a₀) N (.While t body [] p :: l) Q := by
  intro s hs
  obtain ⟨h', tk, gs, m, rfl, hbr, g, F, Nn, H⟩ := hs
  refine wpAny_execs_cons (While_out (h₀ := c.g) (n₀ := ms a₀) (s := { c.s₁ with heap := h', toks := tk, gens := gs }) (fun n m nx => nx = N ∧ ∃ a, ms a = n ∧ Inv a ∧ Has m (Γf a)) (fun m nx => nx = N ∧ ∃ a, Inv a ∧ bt a = false ∧ Has m (Γf a)) F Nn ⟨rfl, a₀, rfl, h0, H⟩ ?_ ?_ PassesOwn.never)
  · rintro n m₁ nx₁ h₁ tk₁ F₁ N₁ ⟨rfl, a, rfl, hI, H₁⟩
    refine wp_then (ht a hI _ _ ⟨h₁, tk₁, gs, m₁, rfl, hbr, g, F₁, N₁, H₁⟩) ?_
    rintro b s₂ ⟨rfl, h₂⟩
    cases hbt : bt a with
    | true =>
      rw [if_pos rfl]
      refine wp_then (hb a hI hbt _ h₂) ?_
      rintro f s₃ ⟨rfl, h'', tk'', gs'', m'', rfl, hb'', g'', F'', N'', H''⟩
      obtain rfl : gs'' = gs := (g'' hkp).trans (g hkp).symm
      exact ⟨rfl, h'', tk'', m'', _, _, rfl, F'', N'', (hn a hI hbt).2, rfl, nx a, rfl, (hn a hI hbt).1, H''⟩
    | false =>
      rw [if_neg (by simp)]
      obtain ⟨h'', tk'', gs'', m'', rfl, hb'', g'', F'', N'', H''⟩ := h₂
      obtain rfl : gs'' = gs := (g'' hkp).trans (g hkp).symm
      exact ⟨h'', tk'', m'', _, rfl, F'', N'', rfl, a, hI, hbt, H''⟩
  · rintro m₁ nx₁ h₁ tk₁ ⟨rfl, a, hI, hbt, H₁⟩ F₁ N₁
    exact hk a hI hbt _ ⟨h₁, tk₁, gs, m₁, rfl, hbr, g, F₁, N₁, H₁⟩
/-- what a turn is to leave -/
def TurnP (Q : Flow → Shared → Prop) (S : Shared → Prop) : Flow → Shared → Prop := fun f s' => match f with | .ret v => Q (.ret v) s' | .next => S s' | _ => False
theorem turnCases {S : Shared → Prop} {f : Flow} {s : Shared} (h : TurnP Q S f s) : (∃ v, f = .ret v ∧ Q (.ret v) s) ∨ (f = .next ∧ S s) := by
  cases f with
  | ret v => exact .inl ⟨v, rfl, h⟩
  | next => exact .inr ⟨rfl, h⟩
  | brk => exact h.elim
  | cont => exact h.elim
theorem Bl.forRange {α : Type} {x : Str} {p1 p2 p3 p4 : Pos} {e : Expr} {body l : List Stmt} {n m : Nat} (Γf : Nat → α → Tys) (Nf : Nat → α → Led) (Inv : Nat → α → Prop) {a₀ : α} (hkp : c.keep = true) (hh : c.A.handled = none)
    (hr : Gl c "range" (.type "range")) (he : Ev c (Γf 0 a₀) e (IsK m n)) (hm : Nat.ble m 1000000 = true) (h0 : Inv 0 a₀) (hadr : ∀ i a a', Inv i a → Inv (i + 1) a' → (Nf (i + 1) a').map (·.1) = (Nf i a).map (·.1)) (hf : ∀ i a, fresh x (Γf i a) = true)
    (hdis : ∀ i a, Inv i a → ∀ q ∈ Nf i a, ∀ r ∈ N, r.1 ≠ q.1) (turn : ∀ i a, i < n → Inv i a → ∀ N', (∀ q ∈ N, q ∈ N') → (∀ q ∈ Nf i a, ∀ r ∈ N', r.1 ≠ q.1) → Bl c ((x, IsI (i : Int)) :: Γf i a) (Nf i a ++ N') body (TurnP Q fun s' => ∃ a', Inv (i + 1) a' ∧ St c (Γf (i + 1) a') (Nf (i + 1) a' ++ N') s'))
    (done : ∀ a, Inv n a → Bl c (Γf n a) (Nf n a ++ N) l Q) (hx : c.env.kindOf x = some .local) (hp : (c.env.scope.kind == .class || (c.env.scope.kind == .module && c.env.locals != c.env.globals)) = false)
    (h1 : starEach [e] c.env = (false, eval e c.env) :: starEach [] c.env)
    (hce : eval (.Call (.Name "range" p2) [e] [] p3) c.env = (do callWith p3 (← eval (.Name "range" p2) c.env) [] (backTo p3 (starEach [e] c.env)) (backToKw p3 (keywordEach [] c.env))))
    (hs : ∀ v, foldedSetIterable (.Call (.Name "range" p2) [e] [] p3) c.env v = pure v) : Bl c (Γf 0 a₀) (Nf 0 a₀ ++ N) (.For (.Name x p1) (.Call (.Name "range" p2) [e] [] p3) body [] p4 :: l) Q := by
  intro s hs0
  obtain ⟨m0, F0⟩ := hs0.fr
  refine wpAny_execs_cons (For_invVF (h₀ := c.g) F0 hx hp ?_ hs PassesOwn.never)
  refine Call_ (hr p2 s m0 _ _ F0 ?_) hce
  refine PySem.Pv.callWith_type1 ?_ h1 rfl
  refine wp_then (EvA.cons he EvA.nil h1 p3 _ s hs0) ?_
  rintro vs s₁ ⟨hv, h₁⟩
  obtain ⟨v, rfl⟩ := lenP1 hv
  · skip
    obtain ⟨⟨⟨t, rfl⟩, hnm⟩, _⟩ := hv
    obtain ⟨h', tk, gs, m₁, rfl, hbr, g, F, Nn, H⟩ := h₁
    have := Nat.le_of_ble_eq_true hm
    refine range1_rows F Nn fun h₂ tk₂ t₂ u₂ v₂ hR F₂ N₂ _ => ?_
    refine iter_range (n := n) (fun i m nx => ∃ a, Inv i a ∧ nx = Nf i a ++ N ∧ Has m (Γf i a)) hh hR (small_one (by omega) (by omega) (by omega) (by omega)) (by rw [rangeSize_nat]; omega) F₂ N₂ ⟨a₀, h0, rfl, H⟩ ?_ ?_
    · rintro i t' m₃ nx h₃ tk₃ own I hi hI hown hno ⟨a, hIa, rfl, H₃⟩ F₃ N₃
      rw [Int.zero_add] at F₃
      have st : St c ((x, IsI (i : Int)) :: Γf i a) (Nf i a ++ (N ++ own)) { c.s₁ with heap := h₃, toks := tk₃, gens := gs } := ⟨h₃, tk₃, gs, _, rfl, hbr, g, F₃, by rw [← List.append_assoc]; exact N₃, fun q hq => by
        rcases List.mem_cons.mp hq with rfl | hq
        · exact ⟨_, by simp, t', rfl⟩
        · obtain ⟨u, hu, hPu⟩ := H₃ q hq
          exact ⟨u, by simp only [if_neg (fresh_ne (hf i a) q hq)]; exact hu, hPu⟩⟩
      refine wp_then (turn i a hi hIa (N ++ own) (fun q hq => List.mem_append_left _ hq) (fun q hq r hr => (List.mem_append.mp hr).elim (hdis i a hIa q hq r) fun hr => by rw [hown r hr]; exact (hno q (List.mem_append_left _ hq)).symm) _ st) ?_
      rintro f s₄ hT
      rcases turnCases hT with ⟨v, rfl, hT⟩ | ⟨rfl, a', hIa', h₄, tk₄, gs₄, m₄, e₄, hb₄, g₄, F₄, N₄, H₄⟩
      · exact hT
      · skip
        obtain rfl : gs₄ = gs := (g₄ hkp).trans (g hkp).symm
        refine ⟨h₄, tk₄, m₄, _, Nf (i + 1) a' ++ N, e₄, F₄, N₄, fun q hq => ?_, fun q hq => ?_, fun q hq => ?_, a', hIa', rfl, H₄⟩
        · rw [← List.append_assoc]; exact List.mem_append_left _ hq
        · exact List.mem_append_right _ (List.mem_append_right _ hq)
        · rcases List.mem_append.mp hq with hq | hq
          · have h5 : q.1 ∈ (Nf i a).map (·.1) := by rw [← hadr i a a' hIa hIa']; exact List.mem_map_of_mem hq
            obtain ⟨q', hq', e⟩ := List.mem_map.mp h5
            rw [← e]; exact hno q' (List.mem_append_left _ hq')
          · exact hno q (List.mem_append_right _ hq)
    · rintro m₃ nx h₃ tk₃ ⟨a, hIa, rfl, H₃⟩ F₃ N₃
      exact done a hIa _ ⟨h₃, tk₃, gs, m₃, rfl, hbr, g, F₃, N₃, H₃⟩
/-- a value that asks the ledger -/
def EvAt (c : Cx) (Γ : Tys) (N : Led) (e : Expr) (P : Value → Prop) : Prop := ∀ s, St c Γ N s → wpAny (model c.prog c.w) c.A (eval e c.env) (fun v s' => P v ∧ St c Γ N s') noE s
theorem Ev.at {e : Expr} {P : Value → Prop} (h : Ev c Γ e P) : EvAt c Γ N e P := fun s hs => h N s hs
theorem Ex.assignAt {x : Str} {p p2 : Pos} {e : Expr} {P : Value → Prop} (he : EvAt c Γ N e P) (hsub : ∀ q ∈ Γ', q ∈ Γ) (hf : fresh x Γ' = true) (hx : c.env.kindOf x = some .local) (hp : (c.env.scope.kind == .class || (c.env.scope.kind == .module && c.env.locals != c.env.globals)) = false)
    (hs : swapsWith e (some (.Name x p)) p2.line c.env = pure false) : Ex c Γ N (.Assign [.Name x p] e p2) ((x, P) :: Γ') N := fun s h =>
  wpAny_Assign_Name (wp_then (he s h) fun v s₁ h₁ => wp_then ((h₁.2.weak hsub).set h₁.1 hf hx hp) fun _ s₂ h₂ => ⟨rfl, h₂⟩) hs
theorem Bl.assignN {x : Str} {p p2 : Pos} {e : Expr} {l : List Stmt} {P : Value → Led → Prop} (he : EvN c Γ e P) (hk : ∀ v own, P v own → (∀ p ∈ own, ∀ q ∈ N, q.1 < p.1) → Bl c ((x, IsV v) :: Γ') (own ++ N) l Q) (hsub : ∀ q ∈ Γ', q ∈ Γ) (hf : fresh x Γ' = true) (hx : c.env.kindOf x = some .local) (hp : (c.env.scope.kind == .class || (c.env.scope.kind == .module && c.env.locals != c.env.globals)) = false)
    (hs : swapsWith e (some (.Name x p)) p2.line c.env = pure false) : Bl c Γ N (.Assign [.Name x p] e p2 :: l) Q := fun s h =>
  wpAny_execs_cons (wpAny_Assign_Name (wp_then (he N s h) fun v s₁ ⟨own, hP, hl, h₁⟩ => wp_then ((h₁.weak hsub).set (P := IsV v) rfl hf hx hp) fun _ s₂ h₂ => hk v own hP hl s₂ h₂) hs)
/-- x = y = e -/
theorem Ex.assignTwo {x y : Str} {p p2 p3 : Pos} {e : Expr} {P : Value → Prop} (he : Ev c Γ e P) (hsub : ∀ q ∈ Γ', q ∈ Γ) (hf : fresh x Γ' = true) (hf2 : fresh y ((x, P) :: Γ') = true) (hx : c.env.kindOf x = some .local) (hy : c.env.kindOf y = some .local) (hp : (c.env.scope.kind == .class || (c.env.scope.kind == .module && c.env.locals != c.env.globals)) = false)
    (ha : (assignEach [Expr.Name x p, Expr.Name y p2] c.env).map (·.2) = [PySem.assign (Expr.Name x p) c.env, PySem.assign (Expr.Name y p2) c.env]) (hw : swappedStores [.Name x p, .Name y p2] e c.env = pure none) : Ex c Γ N (.Assign [.Name x p, .Name y p2] e p3) ((y, P) :: (x, P) :: Γ') N := fun s h =>
  wpAny_Assign_two (wp_then (he N s h) fun v s₁ h₁ => assign_Name (wp_then ((h₁.2.weak hsub).set h₁.1 hf hx hp) fun _ s₂ h₂ => assign_Name (wp_then (h₂.set h₁.1 hf2 hy hp) fun _ s₃ h₃ => ⟨rfl, h₃⟩))) ha hw
/-- a built-in of two arguments -/
theorem Ev.fun2 {x : Str} {T : String} {p p2 : Pos} {a b : Expr} {P P' R : Value → Prop} (hf : Gl c x (.builtin T)) (ha : Ev c Γ a P) (hb : Ev c Γ b P') (hc : ∀ v v', P v → P' v' → Cn c (.builtin T) [v, v'] R)
    (h1 : starEach [a, b] c.env = (false, eval a c.env) :: starEach [b] c.env) (h2 : starEach [b] c.env = (false, eval b c.env) :: starEach [] c.env)
    (he : eval (.Call (.Name x p) [a, b] [] p2) c.env = (do callWith p2 (← eval (.Name x p) c.env) [] (backTo p2 (starEach [a, b] c.env)) (backToKw p2 (keywordEach [] c.env)))) : Ev c Γ (.Call (.Name x p) [a, b] [] p2) R := by
  intro N s hs
  obtain ⟨m, F⟩ := hs.fr
  refine Call_ (hf p s m _ _ F ?_) he
  refine PyProof.Rows.callWith_builtin1 ?_ h1 (by rw [h2]; rfl)
  refine wp_then (EvA.cons ha (EvA.cons hb EvA.nil h2) h1 p2 N s hs) fun vs s₂ h₂ => ?_
  have hv := h₂.1
  obtain ⟨v, v', rfl⟩ := lenP2 hv
  exact hc v v' hv.1 hv.2.1 Γ N s₂ h₂.2
theorem cn_min {a b : Int} (hh : c.A.handled = none) : ∀ v v', IsI a v → IsI b v' → Cn c (.builtin "min") [v, v'] (IsI (min a b)) := by
  rintro v v' ⟨t, rfl⟩ ⟨t', rfl⟩ Γ N s hs
  obtain ⟨h', tk, gs, m, rfl, hb, g, F, Nn, H⟩ := hs
  refine min_two_N hh F Nn fun h₂ tk₂ F₂ N₂ => ⟨⟨if b < a then t' else t, ?_⟩, h₂, tk₂, gs, m, rfl, hb, g, F₂, N₂, H⟩
  rw [show (if b < a then b else a) = min a b by split <;> omega]
/-- a row of ints -/
theorem EvN.listRange {p1 p2 p3 p4 : Pos} {a b d : Expr} {n : Nat} (hl : Gl c "list" (.type "list")) (hr : Gl c "range" (.type "range")) (hh : c.A.handled = none) (ha : EvA c Γ [a, b, d] [IsI 2, IsI (2 * ((n : Int) + 1)), IsI 2]) (hn : n ≤ 1000)
    (h1 : starEach [.Call (.Name "range" p2) [a, b, d] [] p3] c.env = (false, eval (.Call (.Name "range" p2) [a, b, d] [] p3) c.env) :: starEach [] c.env)
    (h2 : starEach [a, b, d] c.env = (false, eval a c.env) :: starEach [b, d] c.env) (h3 : (backTo p3 (starEach [b, d] c.env)).any (·.1) = false)
    (he : eval (.Call (.Name "list" p1) [.Call (.Name "range" p2) [a, b, d] [] p3] [] p4) c.env = (do callWith p4 (← eval (.Name "list" p1) c.env) [] (backTo p4 (starEach [.Call (.Name "range" p2) [a, b, d] [] p3] c.env)) (backToKw p4 (keywordEach [] c.env))))
    (he2 : eval (.Call (.Name "range" p2) [a, b, d] [] p3) c.env = (do callWith p3 (← eval (.Name "range" p2) c.env) [] (backTo p3 (starEach [a, b, d] c.env)) (backToKw p3 (keywordEach [] c.env)))) :
    EvN c Γ (.Call (.Name "list" p1) [.Call (.Name "range" p2) [a, b, d] [] p3] [] p4) (fun v own => ∃ D o ls, v = .ref D ∧ own = [(D, o)] ∧ IsIv o ls ∧ ls.map (·.1) = row0 n) := by
  intro N s hs
  obtain ⟨m, F⟩ := hs.fr
  refine Call_ (hl p1 s m _ _ F ?_) he
  refine PySem.Pv.callWith_type1 ?_ h1 rfl
  rw [h1]
  refine Calls.spliced_cons (Call_ (hr p2 s m _ _ F ?_) he2)
  refine PySem.Pv.callWith_type1 ?_ h2 h3
  refine wp_then (ha p3 N s hs) ?_
  rintro vs s₁ ⟨hv, h₁⟩
  obtain ⟨v1, v2, v3, rfl⟩ := lenP3 hv
  obtain ⟨⟨t1, rfl⟩, ⟨t2, rfl⟩, ⟨t3, rfl⟩, _⟩ := hv
  · skip
    obtain ⟨h', tk, gs, m₁, rfl, hb, g, F₁, N₁, H₁⟩ := h₁
    refine range3_rows F₁ N₁ (by decide) (fun h₂ tk₂ t₂ u₂ v₂ hR F₂ N₂ _ => Calls.spliced_nil ?_) (Or.inl (PyProof.noPylong_small (by omega)))
    refine list_range2 (s := { c.s₁ with heap := h₂, toks := tk₂, gens := gs }) hh F₂ N₂ rfl hR hn fun D ls k h₃ tk₃ hls F₃ N₃ hD => ?_
    exact ⟨_, ⟨D, _, ls, rfl, rfl, ⟨rfl, k, rfl⟩, hls⟩, (fun p hp q hq => by rw [List.mem_singleton.mp hp]; exact hD q hq), h₃, tk₃, gs, m₁, rfl, hb, g, F₃, N₃, H₁⟩
theorem EvAt.row {x : Str} {px p : Pos} {e : Expr} {D : Addr} {o : Obj} {ls : List (Int × Tok)} {k : Nat} (hx : Ev c Γ (.Name x px) (IsV (.ref D))) (hm : (D, o) ∈ N) (hi : IsIv o ls) (he : Ev c Γ e (IsI (k : Int))) (hk : k < ls.length) (hl : ls.length ≤ 1000)
    (hs : ∀ {i u}, subscripted e false (.ref D) (.int i u) = operate [.ref D, .int i u] (getItem (.ref D) (.int i u))) (hg : ∀ r, letTemporaryGo (.Name x px) (.ref D) r = pure ()) : EvAt c Γ N (.Subscript (.Name x px) e p) (IsI ls[k].1) := by
  intro s h
  refine Subscript_ (wp_then (hx N s h) ?_)
  rintro v s₁ ⟨rfl, h₁⟩
  refine wp_then (he N s₁ h₁) ?_
  rintro v s₂ ⟨⟨t', rfl⟩, h₂⟩
  obtain ⟨h', tk, gs, m, rfl, hb, g, F, Nn, H⟩ := h₂
  exact get_row Nn hm hi hk hl ⟨⟨_, rfl⟩, h', tk, gs, m, rfl, hb, g, F, Nn, H⟩ hs hg
theorem Bl.rowSet {x : Str} {px p p2 : Pos} {e v : Expr} {l : List Stmt} {D : Addr} {o : Obj} {ls : List (Int × Tok)} {k : Nat} {z : Int} (hx : Ev c Γ (.Name x px) (IsV (.ref D))) (hap : ∀ p ∈ N, p.1 ≠ D) (hi : IsIv o ls) (he : Ev c Γ e (IsI (k : Int))) (hv : Ev c Γ v (IsI z)) (hk : k < ls.length) (hl : ls.length ≤ 1000)
    (hk2 : ∀ o' t, IsIv o' (ls.set k (z, t)) → Bl c Γ ((D, o') :: N) l Q) (hs : swapsWith v (some (.Subscript (.Name x px) e p)) p2.line c.env = pure false) : Bl c Γ ((D, o) :: N) (.Assign [.Subscript (.Name x px) e p] v p2 :: l) Q := by
  intro s h
  refine wpAny_execs_cons (wpAny_Assign_Subscript (wp_then (hv _ s h) ?_) hs)
  rintro u s₁ ⟨⟨t, rfl⟩, h₁⟩
  refine wp_then (hx _ s₁ h₁) ?_
  rintro u s₂ ⟨rfl, h₂⟩
  refine wp_then (he _ s₂ h₂) ?_
  rintro u s₃ ⟨⟨t', rfl⟩, h₃⟩
  obtain ⟨h', tk, gs, m, rfl, hb, g, F, Nn, H⟩ := h₃
  exact set_row F Nn hap hi hk hl fun h₂ o' hi' F₂ N₂ => hk2 o' t hi' _ ⟨h₂, tk, gs, m, rfl, hb, g, F₂, N₂, H⟩
theorem sub_refl : ∀ q ∈ Γ, q ∈ Γ := fun _ h => h
theorem sub_tail {q : Str × (Value → Prop)} (h : ∀ q ∈ Γ, q ∈ Γ') : ∀ r ∈ Γ, r ∈ q :: Γ' := fun r hr => .tail _ (h r hr)
theorem sub_nil : ∀ r ∈ ([] : Tys), r ∈ Γ := fun _ h => nomatch h
theorem sub_cons {q : Str × (Value → Prop)} (h : q ∈ Γ') (hr : ∀ r ∈ Γ, r ∈ Γ') : ∀ r ∈ q :: Γ, r ∈ Γ' := fun r h' => by
  rcases List.mem_cons.mp h' with rfl | h'
  · exact h
  · exact hr r h'
theorem iop_addK {n m i j : Nat} (h : i + j ≤ n) : ∀ v v', IsK n i v → IsK m j v' → ∀ N s, St c Γ N s → wpAny (model c.prog c.w) c.A (inplaceOp .Add v v') (fun v s' => IsK n (i + j) v ∧ St c Γ N s') noE s := by
  rintro v v' ⟨⟨t, rfl⟩, _⟩ ⟨⟨t', rfl⟩, _⟩ N s hst; exact iadd_int ⟨⟨⟨s.toks, by rw [Int.natCast_add]⟩, h⟩, hst.toks _⟩
theorem Ev.kst {i : Int} {k kk : Nat} {p : Pos} (h : i = (k : Int)) : Ev c Γ (.Constant (.int i) kk p) (IsK k k) := by subst h; exact Ev.intK
theorem Rm.gK {p : Program} {n : Nat} (R : Rm c p n) {x : Str} (k : Nat) {t : Tok} {pp : Pos} (h : nsIn c.K mainGlobals x = some (some (.int (k : Int) t))) (hk : c.env.kindOf x = some .globalImplicit) (hd : (x == ("__debug__" : Str)) = false) : Ev c Γ (.Name x pp) (IsK k k) :=
  Ev.mono (R.gint h hk hd) fun v e => ⟨e, Nat.le_refl k⟩
theorem Rm.bi {p : Program} {n : Nat} (R : Rm c p n) {x : Str} {v : Value} (hv : bootBuiltins x = some v) (h : nsIn c.K mainGlobals x = some none) (hn : x ≠ "__name__") (hk : c.env.kindOf x = some .globalImplicit) (hd : (x == ("__debug__" : Str)) = false) : Gl c x v := R.2.2.2.2 x v h hv hn hk hd
theorem letR {p : Program} {n : Nat} (R : Rm c p n) {N₀ : Led} {l : List Stmt} {P : Value → Led → Prop} (h : let c' := c; Rm c' p n → Rt c' N₀ Γ N l P) : Rt c N₀ Γ N l P := h R
theorem sub_led : ∀ q ∈ N, q ∈ N := fun _ h => h
theorem Ev.kstn {i : Int} {k kk : Nat} {p : Pos} (n : Nat) (h : i = (k : Int)) (hn : Nat.ble k n = true) : Ev c Γ (.Constant (.int i) kk p) (IsK n k) := Ev.mono (Ev.kst h) fun v e => ⟨e.1, Nat.le_of_ble_eq_true hn⟩
theorem Bl.exi {α : Type} {st : Stmt} {l : List Stmt} (Γf : α → Tys) (Inv : α → Prop) (h : ∃ a, Inv a ∧ Ex c Γ N st (Γf a) N') (hk : ∀ a, Inv a → Bl c (Γf a) N' l Q) : Bl c Γ N (st :: l) Q := let ⟨a, hI, h⟩ := h; Bl.cons h (hk a hI)
theorem Tr.eq {e : Expr} {r r' : Bool} (h : Tr c Γ e r) (he : r = r') : Tr c Γ e r' := he ▸ h
theorem Ex.if0' {t : Expr} {body : List Stmt} {p : Pos} {r : Bool} (ht : Tr c Γ t r) (hr : r = false) : Ex c Γ N (.If t body [] p) Γ N := Ex.if0 (hr ▸ ht) Xs.nil
theorem Bl.retQ {e : Expr} {p : Pos} {l : List Stmt} {R : Value → Prop} (he : Ev c Γ e R) (hQ : ∀ v s', R v → St c Γ N s' → Q (.ret v) s') : Bl c Γ N (.Return (some e) p :: l) (fun f s => ∃ v, f = .ret v ∧ Q f s) := fun s h =>
  wpAny_execs_cons (wpAny_Return_some (wp_then (he N s h) fun v s₁ h₁ => ⟨v, rfl, hQ v s₁ h₁.1 h₁.2⟩))
theorem retP {P : Value → Led → Prop} {v : Value} {s : Shared} (h : P v []) (hs : ∀ q ∈ N₀, q ∈ N) (st : St c Γ N s) : RetP c N₀ P (.ret v) s := ⟨v, [], rfl, h, (fun _ q => nomatch q), (st.weak (Γ' := []) fun _ q => nomatch q).led hs⟩
end Mine

end
local macro_rules | `(tactic| walk_at "ev_in") => `(tactic| first | (with_reducible exact List.mem_cons_self) | ((with_reducible refine List.mem_cons_of_mem _ ?_); walk_at "ev_in"))
local macro_rules | `(tactic| walk_at "ev") => `(tactic| first
  | ((with_reducible refine' Mine.Ev.name ?em ?ef ?ek ?ed); (case em => walk_at "ev_in"); (case ef => exact rfl); (case ek => exact rfl); (case ed => exact rfl))
  | ((with_reducible refine' Mine.Ev.add ?ea ?eb ?es); (case ea => walk_at "ev"); (case eb => walk_at "ev"); (case es => exact rfl))
  | ((with_reducible refine' Mine.Ev.lit ?ex ?el); (case ex => walk_at "ev_lit"); (case el => exact rfl))
  | ((with_reducible refine' Mine.Ev.fun1 (T := "len") ?ef ?ea ?ec ?eh ?ei); (case ef => assumption); (case ea => walk_at "ev"); (case ec => exact Mine.cn_len rfl); (case eh => exact rfl); (case ei => exact rfl))
  | (with_reducible exact Mine.Ev.int) | (with_reducible exact Mine.Ev.bool))
local macro_rules | `(tactic| walk_at "eva") => `(tactic| first
  | (with_reducible exact Mine.EvA.nil)
  | ((with_reducible refine' Mine.EvA.cons ?ea ?eb ?es); (case ea => walk_at "ev"); (case eb => walk_at "eva"); (case es => exact rfl)))
local macro_rules | `(tactic| walk_at "sub") => `(tactic| first
  | exact Mine.sub_nil
  | ((with_reducible refine' Mine.sub_cons ?ea ?eb); (case ea => walk_at "ev_in"); (case eb => walk_at "sub")))
section
open PySem PySem.W PySem.Calls PyProof.Rows
set_option linter.unusedVariables false
set_option maxRecDepth 100000
set_option maxHeartbeats 6000000
namespace Mine
local macro_rules | `(tactic| walk_at "ev_in") => `(tactic| first | (with_reducible exact List.mem_cons_self) | ((with_reducible refine List.mem_cons_of_mem _ ?_); walk_at "ev_in"))
local macro_rules | `(tactic| walk_at "ev") => `(tactic| first
  | ((with_reducible refine' Ev.name ?em ?ef ?ek ?ed); (case em => walk_at "ev_in"); (case ef => exact rfl); (case ek => exact rfl); (case ed => exact rfl))
  | ((with_reducible refine' Ev.add ?ea ?eb ?es); (case ea => walk_at "ev"); (case eb => walk_at "ev"); (case es => exact rfl))
  | ((with_reducible refine' Ev.lit ?ex ?el); (case ex => walk_at "ev_lit"); (case el => exact rfl))
  | (with_reducible exact Ev.int) | (with_reducible exact Ev.bool))
local macro_rules | `(tactic| walk_at "eva") => `(tactic| first
  | (with_reducible exact EvA.nil)
  | ((with_reducible refine' EvA.cons ?ea ?eb ?es); (case ea => walk_at "ev"); (case eb => walk_at "eva"); (case es => exact rfl)))
theorem subst_fn (w : World) (a b : Str) (t u : Tok) (ha : a.length ≤ 1000) (hb : b.length ≤ 1000) :
   Fn PySem.Challenge.rw_rw0063_02.row.prog w (Mine.hd.heap_39 w.params) Mine.hd.view_39 21 1 [.str a t, .str b u] (isI (substS a b)) := by
  k_fill
  refine' Fn.of_rt (n := 0) ?ho ?hcd ?hbd ?hlc [("ch_a", IsX a), ("ch_b", IsX b)] ?hΓ ?g1 ?g2 ?g3 ?g4 ?hr
  case ho => k_is
  case hcd => k_is
  case hbd => exact fun _ => BindsTo.of_eq rfl
  case hlc => exact locs rfl
  case g1 => exact rfl
  case g2 => exact rfl
  case g3 => exact rfl
  case g4 => decide
  case hΓ => simp only [Has, List.forall_mem_cons]; exact ⟨⟨_, rfl, t, rfl⟩, ⟨_, rfl, u, rfl⟩, fun _ h => nomatch h⟩
  case hr =>
  intro A L' g s R N
  unfold substS
  cases h1 : a == b with
  | true =>
    rw [if_pos rfl]
    refine' Rt.if1 (Tr.cmp ?e1 ?e2 (op_eq_X h1) rfl) (Rt.ret Ev.int fun _ h => h)
    case e1 => walk_at "ev"
    case e2 => walk_at "ev"
  | false =>
    rw [if_neg (by decide)]
    refine' Rt.cons (Ex.if0 (Tr.cmp ?e3 ?e4 (op_eq_X h1) rfl) Xs.nil) ?n1
    case e3 => walk_at "ev"
    case e4 => walk_at "ev"
    cases h2 : Txt.lower a == Txt.lower b with
    | true =>
      rw [if_pos rfl]
      refine' Rt.if1 (Tr.cmp (Ev.lower ?e5 ha rfl) (Ev.lower ?e6 hb rfl) (op_eq_X h2) rfl) (Rt.ret (R.gint rfl rfl rfl) fun _ h => h)
      case e5 => walk_at "ev"
      case e6 => walk_at "ev"
    | false =>
      rw [if_neg (by decide)]
      refine' Rt.cons (Ex.if0 (Tr.cmp (Ev.lower ?e7 ha rfl) (Ev.lower ?e8 hb rfl) (op_eq_X h2) rfl) Xs.nil) (Rt.ret (R.gint rfl rfl rfl) fun _ h => h)
      case e7 => walk_at "ev"
      case e8 => walk_at "ev"
end Mine

end
section
open PySem PySem.W PySem.Calls PyProof.Rows
set_option linter.unusedVariables false
set_option maxRecDepth 100000
set_option maxHeartbeats 6000000
namespace Mine
theorem drop_ne {l : List Nat} {i : Nat} (h : ((l.drop i).length != 0) = true) : i < l.length := by
  rw [bne_iff_ne, List.length_drop] at h; omega
theorem ne_drop {l : List Nat} {i : Nat} (h : i < l.length) : ((l.drop i).length != 0) = true := by
  rw [bne_iff_ne, List.length_drop]; omega
theorem take_ne {l : List Nat} {k : Nat} (h : ((l.take (l.length - k)).length != 0) = true) : k < l.length := by
  rw [bne_iff_ne, List.length_take] at h; omega
theorem ne_take {l : List Nat} {k : Nat} (h : k < l.length) : ((l.take (l.length - k)).length != 0) = true := by
  rw [bne_iff_ne, List.length_take]; omega
theorem dec_at {a b : List Nat} {i : Nat} (h1 : i < a.length) (h2 : i < b.length) : decide ([a[i]] = [b[i]]) = decide (a[i]? = b[i]?) := by
  rw [List.getElem?_eq_getElem h1, List.getElem?_eq_getElem h2]; simp
theorem dec_rev {a b : List Nat} {k : Nat} (h1 : k < a.length) (h2 : k < b.length) : decide ([a[a.length - (k + 1)]] = [b[b.length - (k + 1)]]) = decide (a.reverse[k]? = b.reverse[k]?) := by
  rw [List.getElem?_eq_getElem (by rw [List.length_reverse]; exact h1), List.getElem?_eq_getElem (by rw [List.length_reverse]; exact h2)]
  simp [Nat.sub_sub, Nat.add_comm]
theorem cn_subst {w : World} {A : Around} {env : Env} {g : Heap} {s₁ : Shared} {k : Bool} {n x y : Nat} (X : Fnc ⟨PySem.Challenge.rw_rw0063_02.row.prog, w, A, env, g, s₁, Mine.hd.heap_39 w.params, k⟩ Mine.hd.view_39 n) (hn : Nat.ble 1 n = true) :
    ∀ vs, AllP [IsL 1 [x], IsL 1 [y]] vs → Cn ⟨PySem.Challenge.rw_rw0063_02.row.prog, w, A, env, g, s₁, Mine.hd.heap_39 w.params, k⟩ (.ref 21) vs (IsI (substC x y)) := fun vs hv => by
    obtain ⟨v1, v2, rfl⟩ := lenP2 hv
    obtain ⟨⟨⟨t, rfl⟩, _⟩, ⟨⟨u, rfl⟩, _⟩, _⟩ := hv
    exact cn_fn (subst_fn w (S [x]) (S [y]) t u (by rw [S_len]; exact Nat.le_of_ble_eq_true rfl) (by rw [S_len]; exact Nat.le_of_ble_eq_true rfl)) X hn fun v own h => h.1
theorem lev_fn (w : World) (a b : List Nat) (mx : Int) (t u v : Tok) (ha : a.length ≤ 1000) (hb : b.length ≤ 1000) :
   Fn PySem.Challenge.rw_rw0063_02.row.prog w (Mine.hd.heap_39 w.params) Mine.hd.view_39 28 3 [.str (S a) t, .str (S b) u, .int mx v] (isI (levM a b mx)) := by
  k_fill
  refine' Fn.of_rt (n := 2) ?ho ?hcd ?hbd ?hlc [("a", IsL 1000 a), ("b", IsL 1000 b), ("max_cost", IsI mx)] ?hΓ ?g1 ?g2 ?g3 ?g4 ?hr
  case ho => k_is
  case hcd => k_is
  case hbd => exact fun _ => BindsTo.of_eq rfl
  case hlc => exact locs rfl
  case g1 => exact rfl
  case g2 => exact rfl
  case g3 => exact rfl
  case g4 => decide
  case hΓ => simp only [Has, List.forall_mem_cons]; exact ⟨⟨_, rfl, ⟨t, rfl⟩, ha⟩, ⟨_, rfl, ⟨u, rfl⟩, hb⟩, ⟨_, rfl, v, rfl⟩, fun _ h => nomatch h⟩
  case hr =>
  intro A L' g s R N
  refine letR R ?_
  intro c R
  have Glen : Gl c "len" (.builtin "len") := R.bi boot_len rfl (by decide) rfl rfl
  have Grange : Gl c "range" (.type "range") := R.bi boot_range rfl (by decide) rfl rfl
  have Glist : Gl c "list" (.type "list") := R.bi boot_list rfl (by decide) rfl rfl
  have Gmin : Gl c "min" (.builtin "min") := R.bi boot_min rfl (by decide) rfl rfl
  have Fsubst : Fc c "_substitution_cost" (.ref 21) := R.fc rfl rfl rfl rfl
  have hh : c.A.handled = none := R.1
  refine Rt.of ?_
  by_cases hab : a = b
  · refine' Bl.if1 (Tr.cmp ?e1 ?e2 (op_eq_str (decide_eq_true hab)) rfl) (Bl.ret Ev.int ?e3 sub_led)
    case e1 => walk_at "ev"
    case e2 => walk_at "ev"
    case e3 => rintro v ⟨t, rfl⟩; exact ⟨⟨t, by unfold levM; rw [if_pos hab]⟩, rfl⟩
  refine' Bl.cons (Ex.if0 (Tr.cmp ?e4 ?e5 (op_eq_str (decide_eq_false hab)) rfl) Xs.nil) ?n1
  case e4 => walk_at "ev"
  case e5 => walk_at "ev"
  have hM0 : levM a b mx = levT (trim a b).1 (trim a b).2 mx := by unfold levM; rw [if_neg hab]
  refine' Bl.cons (Ex.assign (Ev.kstn (k := 0) 1000 rfl rfl) sub_refl rfl rfl rfl rfl) ?n2
  refine' (Bl.while (a₀ := 0) (fun i => [("pre", IsK 1000 i), ("a", IsL 1000 a), ("b", IsL 1000 b), ("max_cost", IsI mx)]) (fun i => a.length - i)
    (fun i => ((a.drop i).length != 0) && (((b.drop i).length != 0) && (decide (a[i]? = b[i]?) && true))) (fun i => i + 1) (fun i => i ≤ a.length ∧ i ≤ b.length ∧ tp a b = tp (a.drop i) (b.drop i)) rfl ⟨Nat.zero_le _, Nat.zero_le _, rfl⟩ ?ht1 ?hb1 ?hn1 ?hk1)
  case ht1 =>
    rintro i ⟨h1, h2, _⟩
    refine' Tr.of (TrA.and (Tr.text (Ev.sliceFrom (n := 1000) ?f1 ?f2 h1 rfl rfl (fun _ => rfl)) rfl rfl rfl) fun h3 => TrA.and (Tr.text (Ev.sliceFrom (n := 1000) ?f3 ?f4 h2 rfl rfl (fun _ => rfl)) rfl rfl rfl) fun h4 => TrA.and ?f5 fun _ => TrA.and_nil)
    case f1 => walk_at "ev"
    case f2 => walk_at "ev"
    case f3 => walk_at "ev"
    case f4 => walk_at "ev"
    case f5 =>
      have l1 := drop_ne h3
      have l2 := drop_ne h4
      refine' Tr.cmp (Ev.item (n := 1000) ?f6 (Ev.I ?f7) l1 rfl rfl (fun _ => rfl)) (Ev.item (n := 1000) ?f8 (Ev.I ?f9) l2 rfl rfl (fun _ => rfl)) (op_eq_str (dec_at l1 l2)) rfl
      case f6 => walk_at "ev"
      case f7 => walk_at "ev"
      case f8 => walk_at "ev"
      case f9 => walk_at "ev"
  case hb1 =>
    rintro i ⟨h1, h2, _⟩ hbt
    rw [Bool.and_eq_true] at hbt
    have l1 := drop_ne hbt.1
    refine' Xs.cons (Ex.aug (R := IsK 1000 (i + 1)) ?f10 (Ev.kst (k := 1) rfl) (iop_addK (by omega)) (sub_tail sub_refl) rfl rfl rfl rfl) Xs.nil
    case f10 => walk_at "ev_in"
  case hn1 =>
    rintro i ⟨h1, h2, h3⟩ hbt
    rw [Bool.and_eq_true, Bool.and_eq_true, Bool.and_true] at hbt
    have l1 := drop_ne hbt.1
    have l2 := drop_ne hbt.2.1
    have l3 := of_decide_eq_true hbt.2.2
    rw [List.getElem?_eq_getElem l1, List.getElem?_eq_getElem l2, Option.some_inj] at l3
    exact ⟨⟨l1, l2, by rw [h3, tp_drop_same l1 l2 l3]⟩, by omega⟩
  case hk1 =>
    rintro i ⟨h1, h2, h3⟩ hbt
    have htp : tp a b = (a.drop i, b.drop i) := by
      rw [h3]
      by_cases l1 : i < a.length
      · by_cases l2 : i < b.length
        · refine tp_drop_other l1 l2 fun e => ?_
          rw [ne_drop l1, ne_drop l2, List.getElem?_eq_getElem l1, List.getElem?_eq_getElem l2, e, decide_eq_true rfl] at hbt
          cases hbt
        · exact tp_drop_right (by omega)
      · exact tp_drop_left (by omega)
    have hM1 : trim a b = ((tp (a.drop i).reverse (b.drop i).reverse).1.reverse, (tp (a.drop i).reverse (b.drop i).reverse).2.reverse) := by unfold trim; rw [htp]
    refine' Bl.cons (Ex.assign (Ev.sliceFrom (n := 1000) ?f11 ?f12 h1 rfl rfl (fun _ => rfl)) (Γ' := [("pre", IsK 1000 i), ("b", IsL 1000 b), ("max_cost", IsI mx)]) ?f13 rfl rfl rfl rfl) ?n3
    case f11 => walk_at "ev"
    case f12 => walk_at "ev"
    case f13 => walk_at "sub"
    refine' Bl.cons (Ex.assign (Ev.sliceFrom (n := 1000) ?f14 ?f15 h2 rfl rfl (fun _ => rfl)) (Γ' := [("a", IsL 1000 (a.drop i)), ("max_cost", IsI mx)]) ?f16 rfl rfl rfl rfl) ?n4
    case f14 => walk_at "ev"
    case f15 => walk_at "ev"
    case f16 => walk_at "sub"
    clear htp h3 hbt h1 h2
    generalize a.drop i = a1 at *
    generalize b.drop i = b1 at *
    refine' Bl.cons (Ex.assign Ev.int sub_refl rfl rfl rfl rfl) ?n5
    refine' Bl.while (a₀ := 0) (fun k => [("post", IsI (-(k : Nat) : Int)), ("b", IsL 1000 b1), ("a", IsL 1000 a1), ("max_cost", IsI mx)]) (fun k => a1.length - k)
      (fun k => ((a1.take (a1.length - k)).length != 0) && (((b1.take (b1.length - k)).length != 0) && (decide (a1.reverse[k]? = b1.reverse[k]?) && true))) (fun k => k + 1) (fun k => k ≤ a1.length ∧ k ≤ b1.length ∧ tp a1.reverse b1.reverse = tp (a1.reverse.drop k) (b1.reverse.drop k)) rfl ⟨Nat.zero_le _, Nat.zero_le _, rfl⟩ ?ht2 ?hb2 ?hn2 ?hk2
    case ht2 =>
      rintro k ⟨h1, h2, _⟩
      refine' Tr.of (TrA.and (Tr.text (Ev.sliceN (n := 1000) ?f20 (Ev.orNone ?f21) h1 rfl rfl (fun _ => rfl)) rfl rfl rfl) fun h3 => TrA.and (Tr.text (Ev.sliceN (n := 1000) ?f22 (Ev.orNone ?f23) h2 rfl rfl (fun _ => rfl)) rfl rfl rfl) fun h4 => TrA.and ?f24 fun _ => TrA.and_nil)
      case f20 => walk_at "ev"
      case f21 => walk_at "ev"
      case f22 => walk_at "ev"
      case f23 => walk_at "ev"
      case f24 =>
        have l1 := take_ne h3
        have l2 := take_ne h4
        refine' Tr.cmp (Ev.itemN (n := 1000) (k := k + 1) ?f25 (Ev.eqI (Ev.sub (i := -(k : Int)) (j := 1) ?f26 Ev.int) (by omega)) (by omega) (by omega) rfl rfl (fun _ => rfl)) (Ev.itemN (n := 1000) (k := k + 1) ?f27 (Ev.eqI (Ev.sub (i := -(k : Int)) (j := 1) ?f28 Ev.int) (by omega)) (by omega) (by omega) rfl rfl (fun _ => rfl)) (op_eq_str (dec_rev l1 l2)) rfl
        case f25 => walk_at "ev"
        case f26 => walk_at "ev"
        case f27 => walk_at "ev"
        case f28 => walk_at "ev"
    case hb2 =>
      rintro k ⟨h1, h2, _⟩ hbt
      refine' Xs.cons (Ex.aug (R := IsI (-((k + 1 : Nat) : Int))) ?f29 Ev.int ?f30 (sub_tail sub_refl) rfl rfl rfl rfl) Xs.nil
      case f29 => walk_at "ev_in"
      case f30 => exact (by omega : (-(k : Int) - 1) = -((k + 1 : Nat) : Int)) ▸ iop_subI
    case hn2 =>
      rintro k ⟨h1, h2, h3⟩ hbt
      rw [Bool.and_eq_true, Bool.and_eq_true, Bool.and_true] at hbt
      have l1 := take_ne hbt.1
      have l2 := take_ne hbt.2.1
      have l3 := of_decide_eq_true hbt.2.2
      rw [List.getElem?_eq_getElem (by rw [List.length_reverse]; exact l1), List.getElem?_eq_getElem (by rw [List.length_reverse]; exact l2), Option.some_inj] at l3
      exact ⟨⟨l1, l2, by rw [h3, tp_drop_same (by rw [List.length_reverse]; exact l1) (by rw [List.length_reverse]; exact l2) l3]⟩, by omega⟩
    case hk2 =>
      rintro k ⟨h1, h2, h3⟩ hbt
      have htp : tp a1.reverse b1.reverse = (a1.reverse.drop k, b1.reverse.drop k) := by
        rw [h3]
        by_cases l1 : k < a1.length
        · by_cases l2 : k < b1.length
          · have l1' : k < a1.reverse.length := by rw [List.length_reverse]; exact l1
            have l2' : k < b1.reverse.length := by rw [List.length_reverse]; exact l2
            refine tp_drop_other l1' l2' fun e => ?_
            rw [ne_take l1, ne_take l2, List.getElem?_eq_getElem l1', List.getElem?_eq_getElem l2', e, decide_eq_true rfl] at hbt
            cases hbt
          · exact tp_drop_right (by rw [List.length_reverse]; omega)
        · exact tp_drop_left (by rw [List.length_reverse]; omega)
      rw [htp] at hM1
      rw [hM1] at hM0
      dsimp only at hM0
      rw [rev_cut, rev_cut] at hM0
      refine' Bl.cons (Ex.assign (Ev.sliceN (n := 1000) ?f31 (Ev.orNone ?f32) h1 rfl rfl (fun _ => rfl)) (Γ' := [("post", IsI (-(k : Nat) : Int)), ("b", IsL 1000 b1), ("max_cost", IsI mx)]) ?f33 rfl rfl rfl rfl) ?n6
      case f31 => walk_at "ev"
      case f32 => walk_at "ev"
      case f33 => walk_at "sub"
      refine' Bl.cons (Ex.assign (Ev.sliceN (n := 1000) ?f34 (Ev.orNone ?f35) h2 rfl rfl (fun _ => rfl)) (Γ' := [("a", IsL 1000 (a1.take (a1.length - k))), ("max_cost", IsI mx)]) ?f36 rfl rfl rfl rfl) ?n7
      case f34 => walk_at "ev"
      case f35 => walk_at "ev"
      case f36 => walk_at "sub"
      clear htp h3 hbt h1 h2 hM1
      generalize a1.take (a1.length - k) = a2 at *
      generalize b1.take (b1.length - k) = b2 at *
      by_cases hz : a2.length = 0 ∨ b2.length = 0
      · refine' Bl.if1 (Tr.eq (Tr.of (TrA.or (Tr.not (Tr.text (n := 1000) ?g10 rfl rfl rfl)) fun _ => TrA.or (Tr.not (Tr.text (n := 1000) ?g11 rfl rfl rfl)) fun _ => TrA.or_nil)) ?g12) (Bl.ret (Ev.mulK (n := 2) (m := 1000 + 1000) (R.gK 2 rfl rfl rfl) (Ev.addK ?g13 ?g14) rfl) ?g15 sub_led)
        case g10 => walk_at "ev"
        case g11 => walk_at "ev"
        case g12 => rcases hz with hz | hz <;> simp [hz]
        case g13 => walk_at "ev"
        case g14 => walk_at "ev"
        case g15 =>
          rintro v ⟨⟨t, rfl⟩, _⟩
          exact ⟨⟨t, by rw [hM0, levT_a hz]; congr 1⟩, rfl⟩
      have hz1 : 1 ≤ a2.length ∧ 1 ≤ b2.length := by omega
      refine' Bl.cons (Ex.if0' (Tr.of (TrA.or (Tr.not (Tr.text (n := 1000) ?g16 rfl rfl rfl)) fun _ => TrA.or (Tr.not (Tr.text (n := 1000) ?g17 rfl rfl rfl)) fun _ => TrA.or_nil)) ?g18) ?n8
      case g16 => walk_at "ev"
      case g17 => walk_at "ev"
      case g18 =>
        have z1 : a2.length ≠ 0 := by omega
        have z2 : b2.length ≠ 0 := by omega
        rw [bne_iff_ne.mpr z1, bne_iff_ne.mpr z2]; rfl
      by_cases h40 : a2.length > 40 ∨ b2.length > 40
      · refine' Bl.if1 (Tr.eq (Tr.of (TrA.or (Tr.cmp (Ev.I ?g20) (R.gint rfl rfl rfl) (op_gt rfl) rfl) fun _ => TrA.or (Tr.cmp (Ev.I ?g21) (R.gint rfl rfl rfl) (op_gt rfl) rfl) fun _ => TrA.or_nil)) ?g22) (Bl.ret (Ev.addI ?g23 Ev.int) ?g24 sub_led)
        case g20 => walk_at "ev"
        case g21 => walk_at "ev"
        case g22 =>
          rcases h40 with hz | hz
          · rw [decide_eq_true (by omega), Bool.true_or]
          · rw [decide_eq_true (p := (b2.length : Int) > 40) (by omega), Bool.true_or, Bool.or_true]
        case g23 => walk_at "ev"
        case g24 =>
          rintro v ⟨t, rfl⟩
          exact ⟨⟨t, by rw [hM0, levT_b hz1 h40]⟩, rfl⟩
      have h41 : a2.length ≤ 40 ∧ b2.length ≤ 40 := by omega
      refine' Bl.cons (Ex.if0' (Tr.of (TrA.or (Tr.cmp (Ev.I ?g25) (R.gint rfl rfl rfl) (op_gt rfl) rfl) fun _ => TrA.or (Tr.cmp (Ev.I ?g26) (R.gint rfl rfl rfl) (op_gt rfl) rfl) fun _ => TrA.or_nil)) ?g27) ?n9
      case g25 => walk_at "ev"
      case g26 => walk_at "ev"
      case g27 => rw [decide_eq_false (by omega), decide_eq_false (p := (b2.length : Int) > 40) (by omega)]; rfl
      refine' Bl.exi (fun z : List Nat × List Nat => [("a", IsL 1000 z.1), ("b", IsL 1000 z.2), ("max_cost", IsI mx)]) (fun z => 1 ≤ z.1.length ∧ z.1.length ≤ 40 ∧ z.1.length ≤ z.2.length ∧ z.2.length ≤ 40 ∧ levM a b mx = if ((z.2.length : Int) - z.1.length) * 2 > mx then mx + 1 else levRows mx z.1 z.2 0 (row0 z.1.length) 0) ?g30 ?g31
      case g30 =>
        by_cases hsw : b2.length < a2.length
        · refine' ⟨(b2, a2), ⟨hz1.2, h41.2, Nat.le_of_lt hsw, h41.1, by rw [hM0, levT_c hz1 h41 hsw]⟩, Ex.if1 (Tr.cmp (Ev.I ?g32) (Ev.I ?g33) (op_lt ?g40) rfl) (Xs.cons (Ex.swap2 (EvA.cons ?g34 (EvA.cons ?g35 EvA.nil rfl) rfl) R.1 (Γ' := [("max_cost", IsI mx)]) ?g36 rfl rfl rfl rfl rfl rfl rfl) Xs.nil)⟩
          case g32 => walk_at "ev"
          case g33 => walk_at "ev"
          case g40 => exact decide_eq_true (by omega)
          case g34 => walk_at "ev"
          case g35 => walk_at "ev"
          case g36 => walk_at "sub"
        · refine' ⟨(a2, b2), ⟨hz1.1, h41.1, Nat.le_of_not_lt hsw, h41.2, by rw [hM0, levT_d hz1 h41 hsw]⟩, Ex.weak (Ex.if0' (Tr.cmp (Ev.I ?g37) (Ev.I ?g38) (op_lt rfl) rfl) ?g41) ?g39⟩
          case g37 => walk_at "ev"
          case g38 => walk_at "ev"
          case g41 => exact decide_eq_false (by omega)
          case g39 => walk_at "sub"
      case g31 =>
        clear hM0 hz1 h41 h40 hz
        rintro ⟨p, q⟩ ⟨hp1, hp40, hpq, hq40, hM⟩
        dsimp only at hp1 hp40 hpq hq40 hM ⊢
        have hcast : (((q.length - p.length) * 2 : Nat) : Int) = ((q.length : Int) - p.length) * 2 := by omega
        by_cases hgt : ((q.length : Int) - p.length) * 2 > mx
        · refine' Bl.if1 (Tr.cmp (Ev.eqI (Ev.I (Ev.mulK (n := 1000) (m := 2) (Ev.subK ?i1 ?i2 hpq) (R.gK 2 rfl rfl rfl) rfl)) hcast) ?i3 (op_gt (decide_eq_true hgt)) rfl) (Bl.ret (Ev.addI ?i4 Ev.int) ?i5 sub_led)
          case i1 => walk_at "ev"
          case i2 => walk_at "ev"
          case i3 => walk_at "ev"
          case i4 => walk_at "ev"
          case i5 =>
            rintro v ⟨t, rfl⟩
            exact ⟨⟨t, by rw [hM, if_pos hgt]⟩, rfl⟩
        refine' Bl.cons (Ex.if0' (Tr.cmp (Ev.eqI (Ev.I (Ev.mulK (n := 1000) (m := 2) (Ev.subK ?i6 ?i7 hpq) (R.gK 2 rfl rfl rfl) rfl)) hcast) ?i8 (op_gt rfl) rfl) (decide_eq_false hgt)) ?i9
        case i6 => walk_at "ev"
        case i7 => walk_at "ev"
        case i8 => walk_at "ev"
        rw [if_neg hgt] at hM
        refine' Bl.assignN (EvN.listRange (n := p.length) Glist Grange hh (EvA.cons (R.gint rfl rfl rfl) (EvA.cons (Ev.eqI (Ev.I (Ev.mulK (n := 2) (m := 1000 + 1) (R.gK 2 rfl rfl rfl) (Ev.addK ?i10 (Ev.kst (k := 1) rfl)) rfl)) ?i30) (EvA.cons (R.gint rfl rfl rfl) EvA.nil rfl) rfl) rfl) (by omega) rfl rfl rfl rfl rfl) ?i11 sub_refl rfl rfl rfl rfl
        case i10 => walk_at "ev"
        case i30 => omega
        rintro _ _ ⟨D, o, ls, rfl, rfl, hiv, hls⟩ hD
        have hle : ls.length = p.length := by have := congrArg List.length hls; simpa [row0] using this
        refine' Bl.cons (Ex.assign Ev.int sub_refl rfl rfl rfl rfl) ?i12
        refine' Bl.forRange (n := q.length) (m := 1000) (a₀ := ((o, ls, 0) : Obj × List (Int × Tok) × Int)) (fun j z => [("result", IsI z.2.2), ("row", IsV (.ref D)), ("a", IsL 1000 p), ("b", IsL 1000 q), ("max_cost", IsI mx)]) (fun j z => [(D, z.1)])
          (fun j z => IsIv z.1 z.2.1 ∧ z.2.1.length = p.length ∧ levM a b mx = levRows mx p (q.drop j) j (z.2.1.map (·.1)) z.2.2) rfl hh Grange ?i13 rfl ⟨hiv, hle, by rw [hM, hls]; rfl⟩ ?hadr ?hfr ?hdis ?turn ?done rfl rfl rfl rfl (fun _ => rfl)
        case i13 => walk_at "ev"
        case hadr => intro i z z' _ _; rfl
        case hfr => intro i z; rfl
        case hdis => exact fun i z _ q hq r hr => by rw [List.mem_singleton.mp hq]; exact Nat.ne_of_lt (hD _ (.head _) r hr)
        case done =>
          rintro ⟨o2, ls2, res⟩ ⟨_, _, hM2⟩
          rw [List.drop_length] at hM2
          refine' Bl.ret ?i14 ?i15 (fun q hq => .tail _ hq)
          case i14 => walk_at "ev"
          case i15 => rintro v ⟨t, rfl⟩; exact ⟨⟨t, by rw [hM2]; rfl⟩, rfl⟩
        case turn =>
          rintro j ⟨o2, ls2, res⟩ hj ⟨hiv2, hlen2, hM2⟩ N' hN' hapN
          rw [levRows_at hj] at hM2
          refine' Bl.cons (Ex.assign (Ev.item (n := 1000) ?i16 ?i17 hj rfl rfl (fun _ => rfl)) sub_refl rfl rfl rfl rfl) ?i18
          case i16 => walk_at "ev"
          case i17 => walk_at "ev"
          generalize q[j] = cc at *
          refine' Bl.cons (Ex.assignTwo (Ev.eqI (j := (j : Int) * 2) (Ev.I (Ev.mulK (n := 1000) (m := 2) (Ev.toK ?i19 ?i31) (R.gK 2 rfl rfl rfl) rfl)) ?i32) (Γ' := [("bchar", IsL 1 [cc]), ("row", IsV (.ref D)), ("a", IsL 1000 p), ("b", IsL 1000 q), ("max_cost", IsI mx)]) ?i20 rfl rfl rfl rfl rfl rfl rfl) ?i21
          case i19 => walk_at "ev"
          case i31 => omega
          case i32 => omega
          case i20 => walk_at "sub"
          case' i21 => skip
          refine' Bl.cons (Ex.assign Ev.int sub_refl rfl rfl rfl rfl) ?i22
          refine' Bl.forRange (n := p.length) (m := 1000) (N := N') (a₀ := ((o2, ls2, (j : Int) * 2, (j : Int) * 2, 9223372036854775807) : Obj × List (Int × Tok) × Int × Int × Int)) (fun i z => [("minimum", IsI z.2.2.2.2), ("result", IsI z.2.2.2.1), ("distance", IsI z.2.2.1), ("bchar", IsL 1 [cc]), ("row", IsV (.ref D)), ("a", IsL 1000 p), ("b", IsL 1000 q), ("max_cost", IsI mx)]) (fun i z => [(D, z.1)])
            (fun i z => IsIv z.1 z.2.1 ∧ z.2.1.length = p.length ∧ rowRun cc p (ls2.map (·.1)) ((j : Int) * 2) ((j : Int) * 2) 9223372036854775807 = ((z.2.1.map (·.1)).take i ++ (rowRun cc (p.drop i) ((z.2.1.map (·.1)).drop i) z.2.2.1 z.2.2.2.1 z.2.2.2.2).1, (rowRun cc (p.drop i) ((z.2.1.map (·.1)).drop i) z.2.2.1 z.2.2.2.1 z.2.2.2.2).2)) rfl hh Grange ?i23 rfl ⟨hiv2, hlen2, rowRun_zero ..⟩ ?hadr2 ?hfr2 ?hdis2 ?turn2 ?done2 rfl rfl rfl rfl (fun _ => rfl)
          case i23 => walk_at "ev"
          case hadr2 => intro i z z' _ _; rfl
          case hfr2 => intro i z; rfl
          case hdis2 => exact fun i z _ q hq r hr => by rw [List.mem_singleton.mp hq]; exact hapN (D, o2) (.head _) r hr
          case done2 =>
            rintro ⟨o3, ls3, dist, res3, mn⟩ ⟨hiv3, hlen3, hR⟩
            rw [rowRun_end (by simpa using hlen3)] at hR
            rw [hR] at hM2
            dsimp only at hM2
            by_cases hmn : mn > mx
            · rw [if_pos hmn] at hM2
              refine' Bl.if1r (Tr.cmp ?j1 ?j2 (op_gt (decide_eq_true hmn)) rfl) (Bl.retQ (Ev.addI ?j3 Ev.int) ?j4)
              case j1 => walk_at "ev"
              case j2 => walk_at "ev"
              case j3 => walk_at "ev"
              case j4 =>
                rintro v s' ⟨t, rfl⟩ st
                exact retP ⟨⟨t, by rw [hM2]⟩, rfl⟩ (fun q hq => .tail _ (hN' q hq)) st
            · rw [if_neg hmn] at hM2
              refine' Bl.cons (Ex.if0' (Tr.cmp ?j5 ?j6 (op_gt rfl) rfl) (decide_eq_false hmn)) (Bl.nil fun s' st => ⟨(o3, ls3, res3), ⟨hiv3, hlen3, hM2⟩, st.weak ?j7⟩)
              case j5 => walk_at "ev"
              case j6 => walk_at "ev"
              case j7 => walk_at "sub"
          case turn2 =>
            rintro i ⟨o3, ls3, dist, res3, mn⟩ hi ⟨hiv3, hlen3, hR⟩ N'' hN'' hapN2
            have hi3 : i < ls3.length := by rw [show ls3.length = p.length from hlen3]; exact hi
            have hl3 : ls3.length ≤ 1000 := by rw [show ls3.length = p.length from hlen3]; omega
            refine' Bl.cons (Ex.assign (Ev.addI ?k1 (Ev.call Fsubst (EvA.cons ?k2 (EvA.cons (Ev.item (n := 1000) ?k3 ?k4 hi rfl rfl (fun _ => rfl)) EvA.nil rfl) rfl) (cn_subst R.2.1 rfl) rfl rfl rfl)) sub_refl rfl rfl rfl rfl) ?k5
            case k1 => walk_at "ev"
            case k2 => walk_at "ev"
            case k3 => walk_at "ev"
            case k4 => walk_at "ev"
            refine' Bl.cons (Ex.assignAt (EvAt.row ?k6 (.head _) hiv3 ?k7 hi3 hl3 rfl (fun _ => rfl)) (Γ' := [("substitute", IsI (dist + substC cc p[i])), ("index", IsI (i : Int)), ("minimum", IsI mn), ("result", IsI res3), ("bchar", IsL 1 [cc]), ("row", IsV (.ref D)), ("a", IsL 1000 p), ("b", IsL 1000 q), ("max_cost", IsI mx)]) ?k8 rfl rfl rfl rfl) ?k9
            case k6 => walk_at "ev"
            case k7 => walk_at "ev"
            case k8 => walk_at "sub"
            case' k9 => skip
            refine' Bl.cons (Ex.assign (Ev.addI (Ev.fun2 Gmin ?k10 ?k11 (cn_min hh) rfl rfl rfl) (R.gint rfl rfl rfl)) sub_refl rfl rfl rfl rfl) ?k12
            case k10 => walk_at "ev"
            case k11 => walk_at "ev"
            case' k12 => skip
            refine' Bl.cons (Ex.assign (Ev.fun2 Gmin ?k13 ?k14 (cn_min hh) rfl rfl rfl) (Γ' := [("distance", IsI ls3[i].1), ("index", IsI (i : Int)), ("minimum", IsI mn), ("bchar", IsL 1 [cc]), ("row", IsV (.ref D)), ("a", IsL 1000 p), ("b", IsL 1000 q), ("max_cost", IsI mx)]) ?k15 rfl rfl rfl rfl) ?k16
            case k13 => walk_at "ev"
            case k14 => walk_at "ev"
            case k15 => walk_at "sub"
            case' k16 => skip
            have hap : ∀ z ∈ N'', z.1 ≠ D := hapN2 (D, o3) (.head _)
            refine' Bl.rowSet ?k17 hap hiv3 ?k18 ?k19 hi3 hl3 ?k20 rfl
            case k17 => walk_at "ev"
            case k18 => walk_at "ev"
            case k19 => walk_at "ev"
            intro o4 t4 hiv4
            have hr9 : min (min res3 ls3[i].1 + 2) (dist + substC cc p[i]) = min (min res3 (ls3.map (·.1))[i]! + 2) (dist + substC cc p[i]) := by
              rw [List.getElem!_eq_getElem?_getD, List.getElem?_map, List.getElem?_eq_getElem hi3]; rfl
            have hd9 : (ls3.map (·.1))[i]! = ls3[i].1 := by rw [List.getElem!_eq_getElem?_getD, List.getElem?_map, List.getElem?_eq_getElem hi3]; rfl
            have hlen4 : ∀ r, (ls3.set i r).length = p.length := fun r => by rw [List.length_set]; exact hlen3
            by_cases hmn : min (min res3 ls3[i].1 + 2) (dist + substC cc p[i]) < mn
            · refine' Bl.cons (Ex.if1 (Tr.cmp ?m1 ?m2 (op_lt (decide_eq_true hmn)) rfl) (Xs.cons (Ex.assign ?m3 (Γ' := [("result", IsI (min (min res3 ls3[i].1 + 2) (dist + substC cc p[i]))), ("distance", IsI ls3[i].1), ("bchar", IsL 1 [cc]), ("row", IsV (.ref D)), ("a", IsL 1000 p), ("b", IsL 1000 q), ("max_cost", IsI mx)]) ?m4 rfl rfl rfl rfl) Xs.nil)) (Bl.nil fun s' st => ⟨(o4, ls3.set i (_, t4), ls3[i].1, _, _), ⟨hiv4, hlen4 _, ?m5⟩, st.weak ?m6⟩)
              case m1 => walk_at "ev"
              case m2 => walk_at "ev"
              case m3 => walk_at "ev"
              case m4 => walk_at "sub"
              case m6 => walk_at "sub"
              case m5 =>
                rw [List.map_set]
                exact hR.trans (rowRun_step hi (by simpa using hlen3) hd9 hr9 (by rw [if_pos hmn]))
            · refine' Bl.cons (Ex.if0' (Tr.cmp ?m7 ?m8 (op_lt rfl) rfl) (decide_eq_false hmn)) (Bl.nil fun s' st => ⟨(o4, ls3.set i (_, t4), ls3[i].1, _, _), ⟨hiv4, hlen4 _, ?m9⟩, st.weak ?m10⟩)
              case m7 => walk_at "ev"
              case m8 => walk_at "ev"
              case m10 => walk_at "sub"
              case m9 =>
                rw [List.map_set]
                exact hR.trans (rowRun_step hi (by simpa using hlen3) hd9 hr9 (by rw [if_neg hmn]))
end Mine

end
section
open PySem PySem.W PySem.Calls PyProof.Rows
set_option linter.unusedVariables false
set_option maxRecDepth 100000
namespace Mine
variable {c : Cx} {Γ Γ₁ Γ' : Tys} {N N₀ N₁ N' : Led} {Q : Flow → Shared → Prop}
/-- a list of texts -/
def lsT (ls : List (Str × Tok)) (n : Nat) : Obj := listOf (strValues ls).toArray n
theorem op_notin {x y : Str} {r : Bool} (hr : (!Txt.contains x y) = r) : ∀ v v', IsX y v → IsX x v' → ∀ s Q E, Q (.bool r) s → wpAny (model c.prog c.w) c.A (compareOp .NotIn v v') Q E s := by
  rintro v v' ⟨t, rfl⟩ ⟨t', rfl⟩ s Q E h
  subst hr
  exact notIn_str h
theorem Rm.gstr {p : Program} {n : Nat} (R : Rm c p n) {x : Str} {y : Str} {t : Tok} {pp : Pos} (h : nsIn c.K mainGlobals x = some (some (.str y t))) (hk : c.env.kindOf x = some .globalImplicit) (hd : (x == ("__debug__" : Str)) = false) : Ev c Γ (.Name x pp) (IsX y) :=
  Ev.mono (Ev.gl (R.2.2.2.1 x _ h hk hd)) fun v e => ⟨t, e⟩
theorem Tr.textX {e : Expr} {x : Str} {r : Bool} (h : Ev c Γ e (IsX x)) (hn : x.length ≤ 1000000) (hr : (x.length != 0) = r) (he : isTrue e c.env (eval e c.env) = (do let v ← eval e c.env; standAt e.pos; holding [v] (truthy v))) : Tr c Γ e r := fun N s hs =>
  isTrue_plain (wp_then (h N s hs) fun v s₁ h₁ => by
    obtain ⟨⟨t, rfl⟩, h₂⟩ := h₁
    refine SBL.truthy (by omega) ⟨?_, h₂.toks _⟩
    subst hr
    rw [Bool.eq_iff_iff]
    simp) he
theorem cn_lenX {x : Str} (h : x.length ≤ 1000000) : ∀ v, IsX x v → Cn c (.builtin "len") [v] (IsI x.length) := by
  rintro v ⟨t, rfl⟩ Γ N s hs
  exact P.len_str (by omega) ⟨⟨_, rfl⟩, hs.toks _⟩
/-- a method of a text, one text given -/
theorem Ev.startswith {a b : Expr} {p p2 : Pos} {x y : Str} {pl : Sem Bool} (ha : Ev c Γ a (IsX x)) (hb : Ev c Γ b (IsX y)) (h1 : starEach [b] c.env = (false, eval b c.env) :: starEach [] c.env)
    (he : eval (.Call (.Attribute a "startswith" p) [b] [] p2) c.env = (do
      let ov ← eval a c.env
      standAt p.atName
      let (f, first) ← holding [ov] (getMethod ov "startswith" pl)
      callWith p2 f first (backTo p2 (starEach [b] c.env)) [])) : Ev c Γ (.Call (.Attribute a "startswith" p) [b] [] p2) (IsB (Txt.startswith x y)) := by
  intro N s hs
  refine MethodCall_ (pl := pl) (wp_then (ha N s hs) ?_) he
  rintro v s₁ ⟨⟨t, rfl⟩, h₁⟩
  refine GM.startswith (callWith_method1 (wp_then (EvA.cons hb EvA.nil h1 p2 N s₁ h₁) ?_) h1 rfl)
  rintro vs s₂ ⟨hv, h₂⟩
  obtain ⟨v1, rfl⟩ := lenP1 hv
  obtain ⟨⟨t', rfl⟩, _⟩ := hv
  exact SC.startswith ⟨rfl, h₂⟩
theorem Ev.endswithX {a b : Expr} {p p2 : Pos} {x y : Str} {pl : Sem Bool} (ha : Ev c Γ a (IsX x)) (hb : Ev c Γ b (IsX y)) (h1 : starEach [b] c.env = (false, eval b c.env) :: starEach [] c.env)
    (he : eval (.Call (.Attribute a "endswith" p) [b] [] p2) c.env = (do
      let ov ← eval a c.env
      standAt p.atName
      let (f, first) ← holding [ov] (getMethod ov "endswith" pl)
      callWith p2 f first (backTo p2 (starEach [b] c.env)) [])) : Ev c Γ (.Call (.Attribute a "endswith" p) [b] [] p2) (IsB (Txt.endswith x y)) := by
  intro N s hs
  refine MethodCall_ (pl := pl) (wp_then (ha N s hs) ?_) he
  rintro v s₁ ⟨⟨t, rfl⟩, h₁⟩
  refine GM.endswith (callWith_method1 (wp_then (EvA.cons hb EvA.nil h1 p2 N s₁ h₁) ?_) h1 rfl)
  rintro vs s₂ ⟨hv, h₂⟩
  obtain ⟨v1, rfl⟩ := lenP1 hv
  obtain ⟨⟨t', rfl⟩, _⟩ := hv
  exact SC.endswith ⟨rfl, h₂⟩
theorem Ev.find4 {a b d e : Expr} {p p2 : Pos} {x y : Str} {i j : Int} {pl : Sem Bool} (ha : Ev c Γ a (IsX x)) (hb : EvA c Γ [b, d, e] [IsX y, IsI i, IsI j]) (h1 : starEach [b, d, e] c.env = (false, eval b c.env) :: starEach [d, e] c.env) (h2 : (backTo p2 (starEach [d, e] c.env)).any (·.1) = false)
    (he : eval (.Call (.Attribute a "find" p) [b, d, e] [] p2) c.env = (do
      let ov ← eval a c.env
      standAt p.atName
      let (f, first) ← holding [ov] (getMethod ov "find" pl)
      callWith p2 f first (backTo p2 (starEach [b, d, e] c.env)) [])) : Ev c Γ (.Call (.Attribute a "find" p) [b, d, e] [] p2) (IsI (find4 x y i j)) := by
  intro N s hs
  refine MethodCall_ (pl := pl) (wp_then (ha N s hs) ?_) he
  rintro v s₁ ⟨⟨t, rfl⟩, h₁⟩
  refine GM.find (callWith_method1 (wp_then (hb p2 N s₁ h₁) ?_) h1 h2)
  rintro vs s₂ ⟨hv, h₂⟩
  obtain ⟨v1, v2, v3, rfl⟩ := lenP3 hv
  obtain ⟨⟨t1, rfl⟩, ⟨t2, rfl⟩, ⟨t3, rfl⟩, _⟩ := hv
  exact call_find4 ⟨⟨_, rfl⟩, h₂.toks _⟩
theorem EvN.split {a b : Expr} {p p2 : Pos} {x y : Str} {pl : Sem Bool} (ha : Ev c Γ a (IsX x)) (hb : Ev c Γ b (IsX y)) (hx : x.length ≤ 1000) (hy : (y.length == 0) = false) (h1 : starEach [b] c.env = (false, eval b c.env) :: starEach [] c.env)
    (he : eval (.Call (.Attribute a "split" p) [b] [] p2) c.env = (do
      let ov ← eval a c.env
      standAt p.atName
      let (f, first) ← holding [ov] (getMethod ov "split" pl)
      callWith p2 f first (backTo p2 (starEach [b] c.env)) [])) : EvN c Γ (.Call (.Attribute a "split" p) [b] [] p2) (fun v own => ∃ D ls, v = .ref D ∧ own = [(D, lsT ls 0)] ∧ ls.map (·.1) = Txt.split x y) := by
  intro N s hs
  refine MethodCall_ (pl := pl) (wp_then (ha N s hs) ?_) he
  rintro v s₁ ⟨⟨t, rfl⟩, h₁⟩
  refine GM.split (callWith_method1 (wp_then (EvA.cons hb EvA.nil h1 p2 N s₁ h₁) ?_) h1 rfl)
  rintro vs s₂ ⟨hv, h₂⟩
  obtain ⟨v1, rfl⟩ := lenP1 hv
  obtain ⟨⟨t', rfl⟩, _⟩ := hv
  · skip
    obtain ⟨h', tk, gs, m, rfl, hb, g, F, Nn, H⟩ := h₂
    exact KSpl.split1 F Nn hy (fun D ls h₂ k e a F₂ N₂ hD => ⟨_, ⟨D, ls, rfl, rfl, e⟩, (fun p hp q hq => by rw [List.mem_singleton.mp hp]; exact hD q hq), h₂, k, gs, m, rfl, hb, g, F₂, N₂, H⟩) (by have := sizeLine_eq; omega)
/-- tests that ask the ledger -/
def TrAt (c : Cx) (Γ : Tys) (N : Led) (e : Expr) (b : Bool) : Prop := ∀ s, St c Γ N s → wpAny (model c.prog c.w) c.A (isTrue e c.env (eval e c.env)) (fun b' s' => b' = b ∧ St c Γ N s') noE s
theorem TrAt.cmp {a b : Expr} {o : CmpOp} {p : Pos} {P P' : Value → Prop} {r : Bool} (ha : EvAt c Γ N a P) (hb : EvAt c Γ N b P')
    (hop : ∀ v v', P v → P' v' → ∀ s Q E, Q (.bool r) s → wpAny (model c.prog c.w) c.A (compareOp o v v') Q E s) (hm : behindInMarks o b = false) : TrAt c Γ N (.Compare a [o] [b] p) r := by
  intro s hs
  exact wpAny_isTrue_Compare1 (wp_then (ha s hs) fun v s₁ h₁ => wp_then (hb s₁ h₁.2) fun v' s₂ h₂ => hop v v' h₁.1 h₂.1 _ _ _ (wpAny_truthy_bool ⟨rfl, h₂.2⟩)) hm
theorem Ex.assertAt {t : Expr} {p : Pos} (hh : c.A.handled = none) (ht : TrAt c Γ N t true) : Ex c Γ N (.Assert t none p) Γ N := fun s hs =>
  wpAny_Assert_new hh (wp_then (ht s hs) fun b s₁ h₁ => by rw [h₁.1]; exact ⟨rfl, h₁.2⟩)
theorem op_ge {a b : Int} {r : Bool} (hr : decide (a ≥ b) = r) : ∀ v v', IsI a v → IsI b v' → ∀ s Q E, Q (.bool r) s → wpAny (model c.prog c.w) c.A (compareOp .GtE v v') Q E s := by
  rintro v v' ⟨t, rfl⟩ ⟨t', rfl⟩ s Q E h; subst hr; exact ge_int h
theorem EvAt.len {x y : Str} {p p2 p3 : Pos} {D : Addr} {ls : List (Str × Tok)} {n : Nat} (hf : Gl c x (.builtin "len")) (hy : Ev c Γ (.Name y p2) (IsV (.ref D))) (hm : (D, lsT ls n) ∈ N) (hl : ls.length ≤ 100000)
    (he : eval (.Call (.Name x p) [.Name y p2] [] p3) c.env = (do callWith p3 (← eval (.Name x p) c.env) [] (backTo p3 (starEach [.Name y p2] c.env)) (backToKw p3 (keywordEach [] c.env)))) : EvAt c Γ N (.Call (.Name x p) [.Name y p2] [] p3) (IsI ls.length) := by
  intro s hs
  obtain ⟨m0, F0⟩ := hs.fr
  refine Call_ (hf p s m0 _ _ F0 ?_) he
  refine PyProof.Rows.callWith_builtin1 ?_ rfl
  refine wp_then (EvA.cons hy EvA.nil rfl p3 N s hs) fun vs s₂ h₂ => ?_
  have hv := h₂.1
  obtain ⟨v1, rfl⟩ := lenP1 hv
  obtain ⟨⟨rfl, _⟩, h₂⟩ := h₂
  · skip
    have h₃ := h₂
    obtain ⟨h', tk, gs, m, rfl, hb, g, F, Nn, H⟩ := h₂
    have hsz : (strValues ls).toArray.size = ls.length := by simp [strValues]
    exact len_list (Nn.isList hm) (by rw [hsz]; omega) ⟨⟨_, by rw [hsz]⟩, h₃.toks _⟩
theorem EvAt.first {x : Str} {px p p2 : Pos} {k : Nat} {D : Addr} {z : Str} {tz : Tok} {ls : List (Str × Tok)} {n : Nat} (hx : Ev c Γ (.Name x px) (IsV (.ref D))) (hm : (D, lsT ((z, tz) :: ls) n) ∈ N)
    (hs : ∀ {u}, subscripted (.Constant (.int 0) k p2) false (.ref D) (.int 0 u) = operate [.ref D, .int 0 u] (getItem (.ref D) (.int 0 u))) (hg : ∀ r, letTemporaryGo (.Name x px) (.ref D) r = pure ()) : EvAt c Γ N (.Subscript (.Name x px) (.Constant (.int 0) k p2) p) (IsX z) := by
  intro s h
  refine Subscript_ (wp_then (hx N s h) ?_)
  rintro v s₁ ⟨rfl, h₁⟩
  refine wpAny_Constant_int ?_
  have h₂ := h₁.toks (s₁.toks + 1)
  obtain ⟨h', tk, gs, m, rfl, hb, g, F, Nn, H⟩ := h₁
  exact item_list (Nn.isList hm) (by decide) (by decide) rfl ⟨⟨_, rfl⟩, h₂⟩ hs hg
theorem EvAt.last {x : Str} {px p p2 p3 : Pos} {k : Nat} {D : Addr} {z : Str} {tz : Tok} {ls : List (Str × Tok)} {n : Nat} (hx : Ev c Γ (.Name x px) (IsV (.ref D))) (hm : (D, lsT (ls ++ [(z, tz)]) n) ∈ N) (hl : ls.length ≤ 100000)
    (hs : ∀ {u}, subscripted (.UnaryOp .USub (.Constant (.int 1) k p2) p3) false (.ref D) (.int (-1) u) = operate [.ref D, .int (-1) u] (getItem (.ref D) (.int (-1) u))) (hg : ∀ r, letTemporaryGo (.Name x px) (.ref D) r = pure ()) : EvAt c Γ N (.Subscript (.Name x px) (.UnaryOp .USub (.Constant (.int 1) k p2) p3) p) (IsX z) := by
  intro s h
  refine Subscript_ (wp_then (hx N s h) ?_)
  rintro v s₁ ⟨rfl, h₁⟩
  refine UnaryOp_ (wpAny_Constant_int (neg_int ?_))
  have h₂ := h₁.toks (s₁.toks + 1 + 1)
  obtain ⟨h', tk, gs, m, rfl, hb, g, F, Nn, H⟩ := h₁
  have hl' : Heap.IsList h' D (strValues ls ++ [Value.str z tz]).toArray := by
    have := Nn.isList hm
    rwa [show strValues (ls ++ [(z, tz)]) = strValues ls ++ [Value.str z tz] by simp [strValues]] at this
  refine subscriptTail_builtin (s := { c.s₁ with heap := h', toks := tk + 1 + 1, gens := gs }) hl'.typeIs slot_list_getitem.lookup (wpAny_getItem_list_neg hl' (by decide) (by simp [strValues]; omega) (by decide) (x := .str z tz) ?_ ⟨⟨_, rfl⟩, h₂⟩) hs hg
  have : ((-1 : Int) + ((strValues ls ++ [Value.str z tz]).toArray.size : Nat)).toNat = (strValues ls).length := by simp; omega
  rw [this]; simp
theorem Ex.del0 {x : Str} {px p p2 p3 : Pos} {k : Nat} {D : Addr} {q : Str × Tok} {ls : List (Str × Tok)} {n : Nat} (hx : Ev c Γ (.Name x px) (IsV (.ref D))) (hap : ∀ p ∈ N, p.1 ≠ D) (hl : ls.length ≤ 100000) : Ex c Γ ((D, lsT (q :: ls) n) :: N) (.Delete [.Subscript (.Name x px) (.Constant (.int 0) k p2) p] p3) Γ ((D, lsT ls (n + 1)) :: N) := by
  intro s h
  refine wpAny_Delete (wpAny_deleteEach_cons (delete_Subscript (wp_then (hx _ s h) ?_)))
  rintro v s₁ ⟨rfl, h₁⟩
  refine wpAny_Constant_int ?_
  obtain ⟨h', tk, gs, m, rfl, hb, g, F, Nn, H⟩ := h₁
  refine delItem_head (s := { c.s₁ with heap := h', toks := tk + 1, gens := gs }) F Nn hap (by decide) (k := 0) (by simp [seqIndex?, strValues]) (fun h₂ F₂ N₂ => wpAny_deleteEach_nil ⟨rfl, h₂, tk + 1, gs, m, rfl, hb, g, F₂, N₂, H⟩) (by simp [strValues]; have := sizeLine_eq; omega)
theorem Ex.delL {x : Str} {px p p2 p3 p4 : Pos} {k : Nat} {D : Addr} {q : Str × Tok} {ls : List (Str × Tok)} {n : Nat} (hx : Ev c Γ (.Name x px) (IsV (.ref D))) (hap : ∀ p ∈ N, p.1 ≠ D) (hl : ls.length ≤ 100000) : Ex c Γ ((D, lsT (ls ++ [q]) n) :: N) (.Delete [.Subscript (.Name x px) (.UnaryOp .USub (.Constant (.int 1) k p2) p4) p] p3) Γ ((D, lsT ls (n + 1)) :: N) := by
  intro s h
  refine wpAny_Delete (wpAny_deleteEach_cons (delete_Subscript (wp_then (hx _ s h) ?_)))
  rintro v s₁ ⟨rfl, h₁⟩
  refine UnaryOp_ (wpAny_Constant_int (neg_int ?_))
  obtain ⟨h', tk, gs, m, rfl, hb, g, F, Nn, H⟩ := h₁
  refine delItem_head (s := { c.s₁ with heap := h', toks := tk + 1 + 1, gens := gs }) F Nn hap (by decide) (k := ls.length) ?_ (fun h₂ F₂ N₂ => wpAny_deleteEach_nil ⟨rfl, h₂, tk + 1 + 1, gs, m, rfl, hb, g, F₂, ?_, H⟩) (by simp [strValues]; have := sizeLine_eq; omega)
  · simp [seqIndex?, strValues]; omega
  · have e : ((strValues (ls ++ [q])).toArray.toList.eraseIdx ls.length) = strValues ls := by simp [strValues, List.eraseIdx_append_of_length_le]
    rw [e] at N₂; exact N₂
theorem Bl.else1 {t : Expr} {body orelse : List Stmt} {p : Pos} {l : List Stmt} {P : Value → Led → Prop} (ht : Tr c Γ t false) (h : Bl c Γ N orelse (RetP c N₀ P)) : Bl c Γ N (.If t body orelse p :: l) (RetP c N₀ P) := fun s hs =>
  wpAny_execs_cons (wpAny_If (wp_then (ht N s hs) fun b s₁ h₁ => by
    rw [h₁.1]
    exact wp_then (h s₁ h₁.2) fun f s₂ ⟨v, own, hf, r⟩ => by subst hf; exact ⟨v, own, rfl, r⟩))
theorem Bl.exi2 {α : Type} {st : Stmt} {l : List Stmt} (Γf : α → Tys) (Nf : α → Led) (Inv : α → Prop) (h : ∃ a, Inv a ∧ Ex c Γ N st (Γf a) (Nf a)) (hk : ∀ a, Inv a → Bl c (Γf a) (Nf a) l Q) : Bl c Γ N (st :: l) Q := let ⟨a, hI, h⟩ := h; Bl.cons h (hk a hI)
/-- for x in y, a list of texts -/
theorem Bl.forTexts {α : Type} {x y : Str} {p1 p2 p4 : Pos} {body l : List Stmt} {D : Addr} {ls : List (Str × Tok)} {n : Nat} (Γf : Nat → α → Tys) (Inv : Nat → α → Prop) {a₀ : α} (hkp : c.keep = true) (hh : c.A.handled = none)
    (hy : Ev c (Γf 0 a₀) (.Name y p2) (IsV (.ref D))) (hm : (D, lsT ls n) ∈ N) (h0 : Inv 0 a₀) (hf : ∀ i a, fresh x (Γf i a) = true)
    (turn : ∀ i a z, (ls.map (·.1))[i]? = some z → Inv i a → ∀ N', (∀ q ∈ N, q ∈ N') → Bl c ((x, IsX z) :: Γf i a) N' body (TurnP Q fun s' => ∃ a', Inv (i + 1) a' ∧ St c (Γf (i + 1) a') N' s'))
    (done : ∀ a, Inv ls.length a → Bl c (Γf ls.length a) N l Q) (hx : c.env.kindOf x = some .local) (hp : (c.env.scope.kind == .class || (c.env.scope.kind == .module && c.env.locals != c.env.globals)) = false)
    (hs : ∀ v, foldedSetIterable (.Name y p2) c.env v = pure v) : Bl c (Γf 0 a₀) N (.For (.Name x p1) (.Name y p2) body [] p4 :: l) Q := by
  intro s hs0
  obtain ⟨m0, F0⟩ := hs0.fr
  refine wpAny_execs_cons (For_invVF (h₀ := c.g) F0 hx hp ?_ hs PassesOwn.never)
  refine wp_then (hy N s hs0) ?_
  rintro v s₁ ⟨rfl, h₁⟩
  obtain ⟨h', tk, gs, m₁, rfl, hbr, g, F, Nn, H⟩ := h₁
  have hD := Nn _ hm
  refine iter_list (s := { c.s₁ with heap := h', toks := tk, gens := gs }) (vs := strValues ls) (fun i m nx => ∃ a, Inv i a ∧ nx = N ∧ Has m (Γf i a)) hh (Nn.isList hm) (fun e => hD.2.1 e.symm) F Nn ⟨a₀, h0, rfl, H⟩ ?_ ?_
  · rintro i v m₃ nx h₃ tk₃ own I hv hI hown hno ⟨a, hIa, rfl, H₃⟩ F₃ N₃
    simp only [strValues, List.getElem?_map, Option.map_eq_some_iff] at hv
    obtain ⟨q, hq, rfl⟩ := hv
    have st : St c ((x, IsX q.1) :: Γf i a) (nx ++ own) { c.s₁ with heap := h₃, toks := tk₃, gens := gs } := ⟨h₃, tk₃, gs, _, rfl, hbr, g, F₃, N₃, fun r hr => by
      rcases List.mem_cons.mp hr with rfl | hr
      · exact ⟨_, by simp, q.2, rfl⟩
      · obtain ⟨u, hu, hPu⟩ := H₃ r hr
        exact ⟨u, by simp only [if_neg (fresh_ne (hf i a) r hr)]; exact hu, hPu⟩⟩
    refine wp_then (turn i a q.1 (by rw [List.getElem?_map, hq]; rfl) hIa (nx ++ own) (fun q hq => List.mem_append_left _ hq) _ st) ?_
    rintro f s₄ hT
    rcases turnCases hT with ⟨v, rfl, hT⟩ | ⟨rfl, a', hIa', h₄, tk₄, gs₄, m₄, e₄, hb₄, g₄, F₄, N₄, H₄⟩
    · exact hT
    · skip
      obtain rfl : gs₄ = gs := (g₄ hkp).trans (g hkp).symm
      exact ⟨h₄, tk₄, m₄, _, nx, e₄, F₄, N₄, fun q hq => List.mem_append_left _ hq, fun q hq => List.mem_append_right _ hq, hno, a', hIa', rfl, H₄⟩
  · rintro m₃ nx h₃ tk₃ ⟨a, hIa, rfl, H₃⟩ F₃ N₃
    rw [show (strValues ls).length = ls.length by simp [strValues]] at hIa H₃
    exact done a hIa _ ⟨h₃, tk₃, gs, m₃, rfl, hbr, g, F₃, N₃, H₃⟩
end Mine

end
section
open PySem PySem.W PySem.Calls PyProof.Rows
set_option linter.unusedVariables false
set_option maxRecDepth 100000
set_option maxHeartbeats 6000000
namespace Mine
theorem occ_two (x : Str) (hc : (Builtin.Str.occurrences x (Str.ofString "...") 0 x.length 1).isEmpty = false) : 2 ≤ (Txt.split x (Str.ofString "...")).length := by
  have hf := (StrLaws.found_iff x (Str.ofString "...")).mp (by rw [hc]; rfl)
  obtain ⟨i, h1, h2⟩ := hf
  obtain ⟨f, hch, hno⟩ := StrLaws.occ_tight x (Str.ofString "...") (by decide)
  have hne : (Builtin.Str.occurrences x (Str.ofString "...") 0 x.length (x.length + 1)).isEmpty = false := by
    cases ho : Builtin.Str.occurrences x (Str.ofString "...") 0 x.length (x.length + 1) with
    | cons a r => rfl
    | nil =>
      rw [ho] at hch
      have e : f = 0 := hch
      subst e
      exact absurd ⟨h1, h2⟩ (hno i (Nat.zero_le _))
  have hk : ¬ Builtin.Str.strKind x < Builtin.Str.strKind (Str.ofString "...") := by
    have e : Builtin.Str.strKind (Str.ofString "...") = 1 := by decide +kernel
    rw [e]
    unfold Builtin.Str.strKind
    split
    · omega
    · split <;> omega
  have hl : ¬ x.length < (Str.ofString "...").length := by omega
  unfold Txt.split
  rw [if_neg (by simp only [hk, hl, decide_false, Bool.or_self]; decide), if_neg (by rw [hne]; decide), length_partsBetween]
  cases ho : Builtin.Str.occurrences x (Str.ofString "...") 0 x.length (x.length + 1) with
  | nil => rw [ho] at hne; cases hne
  | cons a r => simp
theorem ellA {x y p0 : Str} {r : List Str} (hc : (Builtin.Str.occurrences x (Str.ofString "...") 0 x.length 1).isEmpty = false) (h : Txt.split x (Str.ofString "...") = p0 :: r) :
    ellM x y = if p0.length = 0 then ell2 y (p0 :: r) 0 else if Txt.startswith y p0 then ell2 y r p0.length else false := by
  simp only [ellM, Txt.contains, hc, h, Bool.not_false, if_true, List.headD_cons, List.tail_cons]
theorem ell2A (y : Str) (r : List Str) (pl : Str) (st : Int) : ell2 y (r ++ [pl]) st = if pl.length = 0 then ell3 y (r ++ [pl]) st y.length else if Txt.endswith y pl then ell3 y r st (y.length - pl.length) else false := by
  have h : (r ++ [pl]).getLastD Str.empty = pl := by rw [List.getLastD_eq_getLast?]; simp
  simp only [ell2, h, List.dropLast_concat]
theorem ellF_cons {y w : Str} {e st : Int} {ws : List Str} {i : Nat} (h : ws[i]? = some w) : ellFind y e (ws.drop i) st = if find4 y w st e < 0 then false else ellFind y e (ws.drop (i + 1)) (find4 y w st e + w.length) := by
  have : ws.drop i = w :: ws.drop (i + 1) := by
    obtain ⟨hi, e⟩ := List.getElem?_eq_some_iff.mp h
    rw [← e]; exact List.drop_eq_getElem_cons hi
  rw [this]; rfl

theorem ell_fn (w : World) (x y : Str) (t u : Tok) (hx : x.length ≤ 1000) (hy : y.length ≤ 1000) :
   Fn PySem.Challenge.rw_rw0063_02.row.prog w (Mine.hd.heap_39 w.params) Mine.hd.view_39 35 1 [.str x t, .str y u] (isB (ellM x y)) := by
  k_fill
  refine' Fn.of_rt (n := 0) ?ho ?hcd ?hbd ?hlc [("want", IsX x), ("got", IsX y)] ?hΓ ?g1 ?g2 ?g3 ?g4 ?hr
  case ho => k_is
  case hcd => k_is
  case hbd => exact fun _ => BindsTo.of_eq rfl
  case hlc => exact locs rfl
  case g1 => exact rfl
  case g2 => exact rfl
  case g3 => exact rfl
  case g4 => decide
  case hΓ => simp only [Has, List.forall_mem_cons]; exact ⟨⟨_, rfl, t, rfl⟩, ⟨_, rfl, u, rfl⟩, fun _ h => nomatch h⟩
  case hr =>
  intro A L' g s R N
  refine letR R ?_
  intro c R
  have Glen : Gl c "len" (.builtin "len") := R.bi boot_len rfl (by decide) rfl rfl
  have hh : c.A.handled = none := R.1
  refine Rt.of ?_
  cases hc : Txt.contains x (Str.ofString "...") with
  | false =>
    refine' Bl.if1 (Tr.cmp (R.gstr rfl rfl rfl) ?e1 (op_notin (by rw [hc]; rfl)) rfl) (Bl.ret (Ev.cmp ?e2 ?e3 (op_eq_X rfl) rfl) ?e4 sub_led)
    case e1 => walk_at "ev"
    case e2 => walk_at "ev"
    case e3 => walk_at "ev"
    case e4 => rintro v rfl; exact ⟨by unfold ellM; rw [hc]; rfl, rfl⟩
  | true =>
    refine' Bl.cons (Ex.if0' (Tr.cmp (R.gstr rfl rfl rfl) ?e5 (op_notin rfl) rfl) (by rw [hc]; rfl)) ?n1
    case e5 => walk_at "ev"
    have hc2 : (Builtin.Str.occurrences x (Str.ofString "...") 0 x.length 1).isEmpty = false := by
      unfold Txt.contains at hc; simpa using hc
    have h2 := occ_two x hc2
    have sz9 : ∀ z ∈ Txt.split x (Str.ofString "..."), z.length ≤ 1000 := fun z hz => Nat.le_trans (part_short hz) hx
    have hsl := split_le x (Str.ofString "...")
    refine' Bl.assignN (EvN.split ?e6 (R.gstr rfl rfl rfl) hx (by decide) rfl rfl) ?n2 sub_refl rfl rfl rfl rfl
    case e6 => walk_at "ev"
    rintro _ _ ⟨D, ls, rfl, rfl, hls⟩ hD
    have hap : ∀ p ∈ N, p.1 ≠ D := fun p hp => Nat.ne_of_lt (hD _ (.head _) p hp)
    have hlen : ls.length = (Txt.split x (Str.ofString "...")).length := by rw [← hls, List.length_map]
    rw [← hls] at h2 sz9
    rw [List.length_map] at h2
    have hl1 : ls.length ≤ 1002 := by omega
    refine' Bl.cons (Ex.assertAt hh (TrAt.cmp (EvAt.len Glen ?e7 (.head _) (by omega) rfl) (Ev.at Ev.int) (op_ge (decide_eq_true (by omega))) rfl)) ?n3
    case e7 => walk_at "ev"
    refine' Bl.cons (Ex.swap2 (EvA.cons Ev.int (EvA.cons (Ev.fun1 (T := "len") Glen ?e8 (cn_lenX (x := y) (by omega)) rfl rfl) EvA.nil rfl) rfl) hh sub_refl rfl rfl rfl rfl rfl rfl rfl) ?n4
    case e8 => walk_at "ev"
    obtain ⟨⟨p0, t0⟩, r, rfl⟩ : ∃ q r, ls = q :: r := by
      cases ls with
      | nil => simp at h2
      | cons q r => exact ⟨q, r, rfl⟩
    rw [List.map_cons] at hls
    have hp0 : p0.length ≤ 1000 := sz9 p0 (by simp)
    have hA := ellA (y := y) hc2 hls.symm
    refine' Bl.cons (Ex.assignAt (EvAt.first ?e9 (.head _) rfl (fun _ => rfl)) sub_refl rfl rfl rfl rfl) ?n5
    case e9 => walk_at "ev"
    have phase2 : True := trivial
    by_cases hret : p0.length ≠ 0 ∧ Txt.startswith y p0 = false
    · refine' Bl.if1 (Tr.textX ?e10 (by omega) (bne_iff_ne.mpr hret.1) rfl) (Bl.else1 (Tr.plain (Ev.eqB (Ev.startswith ?e11 ?e12 rfl rfl) hret.2) rfl) (Bl.ret Ev.bool ?e13 (fun q hq => .tail _ hq)))
      case e10 => walk_at "ev"
      case e11 => walk_at "ev"
      case e12 => walk_at "ev"
      case e13 => rintro v rfl; exact ⟨by rw [hA, if_neg hret.1, hret.2]; rfl, rfl⟩
    refine' Bl.exi2 (fun z : List (Str × Tok) × Nat × Int => [("ws", IsV (.ref D)), ("startpos", IsI z.2.2), ("endpos", IsI (y.length : Int)), ("got", IsX y)]) (fun z => (D, lsT z.1 z.2.1) :: N) (fun z => z.1 ≠ [] ∧ z.1.length ≤ 1002 ∧ (∀ q ∈ z.1.map (·.1), q.length ≤ 1000) ∧ ellM x y = ell2 y (z.1.map (·.1)) z.2.2) ?ph1 ?n6
    case ph1 =>
      by_cases hz : p0.length = 0
      · refine' ⟨((p0, t0) :: r, 0, 0), ⟨by simp, hl1, sz9, by rw [hA, if_pos hz]; rfl⟩, Ex.weak (Ex.if0' (Tr.textX (x := p0) ?e14 (by omega) rfl rfl) ?e15) ?e16⟩
        case e14 => walk_at "ev"
        case e15 => rw [hz]; rfl
        case e16 => walk_at "sub"
      · have hst : Txt.startswith y p0 = true := by
          cases h : Txt.startswith y p0 with
          | true => rfl
          | false => exact absurd ⟨hz, h⟩ hret
        refine' ⟨(r, 1, (p0.length : Int)), ⟨?e17, by simp at hl1 ⊢; omega, fun q hq => sz9 q (.tail _ hq), by rw [hA, if_neg hz, hst]; rfl⟩, Ex.if1 (Tr.textX ?e18 (by omega) (bne_iff_ne.mpr hz) rfl) (Xs.cons (Ex.if1 (Tr.plain (Ev.eqB (Ev.startswith ?e19 ?e20 rfl rfl) hst) rfl) (Xs.cons (Ex.assign (Ev.fun1 (T := "len") Glen ?e21 (cn_lenX (x := p0) (by omega)) rfl rfl) (Γ' := [("ws", IsV (.ref D)), ("endpos", IsI (y.length : Int)), ("got", IsX y)]) ?e22 rfl rfl rfl rfl) (Xs.cons (Ex.weak (Ex.del0 ?e23 hap (by simp at hl1; omega)) ?e24) Xs.nil))) Xs.nil)⟩
        case e17 => intro e; subst e; simp at h2
        case e18 => walk_at "ev"
        case e19 => walk_at "ev"
        case e20 => walk_at "ev"
        case e21 => walk_at "ev"
        case e22 => walk_at "sub"
        case e23 => walk_at "ev"
        case e24 => walk_at "sub"
    rintro ⟨ls1, n1, st⟩ ⟨hne, hl1, sz1, hM⟩
    dsimp only at hne hl1 sz1 hM ⊢
    clear hA hls h2 sz9 hsl hlen hret hp0
    obtain ⟨ls', ⟨pl, tl⟩, rfl⟩ : ∃ l q, ls1 = l ++ [q] := ⟨ls1.dropLast, ls1.getLast hne, (List.dropLast_concat_getLast hne).symm⟩
    simp only [List.map_append, List.map_cons, List.map_nil] at hM sz1
    have hB := ell2A y (ls'.map (·.1)) pl st
    have hpl : pl.length ≤ 1000 := sz1 pl (by simp)
    have hll : ls'.length ≤ 1001 := by simp at hl1; omega
    refine' Bl.cons (Ex.assignAt (EvAt.last ?f1 (.head _) (by omega) rfl (fun _ => rfl)) sub_refl rfl rfl rfl rfl) ?n7
    case f1 => walk_at "ev"
    by_cases hret : pl.length ≠ 0 ∧ Txt.endswith y pl = false
    · refine' Bl.if1 (Tr.textX ?f2 (by omega) (bne_iff_ne.mpr hret.1) rfl) (Bl.else1 (Tr.plain (Ev.eqB (Ev.endswithX ?f3 ?f4 rfl rfl) hret.2) rfl) (Bl.ret Ev.bool ?f5 (fun q hq => .tail _ hq)))
      case f2 => walk_at "ev"
      case f3 => walk_at "ev"
      case f4 => walk_at "ev"
      case f5 => rintro v rfl; exact ⟨by rw [hM]; exact congrArg Value.bool (by rw [hB, if_neg hret.1, hret.2]; rfl), rfl⟩
    refine' Bl.exi2 (fun z : List (Str × Tok) × Nat × Int => [("ws", IsV (.ref D)), ("startpos", IsI st), ("endpos", IsI z.2.2), ("got", IsX y)]) (fun z => (D, lsT z.1 z.2.1) :: N) (fun z => (∀ q ∈ z.1.map (·.1), q.length ≤ 1000) ∧ ellM x y = ell3 y (z.1.map (·.1)) st z.2.2) ?ph2 ?n8
    case ph2 =>
      by_cases hz : pl.length = 0
      · refine' ⟨(ls' ++ [(pl, tl)], n1, (y.length : Int)), ⟨by simp only [List.map_append, List.map_cons, List.map_nil]; exact sz1, by simp only [List.map_append, List.map_cons, List.map_nil]; rw [hM]; exact hB.trans (if_pos hz)⟩, Ex.weak (Ex.if0' (Tr.textX (x := pl) ?f6 (by omega) rfl rfl) ?f7) ?f8⟩
        case f6 => walk_at "ev"
        case f7 => rw [hz]; rfl
        case f8 => walk_at "sub"
      · have hst : Txt.endswith y pl = true := by
          cases h : Txt.endswith y pl with
          | true => rfl
          | false => exact absurd ⟨hz, h⟩ hret
        refine' ⟨(ls', n1 + 1, (y.length : Int) - pl.length), ⟨fun q hq => sz1 q (List.mem_append_left _ hq), by rw [hM]; exact hB.trans (by rw [if_neg hz, hst]; rfl)⟩, Ex.if1 (Tr.textX ?g1 (by omega) (bne_iff_ne.mpr hz) rfl) (Xs.cons (Ex.if1 (Tr.plain (Ev.eqB (Ev.endswithX ?g2 ?g3 rfl rfl) hst) rfl) (Xs.cons (Ex.aug (R := IsI ((y.length : Int) - pl.length)) ?g4 (Ev.fun1 (T := "len") Glen ?g5 (cn_lenX (x := pl) (by omega)) rfl rfl) iop_subI (Γ' := [("ws", IsV (.ref D)), ("startpos", IsI st), ("got", IsX y)]) ?g6 rfl rfl rfl rfl) (Xs.cons (Ex.weak (Ex.delL ?g7 hap (by omega)) ?g8) Xs.nil))) Xs.nil)⟩
        case g2 => walk_at "ev"
        case g3 => walk_at "ev"
        case g1 => walk_at "ev"
        case g4 => walk_at "ev_in"
        case g5 => walk_at "ev"
        case g6 => walk_at "sub"
        case g7 => walk_at "ev"
        case g8 => walk_at "sub"
    rintro ⟨ls2, n2, en⟩ ⟨sz2, hM2⟩
    dsimp only at sz2 hM2 ⊢
    clear hB hM hret
    by_cases hgt : st > en
    · refine' Bl.if1 (Tr.cmp ?h1 ?h2 (op_gt (decide_eq_true hgt)) rfl) (Bl.ret Ev.bool ?h3 (fun q hq => .tail _ hq))
      case h1 => walk_at "ev"
      case h2 => walk_at "ev"
      case h3 => rintro v rfl; exact ⟨by rw [hM2]; unfold ell3; rw [if_pos hgt], rfl⟩
    refine' Bl.cons (Ex.if0' (Tr.cmp ?h4 ?h5 (op_gt rfl) rfl) (decide_eq_false hgt)) ?n9
    case h4 => walk_at "ev"
    case h5 => walk_at "ev"
    unfold ell3 at hM2
    rw [if_neg hgt] at hM2
    refine' Bl.forTexts (D := D) (ls := ls2) (n := n2) (a₀ := st) (fun i st => [("ws", IsV (.ref D)), ("startpos", IsI st), ("endpos", IsI en), ("got", IsX y)]) (fun i st => ellM x y = ellFind y en ((ls2.map (·.1)).drop i) st) rfl hh ?h6 (.head _) hM2 ?h7 ?turn ?done rfl rfl (fun _ => rfl)
    case h6 => walk_at "ev"
    case h7 => intro i a; rfl
    case done =>
      intro a hI
      rw [List.drop_eq_nil_of_le (by rw [List.length_map]; exact Nat.le_refl _)] at hI
      refine' Bl.ret Ev.bool ?h8 (fun q hq => .tail _ hq)
      case h8 => rintro v rfl; exact ⟨by rw [hI]; rfl, rfl⟩
    case turn =>
      intro i a z hz hI N' hN'
      have hzl := sz2 z (List.mem_of_getElem? hz)
      rw [ellF_cons hz] at hI
      refine' Bl.cons (Ex.assign (Ev.find4 ?k1 (EvA.cons ?k2 (EvA.cons ?k3 (EvA.cons ?k4 EvA.nil rfl) rfl) rfl) rfl rfl rfl) (Γ' := [("w", IsX z), ("ws", IsV (.ref D)), ("endpos", IsI en), ("got", IsX y)]) ?k5 rfl rfl rfl rfl) ?k6
      case k1 => walk_at "ev"
      case k2 => walk_at "ev"
      case k3 => walk_at "ev"
      case k4 => walk_at "ev"
      case k5 => walk_at "sub"
      case' k6 => skip
      by_cases hneg : find4 y z a en < 0
      · rw [if_pos hneg] at hI
        refine' Bl.if1r (Tr.cmp ?k7 Ev.int (op_lt (decide_eq_true hneg)) rfl) (Bl.retQ Ev.bool ?k8)
        case k7 => walk_at "ev"
        case k8 => rintro v s' rfl st'; exact retP ⟨by rw [hI], rfl⟩ (fun q hq => hN' q (.tail _ hq)) st'
      · rw [if_neg hneg] at hI
        refine' Bl.cons (Ex.if0' (Tr.cmp ?k9 Ev.int (op_lt rfl) rfl) (decide_eq_false hneg)) (Bl.cons (Ex.aug (R := IsI (find4 y z a en + z.length)) ?m1 (Ev.fun1 (T := "len") Glen ?m2 (cn_lenX (x := z) (by omega)) rfl rfl) iop_addI (Γ' := [("ws", IsV (.ref D)), ("endpos", IsI en), ("got", IsX y)]) ?m3 rfl rfl rfl rfl) (Bl.nil fun s' st' => ⟨_, hI, st'.weak ?m4⟩))
        case k9 => walk_at "ev"
        case m1 => walk_at "ev_in"
        case m2 => walk_at "ev"
        case m3 => walk_at "sub"
        case m4 => walk_at "sub"
end Mine

end
section
open PySem PySem.W PySem.Calls PyProof.Rows
set_option linter.unusedVariables false
set_option maxRecDepth 100000
namespace Mine
variable {c : Cx} {Γ Γ₁ Γ' : Tys} {N N₀ N₁ N' : Led} {Q : Flow → Shared → Prop}
theorem Ev.pow {a b : Expr} {p : Pos} {i : Int} {k : Nat} (ha : Ev c Γ a (IsI i)) (hb : Ev c Γ b (IsI (k : Int))) (hi : i.natAbs < 2 ^ 64) (hk : k ≤ 1000000) : Ev c Γ (.BinOp a .Pow b p) (IsI (i ^ k)) := by
  refine Ev.bin ha hb ?_
  rintro v v' ⟨t, rfl⟩ ⟨t', rfl⟩ N s hst
  exact pow_int_small (by omega) (by omega) hi ⟨⟨_, by rw [Int.toNat_natCast]⟩, hst.toks _⟩
theorem Ev.modI {a b : Expr} {p : Pos} {i j : Int} (ha : Ev c Γ a (IsI i)) (hb : Ev c Γ b (IsI j)) (hj : j ≠ 0) : Ev c Γ (.BinOp a .Mod b p) (IsI (i.fmod j)) := by
  refine Ev.bin ha hb ?_
  rintro v v' ⟨t, rfl⟩ ⟨t', rfl⟩ N s hst
  exact mod_int' hj ⟨⟨_, rfl⟩, hst.toks _⟩
theorem iop_addL {n m : Nat} {l j : List Nat} (hs : Nat.ble (n + m) 1000000 = true) : ∀ v v', IsL n l v → IsL m j v' → ∀ N s, St c Γ N s → wpAny (model c.prog c.w) c.A (inplaceOp .Add v v') (fun v s' => IsL (n + m) (l ++ j) v ∧ St c Γ N s') noE s := by
  rintro v v' ⟨⟨t, rfl⟩, hl⟩ ⟨⟨t', rfl⟩, hj⟩ N s hst
  exact SB.iadd (fun t'' k => ⟨⟨⟨t'', by rw [S_cat]⟩, by rw [List.length_append]; omega⟩, hst.toks _⟩) (IsL.fits hl hj hs)
theorem IsL.le {n m : Nat} {l : List Nat} {v : Value} (h : IsL n l v) (hm : l.length ≤ m) : IsL m l v := ⟨h.1, hm⟩
theorem iop_mono {o : Operator} {P P' R R' : Value → Prop} (h : ∀ v v', P v → P' v' → ∀ N s, St c Γ N s → wpAny (model c.prog c.w) c.A (inplaceOp o v v') (fun v s' => R v ∧ St c Γ N s') noE s) (k : ∀ v, R v → R' v) :
    ∀ v v', P v → P' v' → ∀ N s, St c Γ N s → wpAny (model c.prog c.w) c.A (inplaceOp o v v') (fun v s' => R' v ∧ St c Γ N s') noE s := fun v v' hp hp' N s hs => wp_then (h v v' hp hp' N s hs) fun v s' hv => ⟨k v hv.1, hv.2⟩
/-- for x in e, a text; the ledger may change -/
theorem Bl.forStr {α : Type} {x : Str} {p1 p4 : Pos} {e : Expr} {body l : List Stmt} {ls : List Nat} {n : Nat} (Γf : Nat → α → Tys) (Nf : Nat → α → Led) (Inv : Nat → α → Prop) {a₀ : α} (hkp : c.keep = true) (hh : c.A.handled = none)
    (he : Ev c (Γf 0 a₀) e (IsL n ls)) (h0 : Inv 0 a₀) (hf : ∀ i a, fresh x (Γf i a) = true)
    (turn : ∀ i a z, ls[i]? = some z → Inv i a → ∀ N', (∀ q ∈ N, q ∈ N') → Bl c ((x, IsL 1 [z]) :: Γf i a) (Nf i a ++ N') body (TurnP Q fun s' => ∃ a', Inv (i + 1) a' ∧ (∀ q ∈ Nf (i + 1) a', q.1 ∈ (Nf i a).map (·.1) ∨ ∀ r ∈ N', r.1 < q.1) ∧ St c (Γf (i + 1) a') (Nf (i + 1) a' ++ N') s'))
    (done : ∀ a, Inv ls.length a → Bl c (Γf ls.length a) (Nf ls.length a ++ N) l Q) (hx : c.env.kindOf x = some .local) (hp : (c.env.scope.kind == .class || (c.env.scope.kind == .module && c.env.locals != c.env.globals)) = false)
    (hs : ∀ v, foldedSetIterable e c.env v = pure v) : Bl c (Γf 0 a₀) (Nf 0 a₀ ++ N) (.For (.Name x p1) e body [] p4 :: l) Q := by
  intro s hs0
  obtain ⟨m0, F0⟩ := hs0.fr
  refine wpAny_execs_cons (For_invVF (h₀ := c.g) F0 hx hp ?_ hs PassesOwn.never)
  refine wp_then (he _ s hs0) ?_
  rintro v s₁ ⟨⟨⟨t, rfl⟩, _⟩, h₁⟩
  obtain ⟨h', tk, gs, m₁, rfl, hbr, g, F, Nn, H⟩ := h₁
  refine iter_text (s := { c.s₁ with heap := h', toks := tk, gens := gs }) (fun i m nx => ∃ a, Inv i a ∧ nx = Nf i a ++ N ∧ Has m (Γf i a)) hh F Nn ⟨a₀, h0, rfl, H⟩ ?_ ?_
  · rintro i z u m₃ nx h₃ tk₃ own I hz hI hown hno ⟨a, hIa, rfl, H₃⟩ F₃ N₃
    replace hz : ls[i]? = some z := by simpa [S] using hz
    have st : St c ((x, IsL 1 [z]) :: Γf i a) (Nf i a ++ (N ++ own)) { c.s₁ with heap := h₃, toks := tk₃, gens := gs } := ⟨h₃, tk₃, gs, _, rfl, hbr, g, F₃, by rw [← List.append_assoc]; exact N₃, fun r hr => by
      rcases List.mem_cons.mp hr with rfl | hr
      · exact ⟨.str ⟨#[z]⟩ u, by simp, ⟨u, by rw [S_def]⟩, Nat.le_refl 1⟩
      · obtain ⟨u, hu, hPu⟩ := H₃ r hr
        exact ⟨u, by simp only [if_neg (fresh_ne (hf i a) r hr)]; exact hu, hPu⟩⟩
    refine wp_then (turn i a z hz hIa (N ++ own) (fun q hq => List.mem_append_left _ hq) _ st) ?_
    rintro f s₄ hT
    rcases turnCases hT with ⟨v, rfl, hT⟩ | ⟨rfl, a', hIa', hadr, h₄, tk₄, gs₄, m₄, e₄, hb₄, g₄, F₄, N₄, H₄⟩
    · exact hT
    · skip
      obtain rfl : gs₄ = gs := (g₄ hkp).trans (g hkp).symm
      refine ⟨h₄, tk₄, m₄, _, Nf (i + 1) a' ++ N, e₄, F₄, N₄, fun q hq => ?_, fun q hq => ?_, fun q hq => ?_, a', hIa', rfl, H₄⟩
      · rw [← List.append_assoc]; exact List.mem_append_left _ hq
      · exact List.mem_append_right _ (List.mem_append_right _ hq)
      · rcases List.mem_append.mp hq with hq | hq
        · rcases hadr q hq with h5 | h5
          · obtain ⟨q', hq', e⟩ := List.mem_map.mp h5
            rw [← e]; exact hno q' (List.mem_append_left _ hq')
          · obtain ⟨o, ho⟩ := hI
            exact Nat.ne_of_gt (h5 _ (List.mem_append_right _ ho))
        · exact hno q (List.mem_append_right _ hq)
  · rintro m₃ nx h₃ tk₃ ⟨a, hIa, rfl, H₃⟩ F₃ N₃
    rw [show (S ls).cps.size = ls.length by simp [S]] at hIa H₃ N₃
    exact done a hIa _ ⟨h₃, tk₃, gs, m₃, rfl, hbr, g, F₃, N₃, H₃⟩
end Mine

end
section
open PySem PySem.W PySem.Calls PyProof.Rows
set_option linter.unusedVariables false
set_option maxRecDepth 100000
set_option maxHeartbeats 6000000
namespace Mine
def textL (n : Nat) : List Nat := (List.range (1 + n % 3)).map fun k => [40,41,97,65].getD (n / 3 / 4 ^ k % 4) 0
theorem textL_len (n : Nat) : (textL n).length = 1 + n % 3 := by simp [textL]
theorem S_app (a b : List Nat) : S a ++ S b = S (a ++ b) := by
  show Str.append _ _ = _
  simp [S, Str.append]

theorem litT : Str.ofString "()aA" = S [40, 41, 97, 65] := by rw [S_def]; decide
theorem litE : Str.ofString "" = S [] := by rw [S_def]; rfl
local macro_rules | `(tactic| walk_at "ev_lit") => `(tactic| first | exact litT | exact litE)
theorem textL_next (n k : Nat) (h : k < 1 + n % 3) (hm : n / 3 / 4 ^ k % 4 < [40, 41, 97, 65].length) : (textL n).take k ++ [[40, 41, 97, 65][n / 3 / 4 ^ k % 4]] = (textL n).take (k + 1) := by
  rw [List.take_add_one]
  congr 1
  have : (textL n)[k]? = some ([40, 41, 97, 65].getD (n / 3 / 4 ^ k % 4) 0) := by
    rw [List.getElem?_eq_getElem (by rw [textL_len]; exact h)]
    simp [textL]
  rw [this, List.getD_eq_getElem?_getD, List.getElem?_eq_getElem hm]
  rfl
theorem text_fn (w : World) (i : Int) (t : Tok) :
   Fn PySem.Challenge.rw_rw0063_02.row.prog w (Mine.hd.heap_39 w.params) Mine.hd.view_39 63 1 [.int i t] (isS (S (textL (i % 1000000).toNat))) := by
  k_fill
  refine' Fn.of_rt (n := 0) ?ho ?hcd ?hbd ?hlc [("number", IsI i)] ?hΓ ?g1 ?g2 ?g3 ?g4 ?hr
  case ho => k_is
  case hcd => k_is
  case hbd => exact fun _ => BindsTo.of_eq rfl
  case hlc => exact locs rfl
  case g1 => exact rfl
  case g2 => exact rfl
  case g3 => exact rfl
  case g4 => decide
  case hΓ => simp only [Has, List.forall_mem_cons]; exact ⟨⟨_, rfl, t, rfl⟩, fun _ h => nomatch h⟩
  case hr =>
  intro A L' g s R N
  refine letR R ?_
  intro c R
  have Grange : Gl c "range" (.type "range") := R.bi boot_range rfl (by decide) rfl rfl
  have hh : c.A.handled = none := R.1
  refine Rt.of ?_
  have hn : i.fmod ((10 : Int) ^ 6) = (((i % 1000000).toNat : Nat) : Int) := by
    rw [show ((10 : Int) ^ 6) = 1000000 from rfl, Int.fmod_eq_emod_of_nonneg _ (by decide)]
    omega
  have hlt : (i % 1000000).toNat ≤ 999999 := by omega
  generalize (i % 1000000).toNat = n at *
  refine' Bl.cons (Ex.assign (Ev.toK (n := 999999) (Ev.eqI (Ev.modI ?e1 (Ev.pow (k := 6) Ev.int Ev.int (by decide) (by decide)) (by decide)) hn) hlt) sub_refl rfl rfl rfl rfl) ?n1
  case e1 => walk_at "ev"
  refine' Bl.cons (Ex.assign (P := IsL 3 []) (Ev.mono (Ev.lit (n := 0) litE rfl) fun v h => h.le (by decide)) sub_refl rfl rfl rfl rfl) ?n2
  refine' Bl.forRange (n := 1 + n % 3) (m := 1 + 999999) (N := N) (a₀ := ()) (fun k _ => [("text", IsL 3 ((textL n).take k)), ("n", IsK 999999 n), ("number", IsI i)]) (fun _ _ => []) (fun _ _ => True) rfl hh Grange (Ev.addK (Ev.kst (k := 1) rfl) (Ev.mod (n := 999999) (m := 3) ?e2 (Ev.kst (k := 3) rfl) (by decide) rfl)) rfl trivial (fun _ _ _ _ _ => rfl) (fun _ _ => rfl) (fun _ _ _ _ h => nomatch h) ?turn ?done rfl rfl rfl rfl (fun _ => rfl)
  case e2 => walk_at "ev"
  case done =>
    intro _ _
    refine' Bl.ret ?e3 ?e4 sub_led
    case e3 => walk_at "ev"
    case e4 => rintro v ⟨⟨t, rfl⟩, _⟩; exact ⟨⟨t, by rw [List.take_of_length_le (by simp [textL])]⟩, rfl⟩
  case turn =>
    intro k _ hk _ N' hN' _
    have h4 : 4 ^ k ≤ 16 := by
      rcases (by omega : k = 0 ∨ k = 1 ∨ k = 2) with rfl | rfl | rfl <;> decide
    have hp4 : 0 < 4 ^ k := Nat.pow_pos (by decide)
    have hm : n / 3 / 4 ^ k % 4 < [40, 41, 97, 65].length := Nat.mod_lt _ (by decide)
    have hnx := textL_next n k hk hm
    have hln : ((textL n).take (k + 1)).length ≤ 3 := by rw [List.length_take]; omega
    refine' Bl.cons (Ex.aug (R := IsL 3 ((textL n).take (k + 1))) ?f1 (Ev.item (n := 4) (k := n / 3 / 4 ^ k % 4) ?f2 (Ev.I (Ev.mod (n := 999999) (m := 4) (Ev.fdiv (n := 999999) (m := 16) (Ev.fdiv (n := 999999) (m := 3) ?f3 (Ev.kst (k := 3) rfl) (by decide) rfl) (Ev.toK (Ev.eqI (Ev.pow (i := 4) (k := k) Ev.int ?f4 (by decide) (by omega)) (by rw [Int.natCast_pow]; rfl)) h4) (Nat.ne_of_gt hp4) rfl) (Ev.kst (k := 4) rfl) (by decide) rfl)) hm rfl rfl (fun _ => rfl)) (iop_mono (iop_addL (n := 3) (m := 1) rfl) fun v h => hnx ▸ h.le (by rw [hnx]; exact hln)) (Γ' := [("n", IsK 999999 n), ("number", IsI i)]) ?f5 rfl rfl rfl rfl) (Bl.nil fun s' st => ⟨(), trivial, st.weak ?f6⟩)
    case f1 => walk_at "ev_in"
    case f2 => walk_at "ev"
    case f3 => walk_at "ev"
    case f4 => walk_at "ev"
    case f5 => walk_at "sub"
    case f6 => walk_at "sub"
end Mine

end
section
open PySem PySem.W PySem.Calls PyProof.Rows
set_option linter.unusedVariables false
set_option maxRecDepth 100000
namespace Mine
variable {c : Cx} {Γ Γ₁ Γ' : Tys} {N N₀ N₁ N' : Led} {Q : Flow → Shared → Prop}
/-- some int -/
def AnyI : Value → Prop := fun v => ∃ z, IsI z v
theorem Ev.sum {x y : Str} {p1 p2 p3 : Pos} {l : Addr} {vs : List Value} {ns : List Int} (hf : Gl c x (.builtin "sum")) (hy : Ev c Γ (.Name y p2) (IsV (.ref l))) (hl : c.g.IsList l vs.toArray) (hi : IntsAre vs ns) (hh : c.A.handled = none)
    (he : eval (.Call (.Name x p1) [.Name y p2] [] p3) c.env = (do callWith p3 (← eval (.Name x p1) c.env) [] (backTo p3 (starEach [.Name y p2] c.env)) (backToKw p3 (keywordEach [] c.env)))) : Ev c Γ (.Call (.Name x p1) [.Name y p2] [] p3) AnyI := by
  refine Ev.fun1 hf hy ?_ rfl he
  rintro v rfl Γ N s hs
  obtain ⟨h', tk, gs, m, rfl, hb, g, F, Nn, H⟩ := hs
  exact sumK (s := { c.s₁ with heap := h', toks := tk, gens := gs }) hh F Nn (F.lst hl) hi fun h₂ tk₂ t₂ F₂ N₂ => ⟨⟨_, _, rfl⟩, h₂, tk₂, gs, m, rfl, hb, g, F₂, N₂, H⟩
/-- sum(y[a::b]) -/
theorem Ev.sumSlice {ops : Addr → List Value} {x y : Str} {p1 p2 p3 p4 p5 p6 p7 : Pos} {l : Addr} {a b : Int} {k1 k2 : Nat} {vs : List Value} {ns : List Int} (hf : Gl c x (.builtin "sum")) (hy : Ev c Γ (.Name y p2) (IsV (.ref l))) (hl : c.g.IsList l vs.toArray) (hi : IntsAre vs ns) (hns : ns.length ≤ 1000) (hh : c.A.handled = none) (hb0 : b ≠ 0)
    (h1 : starEach [.Subscript (.Name y p2) (.Slice (some (.Constant (.int a) k1 p4)) none (some (.Constant (.int b) k2 p5)) p6) p7] c.env = (false, eval (.Subscript (.Name y p2) (.Slice (some (.Constant (.int a) k1 p4)) none (some (.Constant (.int b) k2 p5)) p6) p7) c.env) :: starEach [] c.env)
    (he : eval (.Call (.Name x p1) [.Subscript (.Name y p2) (.Slice (some (.Constant (.int a) k1 p4)) none (some (.Constant (.int b) k2 p5)) p6) p7] [] p3) c.env = (do callWith p3 (← eval (.Name x p1) c.env) [] (backTo p3 (starEach [.Subscript (.Name y p2) (.Slice (some (.Constant (.int a) k1 p4)) none (some (.Constant (.int b) k2 p5)) p6) p7] c.env)) (backToKw p3 (keywordEach [] c.env))))
    (hs : ∀ {r}, subscripted (.Slice (some (.Constant (.int a) k1 p4)) none (some (.Constant (.int b) k2 p5)) p6) false (.ref l) (.ref r) = operate (ops r) (getItem (.ref l) (.ref r))) (ht : ∀ r, letTemporaryGo (.Name y p2) (.ref l) r = pure ()) :
    Ev c Γ (.Call (.Name x p1) [.Subscript (.Name y p2) (.Slice (some (.Constant (.int a) k1 p4)) none (some (.Constant (.int b) k2 p5)) p6) p7] [] p3) AnyI := by
  intro N s hst
  obtain ⟨m0, F0⟩ := hst.fr
  refine Call_ (hf p1 s m0 _ _ F0 ?_) he
  refine PyProof.Rows.callWith_builtin1 ?_ h1
  rw [h1]
  refine Calls.spliced_cons (Subscript_ (wp_then (hy N s hst) ?_))
  rintro v s₁ ⟨rfl, h₁⟩
  refine wpAny_Slice (evalPart_some_step (wp_then (Ev.int (c := c) (Γ := Γ) N s₁ h₁) ?_))
  rintro v s₂ ⟨⟨t2, rfl⟩, h₂⟩
  refine evalPart_none_step (evalPart_some_step (wp_then (Ev.int (c := c) (Γ := Γ) N s₂ h₂) ?_))
  rintro v s₃ ⟨⟨t3, rfl⟩, h₃⟩
  obtain ⟨h', tk, gs, m, rfl, hb, g, F, Nn, H⟩ := h₃
  have hlen := hi.length
  refine slice_list3 (s := { c.s₁ with heap := h', toks := tk, gens := gs }) F Nn (F.lst hl) (.int _ _) .none (.int _ _) (by simpa using hb0) (fun h₂ F₂ N₂ => ?_) hs ht (by rw [List.size_toArray, sizeLine_eq]; omega)
  refine Calls.spliced_nil ?_
  refine sumK (s := { c.s₁ with heap := h₂, toks := tk, gens := gs }) hh F₂ N₂ (vs := (slicePick vs.toArray (some a) none (some b)).toList) (News.isList N₂ (.head _)) (hi.pick _ _ _) fun h₄ tk₄ t₄ F₄ N₄ => ⟨⟨_, _, rfl⟩, h₄, tk₄, gs, m, rfl, hb, g, F₄, fun q hq => N₄ q (List.mem_cons_of_mem _ hq), H⟩
theorem Ev.anyAdd {a b : Expr} {p : Pos} {j : Int} (ha : Ev c Γ a AnyI) (hb : Ev c Γ b (IsI j)) : Ev c Γ (.BinOp a .Add b p) AnyI := by
  refine Ev.bin ha hb ?_
  rintro v v' ⟨z, t, rfl⟩ ⟨t', rfl⟩ N s hst
  exact add_int ⟨⟨_, _, rfl⟩, hst.toks _⟩
theorem Ev.anyMod {a b : Expr} {p : Pos} {j : Nat} (ha : Ev c Γ a AnyI) (hb : Ev c Γ b (IsI (j : Int))) (hj : 0 < j) : Ev c Γ (.BinOp a .Mod b p) (fun v => ∃ k : Nat, k < j ∧ IsI (k : Int) v) := by
  refine Ev.bin ha hb ?_
  rintro v v' ⟨z, t, rfl⟩ ⟨t', rfl⟩ N s hst
  refine mod_int' (by omega) ⟨?_, hst.toks _⟩
  rw [Int.fmod_eq_emod_of_nonneg _ (by omega)]
  have h1 := Int.emod_nonneg z (b := (j : Int)) (by omega)
  have h2 := Int.emod_lt_of_pos z (b := (j : Int)) (by omega)
  exact ⟨(z % (j : Int)).toNat, by omega, _, by rw [Int.toNat_of_nonneg h1]⟩
theorem Ev.anyDiv {a b : Expr} {p : Pos} {j : Nat} (ha : Ev c Γ a AnyI) (hb : Ev c Γ b (IsI (j : Int))) (hj : 0 < j) (hn : ∀ s m, Fr c.g c.env.locals s.heap m → PySem.PylongRoom (model c.prog c.w) c.A s) : Ev c Γ (.BinOp a .FloorDiv b p) AnyI := by
  refine Ev.bin ha hb ?_
  rintro v v' ⟨z, t, rfl⟩ ⟨t', rfl⟩ N s hst
  obtain ⟨m, F⟩ := hst.fr
  exact floordiv_int (by omega) ⟨⟨_, _, rfl⟩, hst.toks _⟩ (Or.inr (hn s m F))
/-- an assignment of a value known up to a datum -/
theorem Bl.assignEx {α : Type} {x : Str} {p p2 : Pos} {e : Expr} {l : List Stmt} {R : α → Prop} {P : α → Value → Prop} (he : EvAt c Γ N e (fun v => ∃ a, R a ∧ P a v)) (hk : ∀ a, R a → Bl c ((x, P a) :: Γ') N l Q) (hsub : ∀ q ∈ Γ', q ∈ Γ) (hf : fresh x Γ' = true) (hx : c.env.kindOf x = some .local) (hp : (c.env.scope.kind == .class || (c.env.scope.kind == .module && c.env.locals != c.env.globals)) = false)
    (hs : swapsWith e (some (.Name x p)) p2.line c.env = pure false) : Bl c Γ N (.Assign [.Name x p] e p2 :: l) Q := fun s h =>
  wpAny_execs_cons (wpAny_Assign_Name (wp_then (he s h) fun v s₁ ⟨⟨a, hR, hP⟩, h₁⟩ => wp_then ((h₁.weak hsub).set hP hf hx hp) fun _ s₂ h₂ => hk a hR s₂ h₂) hs)
theorem EvN.tup2 {a b : Expr} {k : Nat} {p : Pos} {P P' : Value → Prop} (h : EvA c Γ [a, b] [P, P']) : EvN c Γ (.Tuple [a, b] k p) (fun v own => ∃ T u u', v = .ref T ∧ own = [(T, tupOf [u, u'])] ∧ P u ∧ P' u') := by
  intro N s hs
  refine Tuple_ (wp_then (h p N s hs) ?_)
  rintro vs s₁ ⟨hv, h₁⟩
  obtain ⟨v, v', rfl⟩ := lenP2 hv
  · skip
    obtain ⟨hv, hv', _⟩ := hv
    obtain ⟨h', tk, gs, m, rfl, hb, g, F, Nn, H⟩ := h₁
    exact kup_newTuple F Nn (fun D h₂ F₂ N₂ hD => ⟨_, ⟨D, v, v', rfl, rfl, hv, hv'⟩, (fun p hp q hq => by rw [List.mem_singleton.mp hp]; exact hD q hq), h₂, tk, gs, m, rfl, hb, g, F₂, N₂, H⟩) (by rw [sizeLine_eq]; simp)
/-- an item of a pair that stands in the ledger, at 0 or 1 -/
theorem EvAt.pair {x : Str} {px p : Pos} {e : Expr} {T : Addr} {u u' : Value} (hx : Ev c Γ (.Name x px) (IsV (.ref T))) (hm : (T, tupOf [u, u']) ∈ N) (he : Ev c Γ e (fun v => ∃ k : Nat, k < 2 ∧ IsI (k : Int) v))
    (hs : ∀ {i t}, subscripted e false (.ref T) (.int i t) = operate [.ref T, .int i t] (getItem (.ref T) (.int i t))) : EvAt c Γ N (.Subscript (.Name x px) e p) (fun v => v = u ∨ v = u') := by
  intro s h
  refine Subscript_ (wp_then (hx N s h) ?_)
  rintro v s₁ ⟨rfl, h₁⟩
  refine wp_then (he N s₁ h₁) ?_
  rintro v s₂ ⟨⟨k, hk, t', rfl⟩, h₂⟩
  have h₃ := h₂
  obtain ⟨h', tk, gs, m, rfl, hb, g, F, Nn, H⟩ := h₂
  rcases (by omega : k = 0 ∨ k = 1) with rfl | rfl
  · exact item_tupleT (j := 0) (News.isTup Nn hm) (by decide) (by decide) rfl rfl ⟨.inl rfl, h₃⟩ hs
  · exact item_tupleT (j := 1) (News.isTup Nn hm) (by decide) (by decide) rfl rfl ⟨.inr rfl, h₃⟩ hs
theorem Bl.retL {e : Expr} {p : Pos} {l : List Stmt} {R : Value → Prop} (he : Ev c Γ e R) (hQ : ∀ v s', R v → St c Γ N s' → Q (.ret v) s') : Bl c Γ N (.Return (some e) p :: l) Q := fun s h =>
  wpAny_execs_cons (wpAny_Return_some (wp_then (he N s h) fun v s₁ h₁ => hQ v s₁ h₁.1 h₁.2))
theorem Bl.run {l : List Stmt} {s : Shared} {E : Value → Shared → Prop} (h : Bl c Γ N l Q) (hs : St c Γ N s) : wpAny (model c.prog c.w) c.A (execs l c.env) Q E s := wpAny_mono (h s hs) (fun _ _ h => h) (fun _ _ e => e.elim)
theorem withB {l : List Stmt} {s : Shared} {E : Value → Shared → Prop} (h : let c' := c; wpAny (model c'.prog c'.w) c'.A (execs l c'.env) Q E s) : wpAny (model c.prog c.w) c.A (execs l c.env) Q E s := h
theorem EvAt.mono {e : Expr} {P P' : Value → Prop} (h : EvAt c Γ N e P) (k : ∀ v, P v → P' v) : EvAt c Γ N e P' := fun s hs => wp_then (h s hs) fun v s' hv => ⟨k v hv.1, hv.2⟩
end Mine

end
section
open PySem PySem.W PySem.Calls PyProof.Rows
set_option linter.unusedVariables false
set_option maxRecDepth 100000
namespace Mine
variable {c : Cx} {Γ Γ₁ Γ' : Tys} {N N₀ N₁ N' : Led} {Q : Flow → Shared → Prop}
/-- a list of ints -/
def lsI (ls : List (Int × Tok)) (n : Nat) : Obj := listOf (iv ls).toArray n
theorem iv_push1 (ls : List (Int × Tok)) (z : Int) (t : Tok) : (iv ls).toArray.push (Value.int z t) = (iv (ls ++ [(z, t)])).toArray := by simp [iv]
theorem iv_rep : ∀ (n : Nat) (t : Tok), (List.replicate n [Value.int 0 t]).flatten = iv (List.replicate n (0, t))
  | 0, _ => rfl
  | n + 1, t => by rw [List.replicate_succ, List.flatten_cons, iv_rep n t, List.replicate_succ]; rfl
/-- [e] -/
theorem EvN.list1 {e : Expr} {p : Pos} {P : Value → Prop} (he : Ev c Γ e P) (h1 : starEach [e] c.env = (false, eval e c.env) :: starEach [] c.env) : EvN c Γ (.List [e] p) (fun v own => ∃ D u, v = .ref D ∧ own = [(D, listOf #[u] 0)] ∧ P u) := by
  intro N s hs
  refine List_ (wp_then (EvA.cons he EvA.nil h1 p N s hs) ?_)
  rintro vs s₁ ⟨hv, h₁⟩
  obtain ⟨u, rfl⟩ := lenP1 hv
  obtain ⟨hu, _⟩ := hv
  · skip
    obtain ⟨h', tk, gs, m, rfl, hb, g, F, Nn, H⟩ := h₁
    exact newList_K F Nn (fun D h₂ F₂ N₂ hD => ⟨_, ⟨D, u, rfl, rfl, hu⟩, (fun p hp q hq => by rw [List.mem_singleton.mp hp]; exact hD q hq), h₂, tk, gs, m, rfl, hb, g, F₂, N₂, H⟩) (by rw [sizeLine_eq]; simp)
/-- [0] * e -/
theorem EvN.zeros {e : Expr} {k2 : Nat} {p p2 p3 : Pos} {n k : Nat} (he : Ev c Γ e (IsK n k)) (hn : Nat.ble n 100000 = true) (h1 : starEach [.Constant (.int 0) k2 p] c.env = (false, eval (.Constant (.int 0) k2 p) c.env) :: starEach [] c.env) :
    EvN c Γ (.BinOp (.List [.Constant (.int 0) k2 p] p2) .Mult e p3) (fun v own => ∃ D t, v = .ref D ∧ own = [(D, lsI (List.replicate k (0, t)) 0)]) := by
  intro N s hs
  refine wpAny_BinOp (wp_then (EvN.list1 (Ev.int (i := 0)) h1 N s hs) ?_)
  rintro v s₁ ⟨own, ⟨D, u, rfl, rfl, t, rfl⟩, hl, h₁⟩
  refine wp_then (he _ s₁ h₁) ?_
  rintro v s₂ ⟨⟨⟨t', rfl⟩, hk⟩, h₂⟩
  have := Nat.le_of_ble_eq_true hn
  obtain ⟨h', tk, gs, m, rfl, hb, g, F, Nn, H⟩ := h₂
  refine KM.mul (s := { c.s₁ with heap := h', toks := tk, gens := gs }) F Nn (vs := [.int 0 t]) (ns := [0]) (Nn.isList (.head _)) (IntsAre.cons _ _ .nil) (by omega) (by omega) (by simp; omega) ?_
  · intro D' h₂ F₂ N₂ hD _ _ _ _ _ _
    rw [Int.toNat_natCast, iv_rep] at N₂
    exact ⟨[(D', lsI (List.replicate k (0, t)) 0)], ⟨D', t, rfl, rfl⟩, (fun p hp q hq => by rw [List.mem_singleton.mp hp]; exact hD q (.tail _ hq)), h₂, tk, gs, m, rfl, hb, g, F₂, (fun q hq => N₂ q (by rcases List.mem_cons.mp hq with rfl | hq; exact .head _; exact .tail _ (.tail _ hq))), H⟩
/-- x.append(e) -/
theorem Bl.append {x : Str} {px p p2 p3 : Pos} {e : Expr} {l : List Stmt} {D : Addr} {its : Array Value} {n : Nat} {P : Value → Prop} {pl : Sem Bool} (hx : Ev c Γ (.Name x px) (IsV (.ref D))) (he : EvAt c Γ ((D, listOf its n) :: N) e P) (hap : ∀ p ∈ N, p.1 ≠ D) (hsz : its.size ≤ 100000) (hi : interactive c.env = false) (hs' : swapsWith (.Call (.Attribute (.Name x px) "append" p) [e] [] p2) none p3.line c.env = pure false)
    (hk : ∀ v, P v → Bl c Γ ((D, listOf (its.push v) (n + 1)) :: N) l Q) (h1 : starEach [e] c.env = (false, eval e c.env) :: starEach [] c.env)
    (hc : eval (.Call (.Attribute (.Name x px) "append" p) [e] [] p2) c.env = (do
      let ov ← eval (.Name x px) c.env
      standAt p.atName
      let (f, first) ← holding [ov] (getMethod ov "append" pl)
      callWith p2 f first (backTo p2 (starEach [e] c.env)) [])) : Bl c Γ ((D, listOf its n) :: N) (.Expr (.Call (.Attribute (.Name x px) "append" p) [e] [] p2) p3 :: l) Q := by
  intro s hs
  refine wpAny_execs_cons (wpAny_Expr (MethodCall_ (pl := pl) (wp_then (hx _ s hs) ?_) hc) hi hs')
  rintro v s₁ ⟨rfl, h₁⟩
  have h₁' := h₁
  obtain ⟨h', tk, gs, m, rfl, hb, g, F, Nn, H⟩ := h₁
  refine Calls.getMethod_list_append (s := { c.s₁ with heap := h', toks := tk, gens := gs }) (Nn.get (.head _)) rfl rfl ?_
  refine callWith_method1 ?_ h1 rfl
  rw [h1]
  refine Calls.spliced_cons (wp_then (he _ h₁') fun v s₂ h₂ => Calls.spliced_nil ?_)
  obtain ⟨hv, h₂, tk, gs, m, rfl, hb, g, F, Nn, H⟩ := h₂
  have := sizeLine_eq
  exact append_K (s := { c.s₁ with heap := h₂, toks := tk, gens := gs }) F Nn (Upd.head hap) (fun h₆ F₆ N₆ => hk v hv _ ⟨h₆, tk, gs, m, rfl, hb, g, F₆, N₆, H⟩) (by omega)
/-- a built-in of three arguments that ask the ledger -/
theorem EvAt.fun3 {x : Str} {T : String} {p p2 : Pos} {a b d : Expr} {P P' P'' R : Value → Prop} (hf : Gl c x (.builtin T)) (ha : EvAt c Γ N a P) (hb : EvAt c Γ N b P') (hd : EvAt c Γ N d P'') (hc : ∀ v v' v'', P v → P' v' → P'' v'' → Cn c (.builtin T) [v, v', v''] R)
    (h1 : starEach [a, b, d] c.env = (false, eval a c.env) :: starEach [b, d] c.env) (h2 : starEach [b, d] c.env = (false, eval b c.env) :: starEach [d] c.env) (h3 : starEach [d] c.env = (false, eval d c.env) :: starEach [] c.env)
    (he : eval (.Call (.Name x p) [a, b, d] [] p2) c.env = (do callWith p2 (← eval (.Name x p) c.env) [] (backTo p2 (starEach [a, b, d] c.env)) (backToKw p2 (keywordEach [] c.env)))) : EvAt c Γ N (.Call (.Name x p) [a, b, d] [] p2) R := by
  intro s hs
  obtain ⟨m, F⟩ := hs.fr
  refine Call_ (hf p s m _ _ F ?_) he
  refine PyProof.Rows.callWith_builtin1 ?_ h1 (by rw [h2, h3]; rfl)
  rw [h1]
  refine Calls.spliced_cons (wp_then (ha s hs) fun v s₁ k₁ => ?_)
  rw [h2]
  refine Calls.spliced_cons (wp_then (hb s₁ k₁.2) fun v' s₂ k₂ => ?_)
  rw [h3]
  exact Calls.spliced_cons (wp_then (hd s₂ k₂.2) fun v'' s₃ k₃ => Calls.spliced_nil (hc v v' v'' k₁.1 k₂.1 k₃.1 Γ N s₃ k₃.2))
theorem cn_max3 {a b d : Int} (hh : c.A.handled = none) : ∀ v v' v'', IsI a v → IsI b v' → IsI d v'' → Cn c (.builtin "max") [v, v', v''] (IsI (max (max a b) d)) := by
  rintro v v' v'' ⟨t, rfl⟩ ⟨t', rfl⟩ ⟨t'', rfl⟩ Γ N s hs
  obtain ⟨h', tk, gs, m, rfl, hb, g, F, Nn, H⟩ := hs
  refine max_three_ints hh fun h₂ tk₂ hk => ⟨⟨if b > a then (if d > b then t'' else t') else (if d > a then t'' else t), ?_⟩, h₂, tk₂, gs, m, rfl, hb, g, F.keeps hk, Nn.grown hk, H⟩
  split <;> split <;> congr 1 <;> omega
theorem Bl.retAt {e : Expr} {p : Pos} {l : List Stmt} {P : Value → Led → Prop} {R : Value → Prop} (he : EvAt c Γ N e R) (hP : ∀ v, R v → P v []) (hs : ∀ q ∈ N₀, q ∈ N) : Bl c Γ N (.Return (some e) p :: l) (RetP c N₀ P) := fun s h =>
  wpAny_execs_cons (wpAny_Return_some (wp_then (he s h) fun v s₁ h₁ => retP (hP v h₁.1) hs h₁.2))
theorem Ev.neg {a : Expr} {p : Pos} {i : Int} (ha : Ev c Γ a (IsI i)) : Ev c Γ (.UnaryOp .USub a p) (IsI (-i)) := fun N s hs =>
  UnaryOp_ (wp_then (ha N s hs) fun v s₁ h₁ => by
    obtain ⟨⟨t, rfl⟩, h₂⟩ := h₁
    exact neg_int ⟨⟨_, rfl⟩, h₂.toks _⟩)
theorem EvAt.bin {a b : Expr} {o : Operator} {p : Pos} {P P' R : Value → Prop} (ha : EvAt c Γ N a P) (hb : EvAt c Γ N b P')
    (hop : ∀ v v', P v → P' v' → ∀ s, St c Γ N s → wpAny (model c.prog c.w) c.A (binaryOp o v v') (fun v s' => R v ∧ St c Γ N s') noE s) : EvAt c Γ N (.BinOp a o b p) R := fun s hs =>
  wpAny_BinOp (wp_then (ha s hs) fun v s₁ h₁ => wp_then (hb s₁ h₁.2) fun v' s₂ h₂ => hop v v' h₁.1 h₂.1 s₂ h₂.2)
theorem EvAt.addI {a b : Expr} {p : Pos} {i j : Int} (ha : EvAt c Γ N a (IsI i)) (hb : EvAt c Γ N b (IsI j)) : EvAt c Γ N (.BinOp a .Add b p) (IsI (i + j)) := by
  refine EvAt.bin ha hb ?_
  rintro v v' ⟨t, rfl⟩ ⟨t', rfl⟩ s hst
  exact add_int ⟨⟨_, rfl⟩, hst.toks _⟩
theorem EvAt.subI {a b : Expr} {p : Pos} {i j : Int} (ha : EvAt c Γ N a (IsI i)) (hb : EvAt c Γ N b (IsI j)) : EvAt c Γ N (.BinOp a .Sub b p) (IsI (i - j)) := by
  refine EvAt.bin ha hb ?_
  rintro v v' ⟨t, rfl⟩ ⟨t', rfl⟩ s hst
  exact sub_int ⟨⟨_, rfl⟩, hst.toks _⟩
theorem EvAt.cell {x : Str} {px p : Pos} {e : Expr} {D : Addr} {n : Nat} {ls : List (Int × Tok)} {k : Nat} (hx : Ev c Γ (.Name x px) (IsV (.ref D))) (hm : (D, lsI ls n) ∈ N) (he : Ev c Γ e (IsI (k : Int))) (hk : k < ls.length) (hl : ls.length ≤ 2000)
    (hs : ∀ {i u}, subscripted e false (.ref D) (.int i u) = operate [.ref D, .int i u] (getItem (.ref D) (.int i u))) (hg : ∀ r, letTemporaryGo (.Name x px) (.ref D) r = pure ()) : EvAt c Γ N (.Subscript (.Name x px) e p) (IsI ((ls.map (·.1)).getD k 0)) := by
  intro s h
  refine Subscript_ (wp_then (hx N s h) ?_)
  rintro v s₁ ⟨rfl, h₁⟩
  refine wp_then (he N s₁ h₁) ?_
  rintro v s₂ ⟨⟨t', rfl⟩, h₂⟩
  obtain ⟨h', tk, gs, m, rfl, hb, g, F, Nn, H⟩ := h₂
  refine item_list (Nn.isList hm) (by omega) (by omega) (by simpa using iv_get hk) ⟨⟨ls[k].2, ?_⟩, h', tk, gs, m, rfl, hb, g, F, Nn, H⟩ hs hg
  rw [List.getD_eq_getElem?_getD, List.getElem?_map, List.getElem?_eq_getElem hk]; rfl
theorem EvAt.cellL {x : Str} {px p p2 p3 : Pos} {k : Nat} {D : Addr} {n : Nat} {ls : List (Int × Tok)} (hx : Ev c Γ (.Name x px) (IsV (.ref D))) (hm : (D, lsI ls n) ∈ N) (hk : 1 ≤ ls.length) (hl : ls.length ≤ 2000)
    (hs : ∀ {u}, subscripted (.UnaryOp .USub (.Constant (.int 1) k p2) p3) false (.ref D) (.int (-1) u) = operate [.ref D, .int (-1) u] (getItem (.ref D) (.int (-1) u))) (hg : ∀ r, letTemporaryGo (.Name x px) (.ref D) r = pure ()) : EvAt c Γ N (.Subscript (.Name x px) (.UnaryOp .USub (.Constant (.int 1) k p2) p3) p) (IsI ((ls.map (·.1)).getD (ls.length - 1) 0)) := by
  intro s h
  refine Subscript_ (wp_then (hx N s h) ?_)
  rintro v s₁ ⟨rfl, h₁⟩
  refine UnaryOp_ (wpAny_Constant_int (neg_int ?_))
  have h₂ := h₁.toks (s₁.toks + 1 + 1)
  obtain ⟨h', tk, gs, m, rfl, hb, g, F, Nn, H⟩ := h₁
  have hl' : Heap.IsList h' D (iv ls).toArray := Nn.isList hm
  have hsz : (iv ls).toArray.size = ls.length := by rw [List.size_toArray, iv_len]
  have hk' : ls.length - 1 < ls.length := by omega
  refine subscriptTail_builtin (s := { c.s₁ with heap := h', toks := tk + 1 + 1, gens := gs }) hl'.typeIs slot_list_getitem.lookup (wpAny_getItem_list_neg hl' (by decide) (by rw [hsz]; omega) (by decide) (x := .int ls[ls.length - 1].1 ls[ls.length - 1].2) ?_ ⟨⟨ls[ls.length - 1].2, ?_⟩, h₂⟩) hs hg
  · rw [hsz, show ((-1 : Int) + (ls.length : Nat)).toNat = ls.length - 1 by omega]
    simpa using iv_get hk'
  · rw [List.getD_eq_getElem?_getD, List.getElem?_map, List.getElem?_eq_getElem hk']; rfl
end Mine

end
section
open PySem PySem.W PySem.Calls PyProof.Rows
set_option linter.unusedVariables false
set_option maxRecDepth 100000
set_option maxHeartbeats 6000000
namespace Mine
def needsStep (st : Int × Int) (c : Nat) : Int × Int := if c = 40 then (st.1 + 1, st.2) else if c = 41 then (st.1 - 1, min st.2 (st.1 - 1)) else st
def needsF (x : List Nat) : Int × Int := x.foldl needsStep (0, 0)
abbrev isT2 (a b : Int) : Value → List (Addr × Obj) → Prop := fun v own => ∃ T t1 t2, v = .ref T ∧ own = [(T, tupOf [.int a t1, .int b t2])]
theorem litP1 : Str.ofString "(" = S [40] := by rw [S_def]; decide
theorem litP2 : Str.ofString ")" = S [41] := by rw [S_def]; decide
local macro_rules | `(tactic| walk_at "ev_lit") => `(tactic| first | exact litP1 | exact litP2)
theorem ne1 {z k : Nat} (h : z ≠ k) : decide ([z] = [k]) = false := decide_eq_false fun e => h (List.cons.inj e).1
theorem needs_fn (w : World) (x : List Nat) (t : Tok) (hx : x.length ≤ 1000) :
   Fn PySem.Challenge.rw_rw0063_02.row.prog w (Mine.hd.heap_39 w.params) Mine.hd.view_39 70 1 [.str (S x) t] (isT2 (-(needsF x).2) ((needsF x).1 - (needsF x).2)) := by
  k_fill
  refine' Fn.of_rt (n := 0) ?ho ?hcd ?hbd ?hlc [("text", IsL 1000 x)] ?hΓ ?g1 ?g2 ?g3 ?g4 ?hr
  case ho => k_is
  case hcd => k_is
  case hbd => exact fun _ => BindsTo.of_eq rfl
  case hlc => exact locs rfl
  case g1 => exact rfl
  case g2 => exact rfl
  case g3 => exact rfl
  case g4 => decide
  case hΓ => simp only [Has, List.forall_mem_cons]; exact ⟨⟨_, rfl, ⟨t, rfl⟩, hx⟩, fun _ h => nomatch h⟩
  case hr =>
  intro A L' g s R N
  refine letR R ?_
  intro c R
  have Gmin : Gl c "min" (.builtin "min") := R.bi boot_min rfl (by decide) rfl rfl
  have hh : c.A.handled = none := R.1
  refine Rt.of ?_
  refine' Bl.cons (Ex.unpack2 (P := IsI 0) (P' := IsI 0) (EvN.tup2 (EvA.cons Ev.int (EvA.cons Ev.int EvA.nil rfl) rfl)) ?hR hh sub_refl rfl rfl rfl rfl rfl rfl rfl) ?n1
  case hR =>
    rintro v own ⟨T, u, u', rfl, rfl, h1, h2⟩
    exact ⟨T, u, u', rfl, .head _, h1, h2⟩
  refine' Bl.forStr (n := 1000) (ls := x) (N := N) (a₀ := ((0, 0) : Int × Int)) (fun i z => [("low", IsI z.2), ("high", IsI z.1), ("text", IsL 1000 x)]) (fun i z => [])
    (fun i z => z = (x.take i).foldl needsStep (0, 0)) rfl hh ?e2 rfl (fun _ _ => rfl) ?turn ?done rfl rfl (fun _ => rfl)
  case e2 => walk_at "ev"
  case done =>
    rintro ⟨hi, lo⟩ hz
    rw [List.take_length] at hz
    obtain rfl : hi = (needsF x).1 := congrArg Prod.fst hz
    obtain rfl : lo = (needsF x).2 := congrArg Prod.snd hz
    refine' Rt.mono (Rt.retN (EvN.tup2 (EvA.cons (Ev.neg ?e3) (EvA.cons (Ev.sub ?e4 ?e5) EvA.nil rfl) rfl))) ?e6
    case e3 => walk_at "ev"
    case e4 => walk_at "ev"
    case e5 => walk_at "ev"
    case e6 =>
      rintro v own ⟨T, _, _, rfl, rfl, ⟨t1, rfl⟩, ⟨t2, rfl⟩⟩
      exact ⟨T, t1, t2, rfl, rfl⟩
  case turn =>
    rintro i ⟨hi, lo⟩ z hz hst N' hN'
    have hnx : (x.take (i + 1)).foldl needsStep (0, 0) = needsStep (hi, lo) z := by rw [show (hi, lo) = _ from hst, List.take_add_one, hz, List.foldl_append]; rfl
    rw [hnx]
    by_cases h1 : z = 40
    · subst h1
      refine' Bl.cons (Ex.if1 (Tr.cmp ?f1 ?f2 (op_eq_str (a := [40]) (b := [40]) (decide_eq_true rfl)) rfl) (Xs.cons (Ex.aug (R := IsI (hi + 1)) ?f3 Ev.int iop_addI (Γ' := [("sign", IsL 1 [40]), ("low", IsI lo), ("text", IsL 1000 x)]) ?f4 rfl rfl rfl rfl) Xs.nil)) ?n2
      case f1 => walk_at "ev"
      case f2 => walk_at "ev"
      case f3 => walk_at "ev_in"
      case f4 => walk_at "sub"
      refine' Bl.cons (Ex.if0' (Tr.cmp ?f5 ?f6 (op_eq_str (a := [40]) (b := [41]) (ne1 (by decide))) rfl) rfl) (Bl.nil fun s' st => ⟨(hi + 1, lo), rfl, (fun q hq => nomatch hq), st.weak ?f7⟩)
      case f5 => walk_at "ev"
      case f6 => walk_at "ev"
      case f7 => walk_at "sub"
    refine' Bl.cons (Ex.if0' (Tr.cmp ?g1 ?g2 (op_eq_str (ne1 h1)) rfl) rfl) ?n3
    case g1 => walk_at "ev"
    case g2 => walk_at "ev"
    by_cases h2 : z = 41
    · subst h2
      refine' Bl.cons (Ex.if1 (Tr.cmp ?k1 ?k2 (op_eq_str (a := [41]) (b := [41]) (decide_eq_true rfl)) rfl) (Xs.cons (Ex.aug (R := IsI (hi - 1)) ?k3 Ev.int iop_subI (Γ' := [("low", IsI lo), ("text", IsL 1000 x)]) ?k4 rfl rfl rfl rfl) (Xs.cons (Ex.assign (Ev.fun2 Gmin ?k5 ?k6 (cn_min hh) rfl rfl rfl) (Γ' := [("high", IsI (hi - 1)), ("text", IsL 1000 x)]) ?k7 rfl rfl rfl rfl) Xs.nil)))
        (Bl.nil fun s' st => ⟨(hi - 1, min lo (hi - 1)), rfl, (fun q hq => nomatch hq), st.weak ?k8⟩)
      case k1 => walk_at "ev"
      case k2 => walk_at "ev"
      case k3 => walk_at "ev_in"
      case k4 => walk_at "sub"
      case k5 => walk_at "ev"
      case k6 => walk_at "ev"
      case k7 => walk_at "sub"
      case k8 => walk_at "sub"
    refine' Bl.cons (Ex.if0' (Tr.cmp ?g3 ?g4 (op_eq_str (ne1 h2)) rfl) rfl) (Bl.nil fun s' st => ⟨(hi, lo), ?g6, (fun q hq => nomatch hq), st.weak ?g5⟩)
    case g3 => walk_at "ev"
    case g4 => walk_at "ev"
    case g5 => walk_at "sub"
    case g6 => simp only [needsStep, if_neg h1, if_neg h2]
end Mine

end
section
open PySem PySem.W PySem.Calls PyProof.Rows
set_option linter.unusedVariables false
set_option maxRecDepth 100000
set_option maxHeartbeats 6000000
namespace Mine
def nowAt (c : Nat) (y : List Nat) (sv : List Int) : Nat → Int
  | 0 => 0
  | j + 1 => max (max (nowAt c y sv j) (sv.getD (j + 1) 0)) (sv.getD j 0 + (4 - substC c (y.getD j 0)))
def nowL (c : Nat) (y : List Nat) (sv : List Int) (n : Nat) : List Int := (List.range n).map (nowAt c y sv)
def priceF (x y : List Nat) : List Int := x.foldl (fun sv c => nowL c y sv (y.length + 1)) (List.replicate (y.length + 1) 0)
def priceM (x y : List Nat) : Int := 2 * (x.length : Int) + 2 * y.length - (priceF x y).getD y.length 0
theorem nowL_len (c : Nat) (y : List Nat) (sv : List Int) (n : Nat) : (nowL c y sv n).length = n := by simp [nowL]
theorem priceF_len (y : List Nat) (n : Nat) : ∀ (x : List Nat) (sv : List Int), sv.length = n → (x.foldl (fun sv c => nowL c y sv n) sv).length = n
  | [], sv, h => h
  | c :: r, sv, _ => priceF_len y n r _ (nowL_len c y sv n)
theorem nowL_step {c : Nat} {y : List Nat} {sv l : List Int} {j : Nat} {v : Int} (h : l = nowL c y sv (j + 1)) (hv : v = max (max (l.getD j 0) (sv.getD (j + 1) 0)) (sv.getD j 0 + (4 - substC c (y.getD j 0)))) : l ++ [v] = nowL c y sv (j + 1 + 1) := by
  have e : l.getD j 0 = nowAt c y sv j := by rw [h]; simp [nowL, List.getD_eq_getElem?_getD]
  rw [e] at hv
  have : v = nowAt c y sv (j + 1) := hv
  rw [h, this]
  simp [nowL, List.range_succ]
theorem beside0 {z d : Nat} (h : (S [z] == S [d]) = true) : (4 : Int) = 4 - substC z d := by unfold substC substS; rw [if_pos h]; rfl
theorem beside1 {z d : Nat} (h : (S [z] == S [d]) = false) (h2 : (Txt.lower (S [z]) == Txt.lower (S [d])) = true) : (3 : Int) = 4 - substC z d := by unfold substC substS; rw [if_neg (by rw [h]; exact Bool.false_ne_true), if_pos h2]; rfl
theorem beside2 {z d : Nat} (h : (S [z] == S [d]) = false) (h2 : (Txt.lower (S [z]) == Txt.lower (S [d])) = false) : (2 : Int) = 4 - substC z d := by unfold substC substS; rw [if_neg (by rw [h]; exact Bool.false_ne_true), if_neg (by rw [h2]; exact Bool.false_ne_true)]; rfl
theorem S1_le {z : Nat} : (S [z]).length ≤ 1000 := by rw [S_len]; exact Nat.le_of_ble_eq_true rfl
theorem price_fn (w : World) (x y : List Nat) (t u : Tok) (hx : x.length ≤ 1000) (hy : y.length ≤ 1000) :
   Fn PySem.Challenge.rw_rw0063_02.row.prog w (Mine.hd.heap_39 w.params) Mine.hd.view_39 77 1 [.str (S x) t, .str (S y) u] (isI (priceM x y)) := by
  k_fill
  refine' Fn.of_rt (n := 0) ?ho ?hcd ?hbd ?hlc [("one", IsL 1000 x), ("two", IsL 1000 y)] ?hΓ ?g1 ?g2 ?g3 ?g4 ?hr
  case ho => k_is
  case hcd => k_is
  case hbd => exact fun _ => BindsTo.of_eq rfl
  case hlc => exact locs rfl
  case g1 => exact rfl
  case g2 => exact rfl
  case g3 => exact rfl
  case g4 => decide
  case hΓ => simp only [Has, List.forall_mem_cons]; exact ⟨⟨_, rfl, ⟨t, rfl⟩, hx⟩, ⟨_, rfl, ⟨u, rfl⟩, hy⟩, fun _ h => nomatch h⟩
  case hr =>
  intro A L' g s R N
  refine letR R ?_
  intro c R
  have Glen : Gl c "len" (.builtin "len") := R.bi boot_len rfl (by decide) rfl rfl
  have Grange : Gl c "range" (.type "range") := R.bi boot_range rfl (by decide) rfl rfl
  have Gmax : Gl c "max" (.builtin "max") := R.bi boot_max rfl (by decide) rfl rfl
  have hh : c.A.handled = none := R.1
  refine Rt.of ?_
  refine' Bl.assignN (EvN.zeros (n := 1000 + 1) (k := y.length + 1) (Ev.addK ?e1 (Ev.kst (k := 1) rfl)) rfl rfl) ?n1 sub_refl rfl rfl rfl rfl
  case e1 => walk_at "ev"
  rintro _ _ ⟨D, t0, rfl, rfl⟩ hD
  refine' Bl.forStr (n := 1000) (ls := x) (a₀ := ((D, List.replicate (y.length + 1) (0, t0), 0) : Addr × List (Int × Tok) × Nat)) (fun i z => [("saved", IsV (.ref z.1)), ("one", IsL 1000 x), ("two", IsL 1000 y)]) (fun i z => [(z.1, lsI z.2.1 z.2.2)])
    (fun i z => z.2.1.map (·.1) = (x.take i).foldl (fun sv c => nowL c y sv (y.length + 1)) (List.replicate (y.length + 1) 0)) rfl hh ?e2 ?e3 (fun _ _ => rfl) ?turn ?done rfl rfl (fun _ => rfl)
  case e2 => walk_at "ev"
  case e3 => simp
  case done =>
    rintro ⟨D1, ls, n⟩ hls
    rw [List.take_length] at hls
    have hll : ls.length = y.length + 1 := by
      have := congrArg List.length hls
      rw [List.length_map, priceF_len y _ _ _ (List.length_replicate ..)] at this
      exact this
    refine' Bl.retAt (EvAt.subI (Ev.at (Ev.I (Ev.addK (n := 2 * 1000) (m := 2 * 1000) (Ev.mulK (n := 2) (m := 1000) (Ev.kst (k := 2) rfl) ?e4 rfl) (Ev.mulK (n := 2) (m := 1000) (Ev.kst (k := 2) rfl) ?e5 rfl)))) (EvAt.cellL ?e6 (.head _) (by omega) (by omega) rfl (fun _ => rfl))) ?e7 (fun q hq => .tail _ hq)
    case e4 => walk_at "ev"
    case e5 => walk_at "ev"
    case e6 => walk_at "ev"
    case e7 =>
      rintro v ⟨t, rfl⟩
      exact ⟨⟨t, by rw [hls, hll, Nat.add_sub_cancel]; rfl⟩, rfl⟩
  case turn =>
    rintro i ⟨D1, ls, n⟩ z hz hls N' hN'
    have hll : ls.length = y.length + 1 := by
      have := congrArg List.length hls
      rw [List.length_map, priceF_len y _ _ _ (List.length_replicate ..)] at this
      exact this
    have hst : (x.take (i + 1)).foldl (fun sv c => nowL c y sv (y.length + 1)) (List.replicate (y.length + 1) 0) = nowL z y (ls.map (·.1)) (y.length + 1) := by rw [show ls.map (·.1) = _ from hls, List.take_add_one, hz, List.foldl_append]; rfl
    rw [hst]
    refine' Bl.assignN (EvN.list1 (Ev.int (i := 0)) rfl) ?n2 sub_refl rfl rfl rfl rfl
    rintro _ _ ⟨D2, _, rfl, rfl, t2, rfl⟩ hD2
    show Bl c _ ((D2, lsI [(0, t2)] 0) :: (D1, lsI ls n) :: N') _ _
    refine' Bl.forRange (n := y.length) (m := 1000) (N := (D1, lsI ls n) :: N') (a₀ := (([(0, t2)], 0) : List (Int × Tok) × Nat)) (fun j a => [("now", IsV (.ref D2)), ("sign", IsL 1 [z]), ("saved", IsV (.ref D1)), ("one", IsL 1000 x), ("two", IsL 1000 y)]) (fun j a => [(D2, lsI a.1 a.2)])
      (fun j a => a.1.map (·.1) = nowL z y (ls.map (·.1)) (j + 1)) rfl hh Grange ?f1 rfl ?f7 ?f8 ?f9 ?f2 ?turn2 ?done2 rfl rfl rfl rfl (fun _ => rfl)
    case f1 => walk_at "ev"
    case f7 => exact rfl
    case f8 => intro i a a' _ _; rfl
    case f9 => intro i a; rfl
    case f2 => exact fun i a _ q hq r hr => by rw [List.mem_singleton.mp hq]; exact Nat.ne_of_lt (hD2 _ (.head _) r hr)
    case done2 =>
      rintro ⟨ls2, n2⟩ hls2
      refine' Bl.cons (Ex.assign ?f3 (Γ' := [("one", IsL 1000 x), ("two", IsL 1000 y)]) ?f4 rfl rfl rfl rfl) (Bl.nil fun s' st => ⟨(D2, ls2, n2), hls2, ?f5, st.led ?f6⟩)
      case f3 => walk_at "ev"
      case f4 => walk_at "sub"
      case f5 => exact fun q hq => .inr fun r hr => by rw [List.mem_singleton.mp hq]; exact hD2 _ (.head _) r (.tail _ hr)
      case f6 => exact fun q hq => (List.mem_cons.mp hq).elim (fun e => e ▸ .head _) (fun h => .tail _ (.tail _ h))
    case turn2 =>
      rintro j ⟨ls2, n2⟩ hj hls2 N'' hN'' hapN
      have hl2 : ls2.length = j + 1 := by have := congrArg List.length hls2; rwa [List.length_map, nowL_len] at this
      have hd : y.getD j 0 = y[j] := by simp [List.getD_eq_getElem?_getD, hj]
      have hsz2 : (iv ls2).toArray.size = ls2.length := by rw [List.size_toArray, iv_len]
      refine' Bl.cons (Ex.assign (P := IsI (4 - substC z y[j])) (Ev.ifexp (r := S [z] == S [y[j]]) (Tr.cmp (P := IsX (S [z])) (P' := IsX (S [y[j]])) (Ev.mono ?g1 IsL.X) (Ev.mono (Ev.item (n := 1000) ?g2 ?g3 hj rfl rfl (fun _ => rfl)) IsL.X) (op_eq_X rfl) rfl) (fun h1 => Ev.eqI Ev.int (beside0 h1))
        fun h1 => Ev.ifexp (r := Txt.lower (S [z]) == Txt.lower (S [y[j]])) (Tr.cmp (Ev.lower (Ev.mono ?g4 IsL.X) S1_le rfl) (Ev.lower (Ev.mono (Ev.item (n := 1000) ?g5 ?g6 hj rfl rfl (fun _ => rfl)) IsL.X) S1_le rfl) (op_eq_X rfl) rfl) (fun h2 => Ev.eqI Ev.int (beside1 h1 h2)) fun h2 => Ev.eqI Ev.int (beside2 h1 h2)) sub_refl rfl rfl rfl rfl) ?n3
      case g1 => walk_at "ev"
      case g2 => walk_at "ev"
      case g3 => walk_at "ev"
      case g4 => walk_at "ev"
      case g5 => walk_at "ev"
      case g6 => walk_at "ev"
      case' n3 => skip
      refine' Bl.append ?h1 (EvAt.fun3 Gmax (EvAt.cell (ls := ls2) (n := n2) (k := j) ?h2 (.head _) ?h3 (by omega) (by omega) rfl (fun _ => rfl)) (EvAt.cell (ls := ls) (n := n) (k := j + 1) ?h4 (.tail _ (hN'' _ (.head _))) (Ev.eqI (Ev.addI ?h5 Ev.int) ?h6) (by omega) (by omega) rfl (fun _ => rfl)) (EvAt.addI (EvAt.cell (ls := ls) (n := n) (k := j) ?h7 (.tail _ (hN'' _ (.head _))) ?h8 (by omega) (by omega) rfl (fun _ => rfl)) (Ev.at ?h9)) (cn_max3 hh) rfl rfl rfl rfl) (hapN (D2, _) (.head _)) (by omega) rfl rfl ?h10 rfl rfl
      case h1 => walk_at "ev"
      case h2 => walk_at "ev"
      case h3 => walk_at "ev"
      case h4 => walk_at "ev"
      case h5 => walk_at "ev"
      case h6 => exact rfl
      case h7 => walk_at "ev"
      case h8 => walk_at "ev"
      case h9 => walk_at "ev"
      case h10 =>
        rintro _ ⟨t, rfl⟩
        rw [iv_push1]
        refine' Bl.nil fun s' st => ⟨(ls2 ++ [(_, t)], n2 + 1), ?h11, st.weak ?h12⟩
        case h11 => rw [List.map_append]; exact nowL_step hls2 (by rw [hd])
        case h12 => walk_at "sub"
end Mine

end
section
open PySem PySem.W PySem.Calls PyProof.Rows
set_option linter.unusedVariables false
set_option maxRecDepth 100000
set_option maxHeartbeats 6000000
namespace Mine
def Okt (l : List Nat) : Prop := ∃ n, l = textL n
theorem Okt.len {l : List Nat} (h : Okt l) : 1 ≤ l.length ∧ l.length ≤ 3 := by
  obtain ⟨n, rfl⟩ := h
  rw [textL_len]
  omega
def Frm (x y f : List Nat) : Prop := f = ((x ++ y) ++ y) ++ x ∨ f = ((y ++ x) ++ x) ++ y
theorem Frm.len {x y f : List Nat} (h : Frm x y f) : f.length = 2 * x.length + 2 * y.length := by
  rcases h with rfl | rfl <;> simp only [List.length_append] <;> omega
def nA (l : List Nat) : Nat := (-(needsF l).2).toNat
def nB (l : List Nat) : Nat := ((needsF l).1 - (needsF l).2).toNat
def rep (n c : Nat) : List Nat := List.replicate n c
def gsz (x y : List Nat) : Nat := Nat.gcd x.length y.length
def sameB (x y : List Nat) : Bool := (S x == S (List.replicate (x.length / gsz x y) (x.take (gsz x y))).flatten) && (S y == S (List.replicate (y.length / gsz x y) (x.take (gsz x y))).flatten)
def dots : List Nat := [46, 46, 46]
structure Facts2 (x y f b : List Nat) : Prop where
  c1 : checkP (S (((rep (nA (((f ++ x) ++ y) ++ b)) 40 ++ [34, 92, 34, 41, 41, 40, 34]) ++ (((f ++ x) ++ y) ++ b)) ++ rep (nB (((f ++ x) ++ y) ++ b)) 41)) = true
  c2 : checkP (S (((rep (nA (((f ++ x) ++ y) ++ b)) 40 ++ (((f ++ y) ++ x) ++ b)) ++ [92, 40, 92, 40, 92, 41, 92, 92, 40, 41]) ++ rep (nB (((f ++ x) ++ y) ++ b)) 41)) = true
  c3 : checkP (S ((((rep (nA (((f ++ x) ++ y) ++ b)) 40 ++ [41]) ++ (((f ++ y) ++ x) ++ b)) ++ [40]) ++ rep (nB (((f ++ x) ++ y) ++ b)) 41)) = false
  c4 : checkP (S (((rep (nA (((f ++ x) ++ y) ++ b)) 40 ++ (((f ++ x) ++ y) ++ b)) ++ rep (nB (((f ++ x) ++ y) ++ b)) 41) ++ [40])) = false
  c5 : checkP (S (((rep (nA (x ++ y)) 40 ++ y) ++ x) ++ rep (nB (x ++ y)) 41)) = decide ((nA (y ++ x) : Int) ≤ (nA (x ++ y) : Int))
  e1 : ellM (S (((f ++ x) ++ y) ++ b)) (S (((f ++ y) ++ x) ++ b)) = sameB x y
  e2 : ellM (S ((x ++ dots) ++ y)) (S (y ++ x)) = sameB x y
  e3 : ellM (S ((((dots ++ x) ++ dots) ++ y) ++ dots)) (S (y ++ x)) = sameB x y
  e4 : ellM (S ((((f ++ y) ++ dots) ++ y) ++ b)) (S (((f ++ y) ++ x) ++ b)) = Txt.endswith (S x) (S y)
  e5 : ellM (S ((((f ++ x) ++ dots) ++ y) ++ b)) (S (((f ++ x) ++ y) ++ b)) = true
  e6 : ellM (S (((((f ++ x) ++ dots) ++ x) ++ y) ++ b)) (S (((f ++ x) ++ y) ++ b)) = false
  e7 : ellM (S (((f ++ x) ++ y) ++ b)) (S ((((f ++ x) ++ y) ++ b) ++ y)) = false
  e8 : ellM (S (((f ++ x) ++ y) ++ b)) (S (y ++ (((f ++ x) ++ y) ++ b))) = false
  l1 : levM x y (priceM x y) = priceM x y
  l2 : levM y x (priceM x y - 1) = priceM x y
  l3 : levM (((f ++ x) ++ y) ++ b) (((f ++ y) ++ x) ++ b) 0 = if sameB x y = true then 0 else 1
  l4 : levM (((f ++ x) ++ y) ++ b) (((f ++ y) ++ x) ++ b) (priceM (x ++ y) (y ++ x)) = priceM (x ++ y) (y ++ x)
  l5 : levM (((f ++ y) ++ x) ++ b) (((f ++ x) ++ y) ++ b) (priceM (x ++ y) (y ++ x) - 1) = priceM (x ++ y) (y ++ x)
end Mine

end
section
open PySem PySem.W PySem.Calls PyProof.Rows
set_option linter.unusedVariables false
namespace Mine
theorem substC_self (a : Nat) : substC a a = 0 := by unfold substC substS; simp
theorem substC_range (a b : Nat) : 0 ≤ substC a b ∧ substC a b ≤ 2 := by
  unfold substC substS
  split
  · omega
  · split <;> omega
theorem substC_pos {a b : Nat} (h : substC a b = 0) : a = b := by
  unfold substC substS at h
  split at h
  · rename_i h1; rw [S_beq] at h1; simpa using h1
  · split at h <;> omega
theorem substC_comm (a b : Nat) : substC a b = substC b a := by
  unfold substC substS
  rw [show (S [a] == S [b]) = (S [b] == S [a]) from Bool.beq_comm, show (Txt.lower (S [a]) == Txt.lower (S [b])) = (Txt.lower (S [b]) == Txt.lower (S [a])) from Bool.beq_comm]

/-- the distance, from the front -/
def ED : List Nat → List Nat → Int
  | [], b => 2 * b.length
  | a, [] => 2 * a.length
  | a :: as, b :: bs => min (min (ED as (b :: bs)) (ED (a :: as) bs) + 2) (ED as bs + substC a b)
theorem ED_nil (b : List Nat) : ED [] b = 2 * b.length := by unfold ED; rfl
theorem ED_nil' (a : List Nat) : ED a [] = 2 * a.length := by cases a <;> unfold ED <;> rfl
theorem ED_cons (a b : Nat) (as bs : List Nat) : ED (a :: as) (b :: bs) = min (min (ED as (b :: bs)) (ED (a :: as) bs) + 2) (ED as bs + substC a b) := by
  rw [ED]
theorem ED_comm : ∀ a b : List Nat, ED a b = ED b a
  | [], b => by rw [ED_nil, ED_nil']
  | a :: as, [] => by rw [ED_nil, ED_nil']
  | a :: as, b :: bs => by rw [ED_cons, ED_cons, ED_comm as (b :: bs), ED_comm (a :: as) bs, ED_comm as bs, substC_comm]; omega
theorem ED_up (c : Nat) (a b : List Nat) : ED (c :: a) b ≤ ED a b + 2 := by
  cases b with
  | nil => rw [ED_nil', ED_nil', List.length_cons]; omega
  | cons d b => rw [ED_cons]; omega
theorem ED_down (c : Nat) (a : List Nat) : ∀ b : List Nat, ED a b ≤ ED (c :: a) b + 2
  | [] => by rw [ED_nil', ED_nil', List.length_cons]; omega
  | d :: b => by
    have ih := ED_down c a b
    have := substC_range c d
    have h1 : ED a (d :: b) ≤ ED a b + 2 := by rw [ED_comm a, ED_comm a]; exact ED_up d b a
    rw [ED_cons]; omega
theorem ED_down' (c : Nat) (a b : List Nat) : ED a b ≤ ED a (c :: b) + 2 := by rw [ED_comm a, ED_comm a]; exact ED_down c b a
theorem ED_front (c : Nat) (a b : List Nat) : ED (c :: a) (c :: b) = ED a b := by
  have h1 := ED_down' c a b
  have h2 := ED_down c a b
  rw [ED_cons, substC_self]; omega
theorem ED_front' : ∀ (c a b : List Nat), ED (c ++ a) (c ++ b) = ED a b
  | [], a, b => rfl
  | c :: r, a, b => by rw [List.cons_append, List.cons_append, ED_front, ED_front']
theorem ED_one (c : Nat) : ∀ b : List Nat, ED [c] (b ++ [c]) = 2 * b.length
  | [] => by rw [List.nil_append, ED_front, ED_nil]
  | d :: b => by
    have := substC_range c d
    rw [List.cons_append, ED_cons, ED_one c b, ED_nil, ED_nil]
    simp only [List.length_cons, List.length_append, List.length_nil]
    omega
theorem ED_back (c : Nat) : ∀ a b : List Nat, ED (a ++ [c]) (b ++ [c]) = ED a b
  | [], b => by rw [List.nil_append, ED_one, ED_nil]
  | a :: as, [] => by rw [List.nil_append, ED_comm, ED_one, ED_nil']
  | a :: as, b :: bs => by
    have h1 := ED_back c as (b :: bs)
    have h2 := ED_back c (a :: as) bs
    have h3 := ED_back c as bs
    rw [List.cons_append, List.cons_append] at *
    rw [ED_cons, h1, h2, h3, ED_cons]
termination_by a b => a.length + b.length
theorem ED_low : ∀ a b : List Nat, 2 * ((b.length : Int) - a.length) ≤ ED a b ∧ 2 * ((a.length : Int) - b.length) ≤ ED a b
  | [], b => by rw [ED_nil]; simp only [List.length_nil]; omega
  | a :: as, [] => by rw [ED_nil']; simp only [List.length_nil]; omega
  | a :: as, b :: bs => by
    have h1 := ED_low as (b :: bs)
    have h2 := ED_low (a :: as) bs
    have h3 := ED_low as bs
    have := substC_range a b
    rw [ED_cons]
    simp only [List.length_cons] at *
    omega
theorem ED_zero : ∀ a b : List Nat, ED a b ≤ 0 → a = b
  | [], b, h => by rw [ED_nil] at h; exact (List.eq_nil_of_length_eq_zero (by omega)).symm
  | a :: as, [], h => by rw [ED_nil'] at h; simp only [List.length_cons] at h; omega
  | a :: as, b :: bs, h => by
    have h1 := ED_low as (b :: bs)
    have h2 := ED_low (a :: as) bs
    have h3 := ED_low as bs
    have := substC_range a b
    rw [ED_cons] at h
    have h4 : ED as bs + substC a b ≤ 0 := by omega
    have h5 := ED_zero as bs (by omega)
    have h6 := substC_pos (a := a) (b := b) (by omega)
    rw [h5, h6]
/-- of the beginnings: i signs of p, j of q -/
def PD (p q : List Nat) (i j : Nat) : Int := ED (p.take i).reverse (q.take j).reverse
theorem take_rev {l : List Nat} {i : Nat} (h : i < l.length) : (l.take (i + 1)).reverse = l[i] :: (l.take i).reverse := by
  rw [List.take_add_one, List.getElem?_eq_getElem h]; simp
theorem PD_zero (p q : List Nat) (j : Nat) (h : j ≤ q.length) : PD p q 0 j = 2 * j := by
  unfold PD; rw [List.take_zero, List.reverse_nil, ED_nil, List.length_reverse, List.length_take]; omega
theorem PD_zero' (p q : List Nat) (i : Nat) (h : i ≤ p.length) : PD p q i 0 = 2 * i := by
  unfold PD; rw [List.take_zero, List.reverse_nil, ED_nil', List.length_reverse, List.length_take]; omega
theorem PD_step (p q : List Nat) {i j : Nat} (hi : i < p.length) (hj : j < q.length) : PD p q (i + 1) (j + 1) = min (min (PD p q i (j + 1)) (PD p q (i + 1) j) + 2) (PD p q i j + substC p[i] q[j]) := by
  unfold PD
  rw [take_rev hi, take_rev hj, ED_cons, ← take_rev hi, ← take_rev hj]
theorem PD_full (p q : List Nat) : PD p q p.length q.length = ED p.reverse q.reverse := by unfold PD; rw [List.take_length, List.take_length]
/-- a row is the row of beginnings -/
theorem rowRun_PD (p q : List Nat) {j : Nat} (hj : j < q.length) : ∀ (k i : Nat) (res mn : Int), i + k = p.length → min (res + 2) (PD p q i j + 2) = min (PD p q i (j + 1) + 2) (PD p q i j + 2) →
    (rowRun q[j] (p.drop i) (((List.range p.length).map fun t => PD p q (t + 1) j).drop i) (PD p q i j) res mn).1 = ((List.range p.length).map fun t => PD p q (t + 1) (j + 1)).drop i ∧
    (k = 0 → (rowRun q[j] (p.drop i) (((List.range p.length).map fun t => PD p q (t + 1) j).drop i) (PD p q i j) res mn).2.1 = res) ∧
    (1 ≤ k → (rowRun q[j] (p.drop i) (((List.range p.length).map fun t => PD p q (t + 1) j).drop i) (PD p q i j) res mn).2.1 = PD p q p.length (j + 1)) ∧
    (rowRun q[j] (p.drop i) (((List.range p.length).map fun t => PD p q (t + 1) j).drop i) (PD p q i j) res mn).2.2 ≤ mn ∧
    (∀ t, i < t → t ≤ p.length → (rowRun q[j] (p.drop i) (((List.range p.length).map fun t => PD p q (t + 1) j).drop i) (PD p q i j) res mn).2.2 ≤ PD p q t (j + 1)) ∧
    ((rowRun q[j] (p.drop i) (((List.range p.length).map fun t => PD p q (t + 1) j).drop i) (PD p q i j) res mn).2.2 = mn ∨ ∃ t, i < t ∧ t ≤ p.length ∧ (rowRun q[j] (p.drop i) (((List.range p.length).map fun t => PD p q (t + 1) j).drop i) (PD p q i j) res mn).2.2 = PD p q t (j + 1)) := by
  intro k
  induction k with
  | zero =>
    intro i res mn hk hr
    rw [List.drop_eq_nil_of_le (by omega : p.length ≤ i), List.drop_eq_nil_of_le (by simp; omega), List.drop_eq_nil_of_le (by simp; omega)]
    exact ⟨rfl, fun _ => rfl, fun h => by omega, Int.le_refl _, fun t h1 h2 => by omega, .inl rfl⟩
  | succ k ih =>
    intro i res mn hk hr
    have hi : i < p.length := by omega
    have e1 : ((List.range p.length).map fun t => PD p q (t + 1) j).drop i = PD p q (i + 1) j :: ((List.range p.length).map fun t => PD p q (t + 1) j).drop (i + 1) := by
      rw [List.drop_eq_getElem_cons (by simp; omega)]; simp
    have e2 : ((List.range p.length).map fun t => PD p q (t + 1) (j + 1)).drop i = PD p q (i + 1) (j + 1) :: ((List.range p.length).map fun t => PD p q (t + 1) (j + 1)).drop (i + 1) := by
      rw [List.drop_eq_getElem_cons (by simp; omega)]; simp
    have hs := PD_step p q hi hj
    have hsc := substC_comm p[i] q[j]
    have hsr := substC_range p[i] q[j]
    have hrr : min (min res (PD p q (i + 1) j) + 2) (PD p q i j + substC q[j] p[i]) = PD p q (i + 1) (j + 1) := by rw [hs, ← hsc]; omega
    rw [e1, e2, List.drop_eq_getElem_cons hi]
    simp only [rowRun]
    rw [hrr]
    have := ih (i + 1) (PD p q (i + 1) (j + 1)) (if PD p q (i + 1) (j + 1) < mn then PD p q (i + 1) (j + 1) else mn) (by omega) rfl
    obtain ⟨h1, h0', h2, h3, h4, h5⟩ := this
    generalize rowRun q[j] (p.drop (i + 1)) (((List.range p.length).map fun t => PD p q (t + 1) j).drop (i + 1)) (PD p q (i + 1) j) (PD p q (i + 1) (j + 1)) (if PD p q (i + 1) (j + 1) < mn then PD p q (i + 1) (j + 1) else mn) = R at *
    refine ⟨by rw [h1], fun h => by omega, fun _ => ?_, ?_, fun t ht1 ht2 => ?_, ?_⟩
    · rcases Nat.eq_zero_or_pos k with h0 | h0
      · rw [show p.length = i + 1 by omega]
        exact h0' h0
      · exact h2 h0
    · split at h3 <;> omega
    · rcases Nat.lt_or_ge (i + 1) t with h | h
      · exact h4 t h ht2
      · rw [show t = i + 1 by omega]
        split at h3 <;> omega
    · rcases h5 with h5 | ⟨t, ht1, ht2, h5⟩
      · split at h5
        · exact .inr ⟨i + 1, by omega, by omega, h5⟩
        · exact .inl h5
      · exact .inr ⟨t, by omega, ht2, h5⟩
theorem ED_le : ∀ a b : List Nat, ED a b ≤ 2 * ((a.length : Int) + b.length)
  | [], b => by rw [ED_nil]; simp only [List.length_nil]; omega
  | a :: as, b => by
    have h1 := ED_up a as b
    have h2 := ED_le as b
    rw [List.length_cons]; omega
def rowOf (p q : List Nat) (j : Nat) : List Int := (List.range p.length).map fun t => PD p q (t + 1) j
theorem PD_le (p q : List Nat) (i j : Nat) : PD p q i j ≤ 2 * ((p.length : Int) + q.length) := by
  unfold PD
  have := ED_le (p.take i).reverse (q.take j).reverse
  simp only [List.length_reverse, List.length_take] at this
  omega
theorem levRows_spec (p q : List Nat) (mx : Int) (hp : 1 ≤ p.length) (hp4 : p.length ≤ 40) (hq4 : q.length ≤ 40) : ∀ (k j : Nat) (res : Int), j + k = q.length → (k = 0 → res = PD p q p.length j) →
    (levRows mx p (q.drop j) j (rowOf p q j) res = mx + 1 ∧ ∃ j', j < j' ∧ j' ≤ q.length ∧ ∀ t, 1 ≤ t → t ≤ p.length → mx < PD p q t j') ∨
    (levRows mx p (q.drop j) j (rowOf p q j) res = PD p q p.length q.length ∧ ∀ j', j < j' → j' ≤ q.length → ∃ t, 1 ≤ t ∧ t ≤ p.length ∧ PD p q t j' ≤ mx) := by
  intro k
  induction k with
  | zero =>
    intro j res hk hr
    rw [List.drop_eq_nil_of_le (by omega : q.length ≤ j)]
    exact .inr ⟨by rw [show q.length = j by omega]; exact hr rfl, fun j' h1 h2 => by omega⟩
  | succ k ih =>
    intro j res hk hr
    have hj : j < q.length := by omega
    rw [levRows_at hj]
    have hz : PD p q 0 j = ((j : Int) * 2) := by rw [PD_zero p q j (by omega)]; omega
    have hz' : PD p q 0 (j + 1) = ((j : Int) * 2) + 2 := by rw [PD_zero p q (j + 1) (by omega)]; omega
    have hR := rowRun_PD p q hj p.length 0 ((j : Int) * 2) 9223372036854775807 (by omega) (by rw [hz, hz']; omega)
    rw [hz] at hR
    rw [show rowOf p q j = ((List.range p.length).map fun t => PD p q (t + 1) j) from rfl]
    rw [List.drop_zero, List.drop_zero, List.drop_zero] at hR
    obtain ⟨h1, _, h2, h3, h4, h5⟩ := hR
    generalize rowRun q[j] p ((List.range p.length).map fun t => PD p q (t + 1) j) ((j : Int) * 2) ((j : Int) * 2) 9223372036854775807 = R at *
    by_cases hb : R.2.2 > mx
    · rw [if_pos hb]
      exact .inl ⟨rfl, j + 1, by omega, by omega, fun t ht1 ht2 => by have := h4 t (by omega) ht2; omega⟩
    · rw [if_neg hb, h1]
      have hex : ∃ t, 1 ≤ t ∧ t ≤ p.length ∧ PD p q t (j + 1) ≤ mx := by
        rcases h5 with h5 | ⟨t, ht1, ht2, h5⟩
        · have := PD_le p q 1 (j + 1)
          exact ⟨1, Nat.le_refl _, hp, by omega⟩
        · exact ⟨t, by omega, ht2, by omega⟩
      rcases ih (j + 1) R.2.1 (by omega) (fun h0 => h2 hp) with ⟨a, j', b, c, d⟩ | ⟨a, b⟩
      · exact .inl ⟨a, j', by omega, c, d⟩
      · refine .inr ⟨a, fun j' hj1 hj2 => ?_⟩
        rcases Nat.lt_or_ge (j + 1) j' with h | h
        · exact b j' h hj2
        · rw [show j' = j + 1 by omega]; exact hex
theorem row_ok (p q : List Nat) (mx : Int) (hp : 1 ≤ p.length) {j : Nat} (hj : 1 ≤ j) (hjq : j ≤ q.length) (h : ∀ t, 1 ≤ t → t ≤ p.length → mx < PD p q t j) : ∀ d, j + d ≤ q.length → ∀ i, i ≤ p.length → mx < PD p q i (j + d) := by
  intro d
  induction d with
  | zero =>
    intro _ i hi
    rcases Nat.eq_zero_or_pos i with h0 | h0
    · subst h0
      have h1 := h 1 (Nat.le_refl _) hp
      obtain ⟨j', rfl⟩ : ∃ j', j = j' + 1 := ⟨j - 1, by omega⟩
      have hs := PD_step p q (i := 0) (j := j') (by omega) (by omega)
      have hsr := substC_range p[0] q[j']
      rw [PD_zero p q j' (by omega), Nat.zero_add] at hs
      rw [Nat.add_zero, PD_zero p q (j' + 1) (by omega)]
      omega
    · exact h i h0 hi
  | succ d ih =>
    intro hd i
    have ih' := ih (by omega)
    induction i with
    | zero =>
      intro _
      have := ih' 0 (Nat.zero_le _)
      rw [PD_zero p q _ (by omega)] at this ⊢
      omega
    | succ i ihi =>
      intro hi
      have hs := PD_step p q (i := i) (j := j + d) (by omega) (by omega)
      have hsr := substC_range p[i] q[j + d]
      have a1 := ihi (by omega)
      have a2 := ih' (i + 1) hi
      have a3 := ih' i (by omega)
      rw [show j + (d + 1) = j + d + 1 by omega] at a1 ⊢
      omega
theorem row0_PD (p q : List Nat) : row0 p.length = rowOf p q 0 := by
  unfold row0 rowOf
  refine List.map_congr_left fun t ht => ?_
  have := List.mem_range.mp ht
  rw [PD_zero' p q (t + 1) (by omega)]
  omega
theorem rows_all (p q : List Nat) (mx : Int) (hp : 1 ≤ p.length) (hp4 : p.length ≤ 40) (hq4 : q.length ≤ 40) (hpq : p.length ≤ q.length) :
    (ED p.reverse q.reverse ≤ mx → levRows mx p q 0 (row0 p.length) 0 = ED p.reverse q.reverse) ∧ (mx = ED p.reverse q.reverse - 1 → levRows mx p q 0 (row0 p.length) 0 = ED p.reverse q.reverse) ∧
    (p.length = q.length → p ≠ q → mx = 0 → levRows mx p q 0 (row0 p.length) 0 = 1) := by
  have hs := levRows_spec p q mx hp hp4 hq4 q.length 0 0 (by omega) (fun h => by omega)
  rw [List.drop_zero, ← row0_PD] at hs
  have hf := PD_full p q
  rcases hs with ⟨a, j', b, c, d⟩ | ⟨a, b⟩
  · have hr := row_ok p q mx hp b c d (q.length - j') (by omega) p.length (Nat.le_refl _)
    rw [show j' + (q.length - j') = q.length by omega, hf] at hr
    exact ⟨fun h => by omega, fun h => by omega, fun _ _ h => by omega⟩
  · refine ⟨fun _ => by rw [a, hf], fun _ => by rw [a, hf], fun h1 h2 h3 => ?_⟩
    exfalso
    obtain ⟨t, ht1, ht2, ht3⟩ := b q.length (by omega) (Nat.le_refl _)
    unfold PD at ht3
    have he := ED_zero _ _ (by omega : ED (p.take t).reverse (q.take q.length).reverse ≤ 0)
    have hl := congrArg List.length he
    simp only [List.length_reverse, List.length_take] at hl
    rw [show t = p.length by omega, List.take_length, List.take_length] at he
    exact h2 (by simpa using congrArg List.reverse he)
theorem levT_all (p q : List Nat) (mx : Int) (hp4 : p.length ≤ 40) (hq4 : q.length ≤ 40) :
    (ED p.reverse q.reverse ≤ mx → levT p q mx = ED p.reverse q.reverse) ∧ (mx = ED p.reverse q.reverse - 1 → levT p q mx = ED p.reverse q.reverse) ∧
    (p.length = q.length → p ≠ q → mx = 0 → levT p q mx = 1) := by
  by_cases h0 : p.length = 0 ∨ q.length = 0
  · have he : ED p.reverse q.reverse = 2 * ((p.length : Int) + q.length) := by
      rcases h0 with h | h
      · rw [List.eq_nil_of_length_eq_zero h, List.reverse_nil, ED_nil]; simp
      · rw [List.eq_nil_of_length_eq_zero h, List.reverse_nil, ED_nil']; simp
    rw [levT_a h0, he]
    refine ⟨fun _ => rfl, fun _ => rfl, fun h1 h2 => ?_⟩
    exact absurd ((List.eq_nil_of_length_eq_zero (by omega : p.length = 0)).trans (List.eq_nil_of_length_eq_zero (by omega : q.length = 0)).symm) h2
  · have hlow := ED_low p.reverse q.reverse
    rw [List.length_reverse, List.length_reverse] at hlow
    by_cases h1 : q.length < p.length
    · rw [levT_c (by omega) (by omega) h1]
      have := rows_all q p mx (by omega) hq4 hp4 (by omega)
      rw [ED_comm q.reverse] at this
      obtain ⟨a, b, _⟩ := this
      refine ⟨fun h => ?_, fun h => ?_, fun h => by omega⟩
      · rw [if_neg (by omega)]; exact a h
      · split
        · omega
        · exact b h
    · rw [levT_d (by omega) (by omega) h1]
      obtain ⟨a, b, c⟩ := rows_all p q mx (by omega) hp4 hq4 (by omega)
      refine ⟨fun h => ?_, fun h => ?_, fun h h2 h3 => ?_⟩
      · rw [if_neg (by omega)]; exact a h
      · split
        · omega
        · exact b h
      · rw [if_neg (by omega)]; exact c h h2 h3
theorem tp_split : ∀ a b : List Nat, ∃ c, a = c ++ (tp a b).1 ∧ b = c ++ (tp a b).2
  | [], b => ⟨[], by rw [tp_nil_left]; exact ⟨rfl, rfl⟩⟩
  | a :: as, [] => ⟨[], by rw [tp_nil_right]; exact ⟨rfl, rfl⟩⟩
  | a :: as, b :: bs => by
    by_cases h : a = b
    · obtain ⟨c, h1, h2⟩ := tp_split as bs
      refine ⟨a :: c, ?_, ?_⟩
      · simp only [tp]; rw [if_pos h, List.cons_append, ← h1]
      · simp only [tp]; rw [if_pos h, List.cons_append, ← h2, h]
    · refine ⟨[], ?_, ?_⟩ <;> (simp only [tp]; rw [if_neg h]; rfl)
theorem trim_split (a b : List Nat) : ∃ c e, a = c ++ (trim a b).1 ++ e ∧ b = c ++ (trim a b).2 ++ e := by
  obtain ⟨c, h1, h2⟩ := tp_split a b
  obtain ⟨e, h3, h4⟩ := tp_split (tp a b).1.reverse (tp a b).2.reverse
  refine ⟨c, e.reverse, ?_, ?_⟩
  · have := congrArg List.reverse h3
    rw [List.reverse_reverse, List.reverse_append] at this
    unfold trim
    rw [List.append_assoc, ← this, ← h1]
  · have := congrArg List.reverse h4
    rw [List.reverse_reverse, List.reverse_append] at this
    unfold trim
    rw [List.append_assoc, ← this, ← h2]
theorem ED_back' : ∀ (c a b : List Nat), ED (a ++ c) (b ++ c) = ED a b
  | [], a, b => by rw [List.append_nil, List.append_nil]
  | c :: r, a, b => by
    have := ED_back' r (a ++ [c]) (b ++ [c])
    rw [List.append_assoc, List.append_assoc] at this
    rw [show c :: r = [c] ++ r from rfl, this, ED_back]
theorem ED_mid (c a b e : List Nat) : ED (c ++ a ++ e).reverse (c ++ b ++ e).reverse = ED a.reverse b.reverse := by
  rw [List.reverse_append, List.reverse_append, List.reverse_append, List.reverse_append, ED_front', ED_back']
theorem levM_all (a b : List Nat) (mx : Int) (ha : a.length ≤ 40) (hb : b.length ≤ 40) :
    (ED a.reverse b.reverse ≤ mx → levM a b mx = ED a.reverse b.reverse) ∧ (mx = ED a.reverse b.reverse - 1 → levM a b mx = ED a.reverse b.reverse) ∧
    (a.length = b.length → mx = 0 → levM a b mx = if a = b then 0 else 1) := by
  by_cases h : a = b
  · subst h
    have h0 : ED a.reverse a.reverse = 0 := by
      have := ED_front' a.reverse [] []
      rw [List.append_nil, ED_nil] at this
      simpa using this
    unfold levM
    rw [h0, if_pos rfl]
    exact ⟨fun _ => rfl, fun _ => rfl, fun _ _ => by rw [if_pos rfl]⟩
  · obtain ⟨c, e, h1, h2⟩ := trim_split a b
    have hM : levM a b mx = levT (trim a b).1 (trim a b).2 mx := by unfold levM; rw [if_neg h]
    have hE : ED a.reverse b.reverse = ED (trim a b).1.reverse (trim a b).2.reverse := by
      have hE := ED_mid c (trim a b).1 (trim a b).2 e
      rw [← h1, ← h2] at hE
      exact hE
    have l1 := congrArg List.length h1
    have l2 := congrArg List.length h2
    simp only [List.length_append] at l1 l2
    obtain ⟨x, y, z⟩ := levT_all (trim a b).1 (trim a b).2 mx (by omega) (by omega)
    rw [hM, hE]
    refine ⟨x, y, fun h3 h4 => ?_⟩
    rw [if_neg h]
    refine z (by omega) (fun h5 => h ?_) h4
    rw [h5] at h1
    exact h1.trans h2.symm
theorem price_PD (x y : List Nat) : ∀ k, k ≤ x.length → (x.take k).foldl (fun sv c => nowL c y sv (y.length + 1)) (List.replicate (y.length + 1) 0) = (List.range (y.length + 1)).map fun (j : Nat) => 2 * (k : Int) + 2 * (j : Int) - PD x y k j := by
  intro k
  induction k with
  | zero =>
    intro _
    rw [List.take_zero, List.foldl_nil]
    refine List.ext_getElem (by simp) fun i h1 h2 => ?_
    simp at h1
    simp
    rw [PD_zero x y i (by omega)]
    omega
  | succ k ih =>
    intro hk
    have hk' : k < x.length := by omega
    rw [List.take_add_one, List.getElem?_eq_getElem hk', List.foldl_append, ih (by omega)]
    simp only [Option.toList_some, List.foldl_cons, List.foldl_nil]
    unfold nowL
    refine List.map_congr_left fun j hj => ?_
    replace hj := List.mem_range.mp hj
    clear ih
    induction j with
    | zero => rw [nowAt, PD_zero' x y (k + 1) (by omega)]; omega
    | succ j ihj =>
      have hs := PD_step x y (i := k) (j := j) hk' (by omega)
      rw [nowAt, ihj (by omega)]
      have g1 : ((List.range (y.length + 1)).map fun (j : Nat) => 2 * (k : Int) + 2 * (j : Int) - PD x y k j).getD (j + 1) 0 = 2 * (k : Int) + 2 * ((j + 1 : Nat) : Int) - PD x y k (j + 1) := by
        rw [List.getD_eq_getElem?_getD, List.getElem?_eq_getElem (by simp; omega)]; simp
      have g2 : ((List.range (y.length + 1)).map fun (j : Nat) => 2 * (k : Int) + 2 * (j : Int) - PD x y k j).getD j 0 = 2 * (k : Int) + 2 * (j : Int) - PD x y k j := by
        rw [List.getD_eq_getElem?_getD, List.getElem?_eq_getElem (by simp; omega)]; simp
      have g3 : y.getD j 0 = y[j] := by rw [List.getD_eq_getElem?_getD, List.getElem?_eq_getElem (by omega)]; rfl
      rw [g1, g2, g3, hs]
      omega
theorem priceM_ED (x y : List Nat) : priceM x y = ED x.reverse y.reverse := by
  have h := price_PD x y x.length (Nat.le_refl _)
  rw [List.take_length] at h
  unfold priceM priceF
  rw [h, List.getD_eq_getElem?_getD, List.getElem?_eq_getElem (by simp)]
  have := PD_full x y
  simp
  omega
end Mine

end
section
open PySem PySem.W PySem.Calls PyProof.Rows
open Builtin Builtin.Str
set_option linter.unusedVariables false
namespace Mine
def chkStep (st : Option Int) (c : Nat) : Option Int := match st with
  | none => none
  | some o => if c = 40 then some (o + 1) else if c = 41 then (if o - 1 < 0 then none else some (o - 1)) else some o
theorem chkStep_none : ∀ l : List Nat, l.foldl chkStep none = none
  | [] => rfl
  | _ :: r => chkStep_none r
theorem one_eq (c : Nat) : (⟨#[c]⟩ : Str) = S [c] := by rw [S_def]
theorem two_eq (c : Nat) : (⟨#[92]⟩ : Str) ++ ⟨#[c]⟩ = S [92, c] := by rw [one_eq, one_eq, S_app]; rfl
theorem lp40 : Str.ofString "(" = S [40] := by rw [S_def]; decide
theorem lp41 : Str.ofString ")" = S [41] := by rw [S_def]; decide
theorem lp34 : Str.ofString "\"" = S [34] := by rw [S_def]; decide
theorem checkStep_one (st : Option Int) (i c : Nat) : checkStep st (i, (⟨#[c]⟩ : Str)) = chkStep st c := by
  cases st with
  | none => rfl
  | some o =>
    simp only [checkStep, chkStep, one_eq, lp40, lp41, S_beq, List.cons.injEq, and_true, decide_eq_true_eq]
theorem checkStep_two (st : Option Int) (i c : Nat) : checkStep st (i, (⟨#[92]⟩ : Str) ++ ⟨#[c]⟩) = st := by
  cases st with
  | none => rfl
  | some o =>
    simp only [checkStep, two_eq, lp40, lp41, S_beq]
    simp
theorem tok_run : ∀ (u v : List Nat) (i : Nat) (st : Option Int), (∀ c ∈ u, c ≠ 92) → (tokList i false (u ++ v)).foldl checkStep st = (tokList (i + u.length) false v).foldl checkStep (u.foldl chkStep st)
  | [], v, i, st, _ => rfl
  | c :: r, v, i, st, h => by
    have hc : c ≠ 92 := h c (List.mem_cons_self ..)
    rw [List.cons_append, tokList, if_neg hc, List.foldl_cons, checkStep_one, tok_run r v (i + 1) _ (fun d hd => h d (List.mem_cons_of_mem _ hd)), List.foldl_cons, List.length_cons, show i + 1 + r.length = i + (r.length + 1) by omega]
theorem tok_all (u : List Nat) (i : Nat) (st : Option Int) (h : ∀ c ∈ u, c ≠ 92) : (tokList i false u).foldl checkStep st = u.foldl chkStep st := by
  have := tok_run u [] i st h
  rw [List.append_nil] at this
  rw [this, tokList]; rfl
/-- needs of a text put together -/
theorem needs_run : ∀ (v : List Nat) (a b : Int), b ≤ a → v.foldl needsStep (a, b) = (a + (needsF v).1, min b (a + (needsF v).2)) := by
  intro v
  induction v with
  | nil => intro a b h; simp [needsF]; omega
  | cons c r ih =>
    intro a b h
    unfold needsF
    rw [List.foldl_cons, List.foldl_cons]
    by_cases h3 : c = 40
    · rw [show ∀ a b, needsStep (a, b) c = (a + 1, b) from fun _ _ => if_pos h3, show needsStep (0, 0) c = (0 + 1, 0) from if_pos h3, ih _ _ (by omega), ih _ _ (by omega)]
      refine Prod.ext ?_ ?_ <;> dsimp only <;> omega
    · by_cases h4 : c = 41
      · rw [show ∀ a b, needsStep (a, b) c = (a - 1, min b (a - 1)) from fun _ _ => (if_neg h3).trans (if_pos h4), show needsStep (0, 0) c = (0 - 1, min 0 (0 - 1)) from (if_neg h3).trans (if_pos h4), ih _ _ (by omega), ih _ _ (by omega)]
        refine Prod.ext ?_ ?_ <;> dsimp only <;> omega
      · rw [show ∀ a b, needsStep (a, b) c = (a, b) from fun _ _ => (if_neg h3).trans (if_neg h4), show needsStep (0, 0) c = (0, 0) from (if_neg h3).trans (if_neg h4), ih _ _ (by omega), ih _ _ (by omega)]
        refine Prod.ext ?_ ?_ <;> dsimp only <;> omega
theorem needs_app (u v : List Nat) : (needsF (u ++ v)).1 = (needsF u).1 + (needsF v).1 ∧ (needsF (u ++ v)).2 = min (needsF u).2 ((needsF u).1 + (needsF v).2) := by
  have hle : (needsF u).2 ≤ (needsF u).1 := by
    have : ∀ (x : List Nat) (a b : Int), b ≤ a → (x.foldl needsStep (a, b)).2 ≤ (x.foldl needsStep (a, b)).1 := by
      intro x
      induction x with
      | nil => intro a b h; exact h
      | cons c r ih =>
        intro a b h
        rw [List.foldl_cons]
        by_cases h3 : c = 40
        · rw [show needsStep (a, b) c = (a + 1, b) from if_pos h3]; exact ih _ _ (by omega)
        · by_cases h4 : c = 41
          · rw [show needsStep (a, b) c = (a - 1, min b (a - 1)) from (if_neg h3).trans (if_pos h4)]; exact ih _ _ (by omega)
          · rw [show needsStep (a, b) c = (a, b) from (if_neg h3).trans (if_neg h4)]; exact ih _ _ h
    exact this u 0 0 (Int.le_refl _)
  have : needsF (u ++ v) = ((needsF u).1 + (needsF v).1, min (needsF u).2 ((needsF u).1 + (needsF v).2)) := by
    conv => lhs; unfold needsF
    rw [List.foldl_append, show u.foldl needsStep (0, 0) = ((needsF u).1, (needsF u).2) from rfl, needs_run v _ _ hle]
  rw [this]
  exact ⟨rfl, rfl⟩
theorem needs_le (u : List Nat) : (needsF u).2 ≤ 0 ∧ (needsF u).2 ≤ (needsF u).1 := by
  have h := needs_run u 0 0 (Int.le_refl _)
  have h0 : needsF u = u.foldl needsStep (0, 0) := rfl
  rw [← h0] at h
  have h2 := congrArg Prod.snd h
  dsimp only at h2
  refine ⟨by omega, ?_⟩
  have h3 := needs_app u []
  have h4 : needsF [] = (0, 0) := rfl
  rw [List.append_nil, h4] at h3
  omega
theorem chk_run : ∀ (l : List Nat) (o : Int), 0 ≤ o → l.foldl chkStep (some o) = if o + (needsF l).2 < 0 then none else some (o + (needsF l).1) := by
  intro l
  induction l with
  | nil => intro o h; simp [needsF]; omega
  | cons c r ih =>
    intro o h
    have ha := needs_app [c] r
    rw [show [c] ++ r = c :: r from rfl] at ha
    have hl := needs_le r
    rw [List.foldl_cons]
    by_cases h3 : c = 40
    · have h1 : needsF [c] = (1, 0) := by unfold needsF; rw [List.foldl_cons, show needsStep (0, 0) c = (0 + 1, 0) from if_pos h3]; rfl
      rw [h1] at ha
      rw [show chkStep (some o) c = some (o + 1) from if_pos h3, ih _ (by omega), ha.1, ha.2]
      dsimp only
      by_cases hq : o + 1 + (needsF r).2 < 0
      · rw [if_pos hq, if_pos (by omega)]
      · rw [if_neg hq, if_neg (by omega)]; congr 1; omega
    · by_cases h4 : c = 41
      · have h1 : needsF [c] = (-1, -1) := by unfold needsF; rw [List.foldl_cons, show needsStep (0, 0) c = (0 - 1, min 0 (0 - 1)) from (if_neg h3).trans (if_pos h4)]; rfl
        rw [h1] at ha
        rw [show chkStep (some o) c = (if o - 1 < 0 then none else some (o - 1)) from (if_neg h3).trans (if_pos h4), ha.1, ha.2]
        dsimp only
        by_cases hq : o - 1 < 0
        · rw [if_pos hq, chkStep_none, if_pos (by omega)]
        · rw [if_neg hq, ih _ (by omega)]
          by_cases hq2 : o - 1 + (needsF r).2 < 0
          · rw [if_pos hq2, if_pos (by omega)]
          · rw [if_neg hq2, if_neg (by omega)]; congr 1; omega
      · have h1 : needsF [c] = (0, 0) := by unfold needsF; rw [List.foldl_cons, show needsStep (0, 0) c = (0, 0) from (if_neg h3).trans (if_neg h4)]; rfl
        rw [h1] at ha
        rw [show chkStep (some o) c = some o from (if_neg h3).trans (if_neg h4), ih _ h, ha.1, ha.2]
        dsimp only
        by_cases hq : o + (needsF r).2 < 0
        · rw [if_pos hq, if_pos (by omega)]
        · rw [if_neg hq, if_neg (by omega)]; congr 1; omega
theorem needs_rep40 (n : Nat) : needsF (rep n 40) = ((n : Int), 0) := by
  induction n with
  | zero => rfl
  | succ n ih =>
    have ha := needs_app [40] (rep n 40)
    rw [ih, show needsF [40] = (1, 0) from rfl] at ha
    refine Prod.ext ?_ ?_
    · rw [show rep (n + 1) 40 = [40] ++ rep n 40 from rfl, ha.1]; dsimp only; omega
    · rw [show rep (n + 1) 40 = [40] ++ rep n 40 from rfl, ha.2]; dsimp only; omega
theorem needs_rep41 (n : Nat) : needsF (rep n 41) = (-(n : Int), -(n : Int)) := by
  induction n with
  | zero => rfl
  | succ n ih =>
    have ha := needs_app [41] (rep n 41)
    rw [ih, show needsF [41] = (-1, -1) from rfl] at ha
    refine Prod.ext ?_ ?_
    · rw [show rep (n + 1) 41 = [41] ++ rep n 41 from rfl, ha.1]; dsimp only; omega
    · rw [show rep (n + 1) 41 = [41] ++ rep n 41 from rfl, ha.2]; dsimp only; omega
/-- no quote: nothing is stripped -/
theorem At_S {l k : List Nat} {i : Nat} : StrLaws.At (S l) (S k) (S l).length i ↔ i + k.length ≤ l.length ∧ (l.drop i).take k.length = k := by
  unfold StrLaws.At
  rw [S_len, S_len, StrLaws.subAt_eq, S_len]
  simp [S_def]
theorem contains_S (l k : List Nat) : Txt.contains (S l) (S k) = true ↔ ∃ i, i + k.length ≤ l.length ∧ (l.drop i).take k.length = k := by
  unfold Txt.contains
  rw [StrLaws.found_iff]
  constructor
  · rintro ⟨i, h⟩; exact ⟨i, At_S.mp h⟩
  · rintro ⟨i, h⟩; exact ⟨i, At_S.mpr h⟩
theorem contains_one (l : List Nat) (c : Nat) : Txt.contains (S l) (S [c]) = true ↔ c ∈ l := by
  rw [contains_S]
  constructor
  · rintro ⟨i, h1, h2⟩
    have : c ∈ (l.drop i).take 1 := by rw [show (1 : Nat) = [c].length from rfl, h2]; simp
    exact List.mem_of_mem_drop (List.mem_of_mem_take this)
  · intro h
    obtain ⟨i, hi, he⟩ := List.getElem_of_mem h
    refine ⟨i, by simp; omega, ?_⟩
    rw [List.drop_eq_getElem_cons hi, he]; simp
theorem strip_none {l : List Nat} (h : 34 ∉ l) : stripQ (S l) = S l := by
  unfold stripQ
  rw [lp34, if_neg]
  rw [contains_one]
  exact h
theorem check_plain {l : List Nat} (h1 : 34 ∉ l) (h2 : 92 ∉ l) : checkP (S l) = decide (0 ≤ (needsF l).2 ∧ (needsF l).1 = 0) := by
  unfold checkP
  rw [strip_none h1, show (S l).cps.toList = l by rw [S_def], tok_all l 0 _ (fun c hc e => h2 (e ▸ hc)), chk_run l 0 (Int.le_refl _)]
  have := needs_le l
  by_cases h : 0 + (needsF l).2 < 0
  · rw [if_pos h]
    simp; omega
  · rw [if_neg h]
    have h3 : 0 ≤ (needsF l).2 := by omega
    simp [h3]
    rfl
theorem okt_mem {l : List Nat} (h : Okt l) : ∀ c ∈ l, c = 40 ∨ c = 41 ∨ c = 97 ∨ c = 65 := by
  obtain ⟨n, rfl⟩ := h
  intro c hc
  unfold textL at hc
  obtain ⟨k, _, rfl⟩ := List.mem_map.mp hc
  have : n / 3 / 4 ^ k % 4 < 4 := Nat.mod_lt _ (by decide)
  generalize n / 3 / 4 ^ k % 4 = d at this
  rcases (by omega : d = 0 ∨ d = 1 ∨ d = 2 ∨ d = 3) with rfl | rfl | rfl | rfl <;> simp
def Cln (l : List Nat) : Prop := ∀ c ∈ l, c = 40 ∨ c = 41 ∨ c = 97 ∨ c = 65
theorem Cln.app {u v : List Nat} (h : Cln u) (k : Cln v) : Cln (u ++ v) := fun c hc => (List.mem_append.mp hc).elim (h c) (k c)
theorem Cln.no {l : List Nat} (h : Cln l) {d : Nat} (hd : d ≠ 40 ∧ d ≠ 41 ∧ d ≠ 97 ∧ d ≠ 65) : d ∉ l := fun hm => by
  have := h d hm
  omega
theorem cln_rep40 (n : Nat) : Cln (rep n 40) := fun c hc => .inl (List.eq_of_mem_replicate hc)
theorem cln_rep41 (n : Nat) : Cln (rep n 41) := fun c hc => .inr (.inl (List.eq_of_mem_replicate hc))
theorem cln_40 : Cln [40] := fun c hc => .inl (List.mem_singleton.mp hc)
theorem cln_41 : Cln [41] := fun c hc => .inr (.inl (List.mem_singleton.mp hc))
theorem Frm.cln {x y f : List Nat} (h : Frm x y f) (hx : Cln x) (hy : Cln y) : Cln f := by
  rcases h with rfl | rfl
  · exact ((hx.app hy).app hy).app hx
  · exact ((hy.app hx).app hx).app hy
theorem Frm.needs {x y f : List Nat} (h : Frm x y f) : (needsF f).1 = 2 * (needsF x).1 + 2 * (needsF y).1 ∧
    ((needsF f).2 = min (min (min (needsF x).2 ((needsF x).1 + (needsF y).2)) ((needsF x).1 + (needsF y).1 + (needsF y).2)) ((needsF x).1 + (needsF y).1 + (needsF y).1 + (needsF x).2) ∨
     (needsF f).2 = min (min (min (needsF y).2 ((needsF y).1 + (needsF x).2)) ((needsF y).1 + (needsF x).1 + (needsF x).2)) ((needsF y).1 + (needsF x).1 + (needsF x).1 + (needsF y).2)) := by
  rcases h with rfl | rfl
  · have h1 := needs_app x y
    have h2 := needs_app (x ++ y) y
    have h3 := needs_app ((x ++ y) ++ y) x
    rw [h3.1, h3.2, h2.1, h2.2, h1.1, h1.2]
    exact ⟨by omega, .inl rfl⟩
  · have h1 := needs_app y x
    have h2 := needs_app (y ++ x) x
    have h3 := needs_app ((y ++ x) ++ x) y
    rw [h3.1, h3.2, h2.1, h2.2, h1.1, h1.2]
    exact ⟨by omega, .inr rfl⟩
theorem needs4 (f x y b : List Nat) : (needsF (((f ++ x) ++ y) ++ b)).1 = (needsF f).1 + (needsF x).1 + (needsF y).1 + (needsF b).1 ∧
    (needsF (((f ++ x) ++ y) ++ b)).2 = min (min (min (needsF f).2 ((needsF f).1 + (needsF x).2)) ((needsF f).1 + (needsF x).1 + (needsF y).2)) ((needsF f).1 + (needsF x).1 + (needsF y).1 + (needsF b).2) := by
  have h1 := needs_app f x
  have h2 := needs_app (f ++ x) y
  have h3 := needs_app ((f ++ x) ++ y) b
  rw [h3.1, h3.2, h2.1, h2.2, h1.1, h1.2]
  exact ⟨rfl, rfl⟩
theorem min_four {z a b c d : Int} (h : z = min (min (min a b) c) d) : z ≤ a ∧ z ≤ b ∧ z ≤ c ∧ z ≤ d := by
  subst h
  exact ⟨Int.le_trans (Int.le_trans (Int.min_le_left ..) (Int.min_le_left ..)) (Int.min_le_left ..), Int.le_trans (Int.le_trans (Int.min_le_left ..) (Int.min_le_left ..)) (Int.min_le_right ..), Int.le_trans (Int.min_le_left ..) (Int.min_le_right ..), Int.min_le_right ..⟩
theorem min_a {a b c d : Int} (h1 : a ≤ b) (h2 : a ≤ c) : min (min (min a b) c) d = min a d := by rw [Int.min_eq_left h1, Int.min_eq_left h2]
theorem min_d {a b c d : Int} (h1 : d ≤ b) (h2 : d ≤ c) : min (min (min a b) c) d = min a d := by omega
/-- Adjan -/
theorem adjan {x y f b : List Nat} (hf : Frm x y f) (hb : Frm x y b) : (needsF (((f ++ x) ++ y) ++ b)).1 = (needsF (((f ++ y) ++ x) ++ b)).1 ∧ (needsF (((f ++ x) ++ y) ++ b)).2 = (needsF (((f ++ y) ++ x) ++ b)).2 := by
  have h1 := needs4 f x y b
  have h2 := needs4 f y x b
  have nf := hf.needs
  have nb := hb.needs
  have lx := needs_le x
  have ly := needs_le y
  rw [h1.1, h1.2, h2.1, h2.2]
  clear h1 h2 hf hb
  generalize (needsF f).1 = f1 at *
  generalize (needsF f).2 = f2 at *
  generalize (needsF b).1 = b1 at *
  generalize (needsF b).2 = b2 at *
  generalize (needsF x).1 = x1 at *
  generalize (needsF x).2 = x2 at *
  generalize (needsF y).1 = y1 at *
  generalize (needsF y).2 = y2 at *
  obtain ⟨nf1, nf2⟩ := nf
  obtain ⟨nb1, nb2⟩ := nb
  refine ⟨by omega, ?_⟩
  subst nf1
  rcases Int.le_total 0 (x1 + y1) with hs | hs
  · have g : f2 ≤ 2 * x1 + 2 * y1 + x2 ∧ f2 ≤ 2 * x1 + 2 * y1 + x1 + y2 ∧ f2 ≤ 2 * x1 + 2 * y1 + y2 ∧ f2 ≤ 2 * x1 + 2 * y1 + y1 + x2 := by
      clear nb2
      rcases nf2 with nf2 | nf2
      · obtain ⟨k1, k2, k3, k4⟩ := min_four nf2
        clear nf2
        refine ⟨?_, ?_, ?_, ?_⟩ <;> omega
      · obtain ⟨k1, k2, k3, k4⟩ := min_four nf2
        clear nf2
        refine ⟨?_, ?_, ?_, ?_⟩ <;> omega
    clear nf2 nb2
    rw [min_a g.1 g.2.1, min_a g.2.2.1 g.2.2.2]
    congr 1
    omega
  · have g : x1 + y1 + b2 ≤ x2 ∧ x1 + y1 + b2 ≤ x1 + y2 ∧ x1 + y1 + b2 ≤ y2 ∧ x1 + y1 + b2 ≤ y1 + x2 := by
      clear nf2
      rcases nb2 with nb2 | nb2
      · obtain ⟨k1, k2, k3, k4⟩ := min_four nb2
        clear nb2
        refine ⟨?_, ?_, ?_, ?_⟩ <;> omega
      · obtain ⟨k1, k2, k3, k4⟩ := min_four nb2
        clear nb2
        refine ⟨?_, ?_, ?_, ?_⟩ <;> omega
    clear nf2 nb2
    obtain ⟨g1, g2, g3, g4⟩ := g
    rw [min_d (by omega) (by omega), min_d (by omega) (by omega)]
    congr 1
    omega
theorem nAB (l : List Nat) : ((nA l : Nat) : Int) = -(needsF l).2 ∧ ((nB l : Nat) : Int) = (needsF l).1 - (needsF l).2 := by
  have := needs_le l
  unfold nA nB
  omega
theorem plain_c345 {x y f b : List Nat} (hx : Cln x) (hy : Cln y) (hf : Frm x y f) (hb : Frm x y b) :
    checkP (S ((((rep (nA (((f ++ x) ++ y) ++ b)) 40 ++ [41]) ++ (((f ++ y) ++ x) ++ b)) ++ [40]) ++ rep (nB (((f ++ x) ++ y) ++ b)) 41)) = false ∧
    checkP (S (((rep (nA (((f ++ x) ++ y) ++ b)) 40 ++ (((f ++ x) ++ y) ++ b)) ++ rep (nB (((f ++ x) ++ y) ++ b)) 41) ++ [40])) = false ∧
    checkP (S (((rep (nA (x ++ y)) 40 ++ y) ++ x) ++ rep (nB (x ++ y)) 41)) = decide ((nA (y ++ x) : Int) ≤ (nA (x ++ y) : Int)) := by
  have cf := hf.cln hx hy
  have cb := hb.cln hx hy
  have c1 : Cln (((f ++ x) ++ y) ++ b) := ((cf.app hx).app hy).app cb
  have c2 : Cln (((f ++ y) ++ x) ++ b) := ((cf.app hy).app hx).app cb
  have ad := adjan hf hb
  generalize ((f ++ x) ++ y) ++ b = one at *
  generalize ((f ++ y) ++ x) ++ b = two at *
  have n1 := nAB one
  have l1 := needs_le one
  have q34 : (34 : Nat) ≠ 40 ∧ (34 : Nat) ≠ 41 ∧ (34 : Nat) ≠ 97 ∧ (34 : Nat) ≠ 65 := by decide
  have q92 : (92 : Nat) ≠ 40 ∧ (92 : Nat) ≠ 41 ∧ (92 : Nat) ≠ 97 ∧ (92 : Nat) ≠ 65 := by decide
  refine ⟨?_, ?_, ?_⟩
  · have cl : Cln ((((rep (nA one) 40 ++ [41]) ++ two) ++ [40]) ++ rep (nB one) 41) := ((((cln_rep40 _).app cln_41).app c2).app cln_40).app (cln_rep41 _)
    rw [check_plain (cl.no q34) (cl.no q92)]
    have h1 := needs_app (rep (nA one) 40) [41]
    have h2 := needs_app (rep (nA one) 40 ++ [41]) two
    have h3 := needs_app ((rep (nA one) 40 ++ [41]) ++ two) [40]
    have h4 := needs_app (((rep (nA one) 40 ++ [41]) ++ two) ++ [40]) (rep (nB one) 41)
    rw [needs_rep40, show needsF [41] = (-1, -1) from rfl] at h1
    rw [show needsF [40] = (1, 0) from rfl] at h3
    rw [needs_rep41] at h4
    dsimp only at h1 h3 h4
    rw [decide_eq_false_iff_not]
    omega
  · have cl : Cln (((rep (nA one) 40 ++ one) ++ rep (nB one) 41) ++ [40]) := (((cln_rep40 _).app c1).app (cln_rep41 _)).app cln_40
    rw [check_plain (cl.no q34) (cl.no q92)]
    have h1 := needs_app (rep (nA one) 40) one
    have h2 := needs_app (rep (nA one) 40 ++ one) (rep (nB one) 41)
    have h3 := needs_app ((rep (nA one) 40 ++ one) ++ rep (nB one) 41) [40]
    rw [needs_rep40] at h1
    rw [needs_rep41] at h2
    rw [show needsF [40] = (1, 0) from rfl] at h3
    dsimp only at h1 h2 h3
    rw [decide_eq_false_iff_not]
    omega
  · have cl : Cln (((rep (nA (x ++ y)) 40 ++ y) ++ x) ++ rep (nB (x ++ y)) 41) := (((cln_rep40 _).app hy).app hx).app (cln_rep41 _)
    rw [check_plain (cl.no q34) (cl.no q92)]
    have n2 := nAB (x ++ y)
    have n3 := nAB (y ++ x)
    have h1 := needs_app (rep (nA (x ++ y)) 40) (y ++ x)
    have h2 := needs_app (rep (nA (x ++ y)) 40 ++ (y ++ x)) (rep (nB (x ++ y)) 41)
    have h3 := needs_app x y
    have h4 := needs_app y x
    rw [needs_rep40] at h1
    rw [needs_rep41] at h2
    dsimp only at h1 h2
    rw [List.append_assoc (rep (nA (x ++ y)) 40) y x]
    refine decide_eq_decide.mpr ?_
    constructor
    · intro h; omega
    · intro h; omega
end Mine

end
section
open PySem PySem.W PySem.Calls PyProof.Rows
open Builtin Builtin.Str
set_option linter.unusedVariables false
namespace Mine
theorem tok_lit2 (i : Nat) (v : List Nat) : tokList i false ([92, 40, 92, 40, 92, 41, 92, 92, 40, 41] ++ v) = (i + 1, (⟨#[92]⟩ : Str) ++ ⟨#[40]⟩) :: (i + 3, (⟨#[92]⟩ : Str) ++ ⟨#[40]⟩) :: (i + 5, (⟨#[92]⟩ : Str) ++ ⟨#[41]⟩) :: (i + 7, (⟨#[92]⟩ : Str) ++ ⟨#[92]⟩) :: (i + 8, (⟨#[40]⟩ : Str)) :: (i + 9, (⟨#[41]⟩ : Str)) :: tokList (i + 10) false v := by
  simp [tokList]
theorem tok_lit1 (i : Nat) (v : List Nat) : tokList i false ([34, 92, 34, 41, 41, 40, 34] ++ v) = (i, (⟨#[34]⟩ : Str)) :: (i + 2, (⟨#[92]⟩ : Str) ++ ⟨#[34]⟩) :: (i + 3, (⟨#[41]⟩ : Str)) :: (i + 4, (⟨#[41]⟩ : Str)) :: (i + 5, (⟨#[40]⟩ : Str)) :: (i + 6, (⟨#[34]⟩ : Str)) :: tokList (i + 7) false v := by
  simp [tokList]
theorem plain_c2 {x y f b : List Nat} (hx : Cln x) (hy : Cln y) (hf : Frm x y f) (hb : Frm x y b) :
    checkP (S (((rep (nA (((f ++ x) ++ y) ++ b)) 40 ++ (((f ++ y) ++ x) ++ b)) ++ [92, 40, 92, 40, 92, 41, 92, 92, 40, 41]) ++ rep (nB (((f ++ x) ++ y) ++ b)) 41)) = true := by
  have cf := hf.cln hx hy
  have cb := hb.cln hx hy
  have c2 : Cln (((f ++ y) ++ x) ++ b) := ((cf.app hy).app hx).app cb
  have ad := adjan hf hb
  generalize ((f ++ x) ++ y) ++ b = one at *
  generalize ((f ++ y) ++ x) ++ b = two at *
  have n1 := nAB one
  have l1 := needs_le one
  have cu : Cln (rep (nA one) 40 ++ two) := (cln_rep40 _).app c2
  have cv := cln_rep41 (nB one)
  have q34 : (34 : Nat) ≠ 40 ∧ (34 : Nat) ≠ 41 ∧ (34 : Nat) ≠ 97 ∧ (34 : Nat) ≠ 65 := by decide
  have q92 : (92 : Nat) ≠ 40 ∧ (92 : Nat) ≠ 41 ∧ (92 : Nat) ≠ 97 ∧ (92 : Nat) ≠ 65 := by decide
  have h34 : 34 ∉ ((rep (nA one) 40 ++ two) ++ [92, 40, 92, 40, 92, 41, 92, 92, 40, 41]) ++ rep (nB one) 41 := by
    intro hm
    rcases List.mem_append.mp hm with hm | hm
    · rcases List.mem_append.mp hm with hm | hm
      · exact cu.no q34 hm
      · simp at hm
    · exact cv.no q34 hm
  unfold checkP
  rw [strip_none h34, show ∀ l, (S l).cps.toList = l from fun l => by rw [S_def], List.append_assoc, tok_run _ _ _ _ (fun c hc e => cu.no q92 (e ▸ hc)), tok_lit2, chk_run _ 0 (Int.le_refl _)]
  have h1 := needs_app (rep (nA one) 40) two
  rw [needs_rep40] at h1
  dsimp only at h1
  rw [if_neg (by omega)]
  simp only [List.foldl_cons, checkStep_two, checkStep_one]
  generalize ho : 0 + (needsF (rep (nA one) 40 ++ two)).1 = o
  have l2 := needs_le two
  rw [show chkStep (some o) 40 = some (o + 1) from rfl, show chkStep (some (o + 1)) 41 = some o by show (if o + 1 - 1 < 0 then none else some (o + 1 - 1)) = _; rw [if_neg (by omega)]; congr 1; omega]
  rw [tok_all _ _ _ (fun c hc e => cv.no q92 (e ▸ hc)), chk_run _ o (by omega), needs_rep41]
  dsimp only
  rw [if_neg (by omega)]
  simp
  omega
theorem stripStep_one (X : Str) (st : Int × Option Int × List Str) (i c : Nat) (h : c ≠ 34) : stripStep X st (i, (⟨#[c]⟩ : Str)) = st := by
  unfold stripStep
  rw [if_neg]
  rw [one_eq, lp34, S_beq]
  simpa using h
theorem stripStep_two (X : Str) (st : Int × Option Int × List Str) (i c : Nat) : stripStep X st (i, (⟨#[92]⟩ : Str) ++ ⟨#[c]⟩) = st := by
  unfold stripStep
  rw [if_neg]
  rw [two_eq, lp34, S_beq]
  simp
theorem strip_run (X : Str) : ∀ (u v : List Nat) (i : Nat) (st : Int × Option Int × List Str), (∀ c ∈ u, c ≠ 92 ∧ c ≠ 34) → (tokList i false (u ++ v)).foldl (stripStep X) st = (tokList (i + u.length) false v).foldl (stripStep X) st
  | [], v, i, st, _ => rfl
  | c :: r, v, i, st, h => by
    have hc := h c (List.mem_cons_self ..)
    rw [List.cons_append, tokList, if_neg hc.1, List.foldl_cons, stripStep_one X st i c hc.2, strip_run X r v (i + 1) _ (fun d hd => h d (List.mem_cons_of_mem _ hd)), List.length_cons, show i + 1 + r.length = i + (r.length + 1) by omega]
theorem strip_all (X : Str) (u : List Nat) (i : Nat) (st : Int × Option Int × List Str) (h : ∀ c ∈ u, c ≠ 92 ∧ c ≠ 34) : (tokList i false u).foldl (stripStep X) st = st := by
  have := strip_run X u [] i st h
  rw [List.append_nil] at this
  rw [this, tokList]; rfl
theorem slice_front (u w : List Nat) : Txt.slice (S (u ++ w)) (some 0) (some (u.length : Int)) = S u := by
  rw [eq_of_beq (slice_closesL (x := S (u ++ w)) (i := 0) (j := (u.length : Int)) (by omega) (by omega) (by rw [S_len, List.length_append]; omega)), S_def, S_def]
  simp
theorem strip_lit (u v : List Nat) (hu : ∀ c ∈ u, c ≠ 92 ∧ c ≠ 34) (hv : ∀ c ∈ v, c ≠ 92 ∧ c ≠ 34) (hv1 : 1 ≤ v.length) : stripQ (S ((u ++ [34, 92, 34, 41, 41, 40, 34]) ++ v)) = S (u ++ v) := by
  have hc : Txt.contains (S ((u ++ [34, 92, 34, 41, 41, 40, 34]) ++ v)) (Str.ofString "\"") = true := by
    rw [lp34, contains_one]; simp
  unfold stripQ
  rw [if_pos hc]
  have hst : ∀ X : Str, (tokList 0 false ((u ++ [34, 92, 34, 41, 41, 40, 34]) ++ v)).foldl (stripStep X) (0, none, []) = (((u.length + 6 : Nat) : Int) + 1, none, if (0 : Int) != ((u.length : Nat) : Int) then [Txt.slice X (some 0) (some (u.length : Int))] else []) := by
    intro X
    rw [List.append_assoc, strip_run X u _ 0 _ hu, tok_lit1]
    simp only [List.foldl_cons]
    have a1 : stripStep X (0, none, []) (0 + u.length, (⟨#[34]⟩ : Str)) = (0, some ((u.length : Nat) : Int), []) := by
      unfold stripStep; rw [if_pos (by rw [one_eq, lp34]; simp)]; simp
    have a2 : stripStep X (0, some ((u.length : Nat) : Int), []) (0 + u.length + 6, (⟨#[34]⟩ : Str)) = (((u.length + 6 : Nat) : Int) + 1, none, if (0 : Int) != ((u.length : Nat) : Int) then [Txt.slice X (some 0) (some (u.length : Int))] else []) := by
      unfold stripStep; rw [if_pos (by rw [one_eq, lp34]; simp)]; simp
    rw [a1, stripStep_two, stripStep_one X _ _ 41 (by decide), stripStep_one X _ _ 41 (by decide), stripStep_one X _ _ 40 (by decide), a2, strip_all X v _ _ hv]
  rw [show ∀ l, (S l).cps.toList = l from fun l => by rw [S_def], hst]
  dsimp only
  rw [if_pos (by rw [S_len]; simp only [List.length_append, List.length_cons, List.length_nil]; omega)]
  have e1 : Txt.slice (S ((u ++ [34, 92, 34, 41, 41, 40, 34]) ++ v)) (some (((u.length + 6 : Nat) : Int) + 1)) none = S v := by
    have := slice_drop ((u ++ [34, 92, 34, 41, 41, 40, 34]) ++ v) (u.length + 7) (by simp only [List.length_append, List.length_cons, List.length_nil]; omega)
    rw [show ((u.length + 6 : Nat) : Int) + 1 = ((u.length + 7 : Nat) : Int) by omega, this]
    congr 1
    rw [List.drop_append, List.drop_eq_nil_of_le (by simp)]
    simp
  have e2 : Txt.slice (S ((u ++ [34, 92, 34, 41, 41, 40, 34]) ++ v)) (some 0) (some (u.length : Int)) = S u := by
    rw [List.append_assoc]; exact slice_front _ _
  rw [e1, e2]
  have j1 : ∀ a : List Nat, Txt.join (Str.ofString "") [S a] = S a := by
    intro a; unfold Txt.join glued; simp
  have j2 : ∀ a c : List Nat, Txt.join (Str.ofString "") [S a, S c] = S (a ++ c) := by
    intro a c
    unfold Txt.join glued
    simp [S_def]
    decide
  cases hz : ((0 : Int) != ((u.length : Nat) : Int)) with
  | true => simp only [if_true]; exact j2 u v
  | false =>
    have : u = [] := by
      simp at hz
      exact List.eq_nil_of_length_eq_zero (by omega)
    subst this
    simp only [Bool.false_eq_true, if_false]
    exact j1 v
theorem plain_c1 {x y f b : List Nat} (hx : Cln x) (hy : Cln y) (hx1 : 1 ≤ x.length) (hf : Frm x y f) (hb : Frm x y b) :
    checkP (S (((rep (nA (((f ++ x) ++ y) ++ b)) 40 ++ [34, 92, 34, 41, 41, 40, 34]) ++ (((f ++ x) ++ y) ++ b)) ++ rep (nB (((f ++ x) ++ y) ++ b)) 41)) = true := by
  have cf := hf.cln hx hy
  have cb := hb.cln hx hy
  have c1 : Cln (((f ++ x) ++ y) ++ b) := ((cf.app hx).app hy).app cb
  have hl : 1 ≤ (((f ++ x) ++ y) ++ b).length := by simp only [List.length_append]; omega
  generalize ((f ++ x) ++ y) ++ b = one at *
  have n1 := nAB one
  have l1 := needs_le one
  have cu := cln_rep40 (nA one)
  have cv : Cln (one ++ rep (nB one) 41) := c1.app (cln_rep41 _)
  have q34 : (34 : Nat) ≠ 40 ∧ (34 : Nat) ≠ 41 ∧ (34 : Nat) ≠ 97 ∧ (34 : Nat) ≠ 65 := by decide
  have q92 : (92 : Nat) ≠ 40 ∧ (92 : Nat) ≠ 41 ∧ (92 : Nat) ≠ 97 ∧ (92 : Nat) ≠ 65 := by decide
  have cl : Cln (rep (nA one) 40 ++ (one ++ rep (nB one) 41)) := cu.app cv
  have hs := strip_lit (rep (nA one) 40) (one ++ rep (nB one) 41) (fun c hc => ⟨fun e => cu.no q92 (e ▸ hc), fun e => cu.no q34 (e ▸ hc)⟩) (fun c hc => ⟨fun e => cv.no q92 (e ▸ hc), fun e => cv.no q34 (e ▸ hc)⟩) (by rw [List.length_append]; omega)
  have hp := check_plain (cl.no q34) (cl.no q92)
  have h1 := needs_app one (rep (nB one) 41)
  have h2 := needs_app (rep (nA one) 40) (one ++ rep (nB one) 41)
  rw [needs_rep41] at h1
  rw [needs_rep40] at h2
  dsimp only at h1 h2
  unfold checkP at hp ⊢
  rw [strip_none (cl.no q34)] at hp
  rw [List.append_assoc _ one, hs, hp]
  rw [decide_eq_true_eq]
  omega
end Mine

end
section
open PySem PySem.W PySem.Calls PyProof.Rows
open Builtin Builtin.Str
set_option linter.unusedVariables false
namespace Mine
theorem same_iff {x y : List Nat} (hx : 1 ≤ x.length ∧ x.length ≤ 3) (hy : 1 ≤ y.length ∧ y.length ≤ 3) : sameB x y = decide (x ++ y = y ++ x) := by
  unfold sameB
  rw [S_beq, S_beq, ← Bool.decide_and]
  refine decide_eq_decide.mpr ?_
  match x, hx with
  | [a], _ => match y, hy with
    | [d], _ => simp [gsz]; omega
    | [d, e], _ => simp [gsz]; omega
    | [d, e, f], _ => simp [gsz, List.replicate]; omega
  | [a, b], _ => match y, hy with
    | [d], _ => simp [gsz, List.replicate]; omega
    | [d, e], _ => simp [gsz]; omega
    | [d, e, f], _ => simp [gsz, List.replicate]; omega
  | [a, b, c], _ => match y, hy with
    | [d], _ => simp [gsz, List.replicate]; omega
    | [d, e], _ => simp [gsz, List.replicate]; omega
    | [d, e, f], _ => simp [gsz]; omega
theorem beq_dec (a b : List Nat) : (a == b) = decide (a = b) := by rw [Bool.eq_iff_iff]; simp
theorem ldots : Str.ofString "..." = S dots := by unfold dots; rw [S_def]; decide
theorem chain_det {s sub : Str} {hi : Nat} (hw : 1 ≤ sub.length) : ∀ (H : List Nat) (a : Nat) (l : List Nat) (f : Nat), (∀ k, a ≤ k → (StrLaws.At s sub hi k ↔ k ∈ H)) → H.Pairwise (fun p q => p + sub.length ≤ q) → (∀ h ∈ H, a ≤ h) → StrLaws.ChainG s sub hi a l f → (∀ k, f ≤ k → ¬ StrLaws.At s sub hi k) → l = H
  | [], a, [], f, _, _, _, _, _ => rfl
  | [], a, c :: r, f, hA, _, _, hc, _ => absurd ((hA c hc.1).mp hc.2.1) (by simp)
  | h :: H, a, [], f, hA, _, ha, hc, hf => by
    have e : f = a := hc
    exact absurd ((hA h (ha h (List.mem_cons_self ..))).mpr (List.mem_cons_self ..)) (hf h (by have := ha h (List.mem_cons_self ..); omega))
  | h :: H, a, c :: r, f, hA, hP, ha, hc, hf => by
    obtain ⟨h1, h2, h3, h4⟩ := hc
    have hh := (hA h (ha h (List.mem_cons_self ..))).mpr (List.mem_cons_self ..)
    have hm := (hA c h1).mp h2
    have hp := List.pairwise_cons.mp hP
    have hcge : h ≤ c := by
      rcases List.mem_cons.mp hm with e | e
      · omega
      · have := hp.1 c e; omega
    have e : c = h := by
      rcases Nat.lt_or_ge h c with q | q
      · exact absurd hh (h3 h (ha h (List.mem_cons_self ..)) q)
      · omega
    subst e
    rw [chain_det hw H (c + sub.length) r f (fun k hk => ?_) hp.2 hp.1 h4 hf]
    rw [hA k (by omega), List.mem_cons]
    exact ⟨fun q => q.resolve_left (by omega), .inr⟩
theorem split_of {L : List Nat} (H : List Nat) (hne : H ≠ []) (hA : ∀ k, (k + 3 ≤ L.length ∧ (L.drop k).take 3 = dots) ↔ k ∈ H) (hP : H.Pairwise (fun p q => p + 3 ≤ q)) :
    Txt.contains (S L) (S dots) = true ∧ Txt.split (S L) (S dots) = partsBetween (S L) H 3 := by
  have hd : (S dots).length = 3 := S_len dots
  obtain ⟨f, hch, hno⟩ := StrLaws.occ_tight (S L) (S dots) (by rw [hd]; omega)
  have hAt : ∀ k, StrLaws.At (S L) (S dots) (S L).length k ↔ k ∈ H := fun k => At_S.trans (hA k)
  have ho := chain_det (by rw [hd]; omega) H 0 _ f (fun k _ => hAt k) (by rw [hd]; exact hP) (fun _ _ => Nat.zero_le _) hch hno
  obtain ⟨h0, hm⟩ := List.exists_mem_of_ne_nil H hne
  have hlen : 3 ≤ L.length := by have := ((hA h0).mpr hm).1; omega
  refine ⟨(contains_S L dots).mpr ⟨h0, (hA h0).mpr hm⟩, ?_⟩
  have hk : ¬ Builtin.Str.strKind (S L) < Builtin.Str.strKind (S dots) := by
    rw [← ldots, show Builtin.Str.strKind (Str.ofString "...") = 1 by decide +kernel]
    unfold Builtin.Str.strKind
    split
    · omega
    · split <;> omega
  unfold Txt.split
  rw [ho, if_neg (by rw [S_len, hd]; simp only [hk, show ¬ L.length < 3 by omega, decide_false, Bool.or_self]; decide), if_neg (by cases H with | nil => exact absurd rfl hne | cons a r => simp), hd]
theorem strSub_S (l : List Nat) (i j : Nat) (h : j ≤ l.length) : strSub (S l) i j = S ((l.drop i).take (j - i)) := by
  have : (strSub (S l) i j).cps.toList = (l.drop i).take (j - i) := by
    unfold strSub
    simp [S_def]
  rw [← S_of (strSub (S l) i j), this]
theorem starts_S (g u : List Nat) : Txt.startswith (S g) (S u) = decide (u.length ≤ g.length ∧ g.take u.length = u) := by
  unfold Txt.startswith
  rw [StrLaws.subAt_eq, S_len, S_len, Nat.zero_add]
  simp [S_def, Bool.decide_and, beq_dec]
theorem ends_S (g u : List Nat) : Txt.endswith (S g) (S u) = decide (u.length ≤ g.length ∧ g.drop (g.length - u.length) = u) := by
  unfold Txt.endswith
  rw [StrLaws.subAt_eq, S_len, S_len, Nat.zero_add]
  by_cases h : u.length ≤ g.length
  · rw [show (S g).cps.toList = g by rw [S_def], show (S u).cps.toList = u by rw [S_def], List.take_of_length_le (by rw [List.length_drop]; omega)]
    simp [h, beq_dec]
  · simp [h]
theorem ell_eq {l k : List Nat} (h : 46 ∉ l) : ellM (S l) (S k) = decide (l = k) := by
  unfold ellM
  rw [ldots, if_neg, S_beq]
  rw [contains_S]
  rintro ⟨i, h1, h2⟩
  apply h
  have : 46 ∈ (l.drop i).take dots.length := by rw [h2]; unfold dots; simp
  exact List.mem_of_mem_drop (List.mem_of_mem_take this)
theorem dots_at {L : List Nat} {k : Nat} : (k + 3 ≤ L.length ∧ (L.drop k).take 3 = dots) ↔ L[k]? = some 46 ∧ L[k + 1]? = some 46 ∧ L[k + 2]? = some 46 := by
  constructor
  · rintro ⟨h1, h2⟩
    have e : ∀ j, j < 3 → L[k + j]? = dots[j]? := by
      intro j hj
      rw [← h2, List.getElem?_take_of_lt hj, List.getElem?_drop]
    exact ⟨e 0 (by decide), e 1 (by decide), e 2 (by decide)⟩
  · rintro ⟨h1, h2, h3⟩
    obtain ⟨l1, g1⟩ := List.getElem?_eq_some_iff.mp h1
    obtain ⟨l2, g2⟩ := List.getElem?_eq_some_iff.mp h2
    obtain ⟨l3, g3⟩ := List.getElem?_eq_some_iff.mp h3
    refine ⟨by omega, ?_⟩
    rw [List.drop_eq_getElem_cons l1, List.drop_eq_getElem_cons l2, List.drop_eq_getElem_cons l3, g1, g2, g3]
    rfl
theorem no46 {u : List Nat} (h : 46 ∉ u) (i : Nat) : u[i]? ≠ some 46 := fun e => h (List.mem_of_getElem? e)
theorem get_dots (j : Nat) : dots[j]? = some 46 ↔ j < 3 := by
  unfold dots
  constructor
  · intro h; have := (List.getElem?_eq_some_iff.mp h).1; simpa using this
  · intro h; rcases (by omega : j = 0 ∨ j = 1 ∨ j = 2) with rfl | rfl | rfl <;> rfl
theorem get_app (u v : List Nat) (i : Nat) : (u ++ v)[i]? = if i < u.length then u[i]? else v[i - u.length]? := by
  split
  · rename_i h; exact List.getElem?_append_left h
  · rename_i h; exact List.getElem?_append_right (by omega)
theorem split_one {u v : List Nat} (hu : 46 ∉ u) (hv : 46 ∉ v) : Txt.contains (S ((u ++ dots) ++ v)) (S dots) = true ∧ Txt.split (S ((u ++ dots) ++ v)) (S dots) = [S u, S v] := by
  have hA : ∀ k, (k + 3 ≤ ((u ++ dots) ++ v).length ∧ (((u ++ dots) ++ v).drop k).take 3 = dots) ↔ k ∈ [u.length] := by
    intro k
    have hpos : ∀ i, ((u ++ dots) ++ v)[i]? = some 46 ↔ u.length ≤ i ∧ i < u.length + 3 := by
      intro i
      have hd : dots.length = 3 := rfl
      rw [get_app, get_app, List.length_append, hd]
      split
      · split
        · constructor
          · intro h; exact absurd h (no46 hu i)
          · intro h; omega
        · rw [get_dots]; omega
      · constructor
        · intro h; exact absurd h (no46 hv _)
        · intro h; omega
    rw [dots_at, hpos, hpos, hpos, List.mem_singleton]
    omega
  obtain ⟨h1, h2⟩ := split_of [u.length] (by simp) hA (List.pairwise_singleton ..)
  refine ⟨h1, ?_⟩
  rw [h2]
  have hd : dots.length = 3 := rfl
  have e1 : strSub (S ((u ++ dots) ++ v)) 0 u.length = S u := by
    rw [strSub_S _ _ _ (by simp only [List.length_append]; omega)]
    congr 1
    simp [List.append_assoc]
  have e2 : strSub (S ((u ++ dots) ++ v)) (u.length + 3) (S ((u ++ dots) ++ v)).length = S v := by
    rw [S_len, strSub_S _ _ _ (Nat.le_refl _)]
    congr 1
    rw [List.drop_append, List.drop_eq_nil_of_le (by simp only [List.length_append]; omega)]
    simp [hd]
    exact List.take_of_length_le (by omega)
  show [strSub _ 0 u.length, strSub _ (u.length + 3) _] = _
  rw [e1, e2]
theorem ell2_one {v g : List Nat} {st : Int} (hv1 : 1 ≤ v.length) : ell2 (S g) [S v] st = if decide (v.length ≤ g.length ∧ g.drop (g.length - v.length) = v) = true then (if st > (g.length : Int) - v.length then false else true) else false := by
  have q1 : ([S v].getLastD Str.empty).length = v.length := S_len v
  unfold ell2
  rw [if_neg (by rw [q1]; omega)]
  show (if Txt.endswith (S g) (S v) = true then ell3 (S g) [] st ((S g).length - ((S v).length : Int)) else false) = _
  rw [S_len, S_len, ends_S]
  rfl
theorem ell_one {u v g : List Nat} (hu : 46 ∉ u) (hv : 46 ∉ v) (hu1 : 1 ≤ u.length) (hv1 : 1 ≤ v.length) :
    ellM (S ((u ++ dots) ++ v)) (S g) = decide (u.length + v.length ≤ g.length ∧ g.take u.length = u ∧ g.drop (g.length - v.length) = v) := by
  obtain ⟨h1, h2⟩ := split_one hu hv
  unfold ellM
  rw [ldots, if_pos h1, h2]
  have q0 : ([S u, S v].headD Str.empty).length = u.length := S_len u
  dsimp only
  rw [if_neg (by rw [q0]; omega)]
  show (if Txt.startswith (S g) (S u) = true then ell2 (S g) [S v] ((S u).length : Int) else false) = _
  rw [S_len, starts_S]
  rw [ell2_one hv1]
  by_cases c1 : u.length ≤ g.length ∧ g.take u.length = u
  · rw [if_pos (by simpa using c1)]
    by_cases c2 : v.length ≤ g.length ∧ g.drop (g.length - v.length) = v
    · rw [if_pos (by simpa using c2)]
      by_cases c3 : (u.length : Int) > (g.length : Int) - v.length
      · rw [if_pos c3]; symm; rw [decide_eq_false_iff_not]; omega
      · rw [if_neg c3]; symm; rw [decide_eq_true_eq]; exact ⟨by omega, c1.2, c2.2⟩
    · rw [if_neg (by simpa using c2)]; symm; rw [decide_eq_false_iff_not]; rintro ⟨a, b, c⟩; exact c2 ⟨by omega, c⟩
  · rw [if_neg (by simpa using c1)]; symm; rw [decide_eq_false_iff_not]; rintro ⟨a, b, c⟩; exact c1 ⟨by omega, b⟩
end Mine

end
section
open PySem PySem.W PySem.Calls PyProof.Rows
open Builtin Builtin.Str
set_option linter.unusedVariables false
namespace Mine
theorem range_pre {i n a : Nat} {pre post : List Nat} (h : List.range' i n = pre ++ a :: post) : ∀ k, i ≤ k → k < a → k ∈ pre := by
  intro k hi hk
  have hL : n = pre.length + (post.length + 1) := by
    have := congrArg List.length h
    simpa using this
  have hlen : i + pre.length = a := by
    have h1 : (List.range' i n)[pre.length]? = some a := by rw [h]; simp
    rw [List.getElem?_range' (by omega)] at h1
    simpa using h1
  have h2 : (List.range' i n)[k - i]? = pre[k - i]? := by rw [h, List.getElem?_append_left (by omega)]
  rw [List.getElem?_range' (by omega)] at h2
  have h3 : pre[k - i]? = some k := by rw [← h2]; congr 1; omega
  exact List.mem_of_getElem? h3
def Hit (g w : List Nat) (k : Nat) : Prop := k + w.length ≤ g.length ∧ (g.drop k).take w.length = w
theorem find4_spec (g w : List Nat) (i : Nat) (hi : i ≤ g.length) :
    (find4 (S g) (S w) (i : Int) (g.length : Int) = -1 ∧ ∀ k, i ≤ k → ¬ Hit g w k) ∨ ∃ p : Nat, find4 (S g) (S w) (i : Int) (g.length : Int) = (p : Int) ∧ i ≤ p ∧ Hit g w p ∧ ∀ k, i ≤ k → k < p → ¬ Hit g w k := by
  have hat : ∀ k, StrLaws.At (S g) (S w) (S g).length k ↔ Hit g w k := fun k => At_S
  have f1 : fromIndex (S g).length (i : Int) = i := by unfold fromIndex; rw [if_neg (by omega)]; omega
  have f2 : min (fromIndex (S g).length (g.length : Int)) (S g).length = (S g).length := by rw [S_len]; unfold fromIndex; rw [if_neg (by omega)]; omega
  unfold find4
  rw [f1, f2, StrLaws.occ_eq]
  rcases StrLaws.occ_first (S g) (S w) (S g).length 1 (Nat.le_refl _) (List.range' i ((S g).length + 1 - i)) i (fun k hk => by simp [List.mem_range'] at hk; omega) with ⟨h0, hn⟩ | ⟨pre, a, post, e, h0, ha, hn⟩
  · refine .inl ⟨by rw [h0], fun k hk hh => hn k ?_ ((hat k).mpr hh)⟩
    rw [S_len]
    have := hh.1
    rw [List.mem_range'_1]
    omega
  · refine .inr ⟨a, ?_, ?_, (hat a).mp ha, fun k h1 h2 hh => hn k (range_pre e k h1 h2) ((hat k).mpr hh)⟩
    · generalize (forIn (List.range' i ((S g).length + 1 - i)) ((#[] : Array Nat), i) (StrLaws.occBody (S g) (S w) (S g).length 1)).run.fst = arr at h0
      have h1 : arr.toList[0]? = some a := by simpa using h0
      cases hL : arr.toList with
      | nil => rw [hL] at h1; cases h1
      | cons b r => rw [hL] at h1; simp at h1; rw [h1]
    · have : a ∈ List.range' i ((S g).length + 1 - i) := by rw [e]; simp
      rw [List.mem_range'_1] at this
      exact this.1
theorem find4_nil (g : List Nat) (i : Nat) (hi : i ≤ g.length) : find4 (S g) (S []) (i : Int) (g.length : Int) = (i : Int) := by
  rcases find4_spec g [] i hi with ⟨_, h⟩ | ⟨p, h1, h2, _, h4⟩
  · exact absurd ⟨hi, by simp⟩ (h i (Nat.le_refl _))
  · rcases Nat.lt_or_ge i p with q | q
    · exact absurd ⟨hi, by simp⟩ (h4 i (Nat.le_refl _) q)
    · rw [h1, show p = i by omega]
theorem split_three {x y : List Nat} (hx : 46 ∉ x) (hy : 46 ∉ y) (hx1 : 1 ≤ x.length) (hy1 : 1 ≤ y.length) :
    Txt.contains (S ((((dots ++ x) ++ dots) ++ y) ++ dots)) (S dots) = true ∧ Txt.split (S ((((dots ++ x) ++ dots) ++ y) ++ dots)) (S dots) = [S [], S x, S y, S []] := by
  have hd : dots.length = 3 := rfl
  have hA : ∀ k, (k + 3 ≤ ((((dots ++ x) ++ dots) ++ y) ++ dots).length ∧ (((((dots ++ x) ++ dots) ++ y) ++ dots).drop k).take 3 = dots) ↔ k ∈ [0, x.length + 3, x.length + y.length + 6] := by
    intro k
    have hpos : ∀ i, ((((dots ++ x) ++ dots) ++ y) ++ dots)[i]? = some 46 ↔ i < 3 ∨ (x.length + 3 ≤ i ∧ i < x.length + 6) ∨ (x.length + y.length + 6 ≤ i ∧ i < x.length + y.length + 9) := by
      intro i
      rw [get_app, get_app, get_app, get_app]
      simp only [List.length_append, hd]
      split
      · split
        · split
          · split
            · rw [get_dots]; omega
            · constructor
              · intro h; exact absurd h (no46 hx _)
              · intro h; omega
          · rw [get_dots]; omega
        · constructor
          · intro h; exact absurd h (no46 hy _)
          · intro h; omega
      · rw [get_dots]; omega
    rw [dots_at, hpos, hpos, hpos]
    simp only [List.mem_cons, List.not_mem_nil, or_false]
    omega
  obtain ⟨h1, h2⟩ := split_of [0, x.length + 3, x.length + y.length + 6] (by simp) hA (by simp)
  refine ⟨h1, ?_⟩
  rw [h2]
  have hl : ((((dots ++ x) ++ dots) ++ y) ++ dots).length = x.length + y.length + 9 := by simp only [List.length_append, hd]; omega
  have e0 : strSub (S ((((dots ++ x) ++ dots) ++ y) ++ dots)) 0 0 = S [] := by
    rw [strSub_S _ _ _ (by omega)]; simp
  have e1 : strSub (S ((((dots ++ x) ++ dots) ++ y) ++ dots)) (0 + 3) (x.length + 3) = S x := by
    rw [strSub_S _ _ _ (by omega)]
    congr 1
    simp [dots]
  have e2 : strSub (S ((((dots ++ x) ++ dots) ++ y) ++ dots)) (x.length + 3 + 3) (x.length + y.length + 6) = S y := by
    rw [strSub_S _ _ _ (by omega)]
    congr 1
    rw [show (((dots ++ x) ++ dots) ++ y) ++ dots = ((dots ++ x) ++ dots) ++ (y ++ dots) by simp]
    rw [List.drop_append, List.drop_eq_nil_of_le (by simp only [List.length_append, hd]; omega), List.nil_append]
    rw [show x.length + 3 + 3 - ((dots ++ x) ++ dots).length = 0 by simp only [List.length_append, hd]; omega]
    rw [List.drop_zero, show x.length + y.length + 6 - (x.length + 3 + 3) = y.length by omega]
    simp
  have e3 : strSub (S ((((dots ++ x) ++ dots) ++ y) ++ dots)) (x.length + y.length + 6 + 3) (S ((((dots ++ x) ++ dots) ++ y) ++ dots)).length = S [] := by
    rw [S_len, strSub_S _ _ _ (Nat.le_refl _), List.drop_eq_nil_of_le (by omega)]; simp
  show [strSub _ 0 0, strSub _ (0 + 3) _, strSub _ (x.length + 3 + 3) _, strSub _ (x.length + y.length + 6 + 3) _] = _
  rw [e0, e1, e2, e3]
theorem ell_three {x y : List Nat} (hx : 46 ∉ x) (hy : 46 ∉ y) (hx1 : 1 ≤ x.length) (hy1 : 1 ≤ y.length) :
    ellM (S ((((dots ++ x) ++ dots) ++ y) ++ dots)) (S (y ++ x)) = decide (x ++ y = y ++ x) := by
  obtain ⟨h1, h2⟩ := split_three hx hy hx1 hy1
  unfold ellM
  rw [ldots, if_pos h1, h2]
  have q0 : ([S [], S x, S y, S []].headD Str.empty).length = 0 := S_len []
  dsimp only
  rw [if_pos q0]
  have q1 : ([S [], S x, S y, S []].getLastD Str.empty).length = 0 := S_len []
  unfold ell2
  rw [if_pos q1, S_len]
  unfold ell3
  rw [if_neg (by omega)]
  have hl : (y ++ x).length = y.length + x.length := List.length_append
  generalize hg : y ++ x = g at *
  have n0 := find4_nil g 0 (Nat.zero_le _)
  simp only [ellFind, S_len]
  rw [show ((0 : Int)) = ((0 : Nat) : Int) from rfl, n0, if_neg (by omega), show (((0 : Nat) : Int) + ((([] : List Nat).length : Nat) : Int)) = ((0 : Nat) : Int) by simp]
  have hcut : x ++ y = g ↔ Hit g x 0 ∧ Hit g y x.length := by
    constructor
    · intro h
      rw [← h]
      unfold Hit
      simp
    · rintro ⟨⟨a1, a2⟩, ⟨b1, b2⟩⟩
      rw [List.drop_zero] at a2
      rw [List.take_of_length_le (by rw [List.length_drop]; omega)] at b2
      have := List.take_append_drop x.length g
      rw [a2, b2] at this
      exact this
  rcases find4_spec g x 0 (Nat.zero_le _) with ⟨f1, f2⟩ | ⟨p, f1, f2, f3, f4⟩
  · rw [f1, if_pos (by omega)]
    symm; rw [decide_eq_false_iff_not, hcut]
    exact fun h => f2 0 (Nat.le_refl _) h.1
  · rw [f1, if_neg (by omega), show ((p : Int) + ((x.length : Nat) : Int)) = ((p + x.length : Nat) : Int) by omega]
    rcases find4_spec g y (p + x.length) f3.1 with ⟨g1, g2⟩ | ⟨r, g1, g2, g3, g4⟩
    · rw [g1, if_pos (by omega)]
      symm; rw [decide_eq_false_iff_not, hcut]
      rintro ⟨a, b⟩
      rcases Nat.eq_zero_or_pos p with hp | hp
      · subst hp; exact g2 x.length (by omega) b
      · exact f4 0 (Nat.le_refl _) hp a
    · have hr := g3.1
      have hp : p = 0 := by omega
      subst hp
      have hr2 : r = x.length := by omega
      subst hr2
      rw [g1, if_neg (by omega), show (((x.length : Nat) : Int) + ((y.length : Nat) : Int)) = ((x.length + y.length : Nat) : Int) by omega, find4_nil g _ (by omega), if_neg (by omega)]
      symm; rw [decide_eq_true_eq, hcut]
      exact ⟨f3, g3⟩
end Mine

end
section
open PySem PySem.W PySem.Calls PyProof.Rows
open Builtin Builtin.Str
set_option linter.unusedVariables false
namespace Mine
theorem plain2 {x y f b : List Nat} (hx : Okt x) (hy : Okt y) (hf : Frm x y f) (hb : Frm x y b) : Facts2 x y f b := by
  have cx : Cln x := okt_mem hx
  have cy : Cln y := okt_mem hy
  have cf := hf.cln cx cy
  have cb := hb.cln cx cy
  have lx := hx.len
  have ly := hy.len
  have lf := hf.len
  have lb := hb.len
  have q46 : (46 : Nat) ≠ 40 ∧ (46 : Nat) ≠ 41 ∧ (46 : Nat) ≠ 97 ∧ (46 : Nat) ≠ 65 := by decide
  have hs := same_iff lx ly
  obtain ⟨c3, c4, c5⟩ := plain_c345 cx cy hf hb
  have nx := cx.no q46
  have ny := cy.no q46
  have none := (((cf.app cx).app cy).app cb).no q46
  have hcan : (((f ++ x) ++ y) ++ b = ((f ++ y) ++ x) ++ b) ↔ x ++ y = y ++ x := by
    constructor
    · intro h
      have := List.append_cancel_right h
      rw [List.append_assoc, List.append_assoc] at this
      exact List.append_cancel_left this
    · intro h
      rw [List.append_assoc f x y, h, List.append_assoc f y x]
  have l1 : (((f ++ x) ++ y) ++ b).length = 5 * x.length + 5 * y.length := by simp only [List.length_append]; omega
  have l2 : (((f ++ y) ++ x) ++ b).length = 5 * x.length + 5 * y.length := by simp only [List.length_append]; omega
  have hE : ED (((f ++ x) ++ y) ++ b).reverse (((f ++ y) ++ x) ++ b).reverse = priceM (x ++ y) (y ++ x) := by
    rw [priceM_ED, List.append_assoc f x y, List.append_assoc f y x, ED_mid]
  have k1 := fun mx => levM_all x y mx (by omega) (by omega)
  have k2 := fun mx => levM_all y x mx (by omega) (by omega)
  have k3 := fun mx => levM_all (((f ++ x) ++ y) ++ b) (((f ++ y) ++ x) ++ b) mx (by omega) (by omega)
  have k4 := fun mx => levM_all (((f ++ y) ++ x) ++ b) (((f ++ x) ++ y) ++ b) mx (by omega) (by omega)
  refine ⟨plain_c1 cx cy lx.1 hf hb, plain_c2 cx cy hf hb, c3, c4, c5, ?_, ?_, ?_, ?_, ?_, ?_, ?_, ?_, ?_, ?_, ?_, ?_, ?_⟩
  · rw [ell_eq none, hs]
    exact decide_eq_decide.mpr hcan
  · rw [ell_one nx ny lx.1 ly.1, hs]
    refine decide_eq_decide.mpr ?_
    rw [List.length_append, show y.length + x.length - y.length = x.length by omega]
    constructor
    · rintro ⟨_, a, c⟩
      have := List.take_append_drop x.length (y ++ x)
      rw [a, c] at this
      exact this
    · intro h
      rw [← h]
      simp
      omega
  · rw [ell_three nx ny lx.1 ly.1, hs]
  · rw [show (((f ++ y) ++ dots) ++ y) ++ b = ((f ++ y) ++ dots) ++ (y ++ b) by simp, ell_one ((cf.app cy).no q46) ((cy.app cb).no q46) (by simp only [List.length_append]; omega) (by simp only [List.length_append]; omega), ends_S]
    refine decide_eq_decide.mpr ?_
    rw [l2]
    simp only [List.length_append]
    rw [show ((f ++ y) ++ x) ++ b = (f ++ y) ++ (x ++ b) by simp]
    have ht : ((f ++ y) ++ (x ++ b)).take (f.length + y.length) = f ++ y := by
      rw [show f.length + y.length = (f ++ y).length by simp]; exact List.take_left
    have hdr : ∀ d, d ≤ x.length → ((f ++ y) ++ (x ++ b)).drop ((f ++ y).length + d) = x.drop d ++ b := by
      intro d hd
      rw [List.drop_append, List.drop_eq_nil_of_le (by omega), List.nil_append, Nat.add_sub_cancel_left, List.drop_append_of_le_length hd]
    have hfy : (f ++ y).length = f.length + y.length := List.length_append
    constructor
    · rintro ⟨a, _, c⟩
      have hyx : y.length ≤ x.length := by omega
      refine ⟨hyx, ?_⟩
      rw [show 5 * x.length + 5 * y.length - (y.length + b.length) = (f ++ y).length + (x.length - y.length) by omega, hdr _ (by omega)] at c
      exact List.append_cancel_right c
    · rintro ⟨a, c⟩
      refine ⟨by omega, ht, ?_⟩
      rw [show 5 * x.length + 5 * y.length - (y.length + b.length) = (f ++ y).length + (x.length - y.length) by omega, hdr _ (by omega), c]
  · rw [show (((f ++ x) ++ dots) ++ y) ++ b = ((f ++ x) ++ dots) ++ (y ++ b) by simp, ell_one ((cf.app cx).no q46) ((cy.app cb).no q46) (by simp only [List.length_append]; omega) (by simp only [List.length_append]; omega)]
    rw [decide_eq_true_eq, show ((f ++ x) ++ y) ++ b = (f ++ x) ++ (y ++ b) by simp]
    refine ⟨by simp only [List.length_append]; omega, List.take_left, ?_⟩
    rw [List.length_append, Nat.add_sub_cancel]
    exact List.drop_left
  · rw [show ((((f ++ x) ++ dots) ++ x) ++ y) ++ b = ((f ++ x) ++ dots) ++ ((x ++ y) ++ b) by simp, ell_one ((cf.app cx).no q46) (((cx.app cy).app cb).no q46) (by simp only [List.length_append]; omega) (by simp only [List.length_append]; omega)]
    rw [decide_eq_false_iff_not, l1]
    simp only [List.length_append]
    omega
  · rw [ell_eq none, decide_eq_false_iff_not]
    intro h
    have := congrArg List.length h
    simp only [List.length_append] at this
    omega
  · rw [ell_eq none, decide_eq_false_iff_not]
    intro h
    have := congrArg List.length h
    simp only [List.length_append] at this
    omega
  · rw [priceM_ED]; exact (k1 _).1 (Int.le_refl _)
  · rw [priceM_ED, ED_comm]; exact (k2 _).2.1 rfl
  · rw [(k3 0).2.2 (by omega) rfl, hs]
    by_cases h : x ++ y = y ++ x
    · rw [if_pos (hcan.mpr h), if_pos (by simpa using h)]
    · rw [if_neg (fun q => h (hcan.mp q)), if_neg (by simpa using h)]
  · rw [← hE]; exact (k3 _).1 (Int.le_refl _)
  · rw [← hE, ED_comm]; exact (k4 _).2.1 rfl
end Mine

end
section
open PySem PySem.W PySem.Calls PyProof.Rows
set_option linter.unusedVariables false
set_option maxRecDepth 100000
set_option maxHeartbeats 6000000
namespace Mine
section
variable {prog : Program} {w : World} {A : Around} {E : Value → Shared → Prop} {s : Shared} {h₀ : Heap} {L r : Addr} {m : Str → Option Value} {news : List (Addr × Obj)}
end
theorem text_fn2 (w : World) (i : Int) (t : Tok) :
   Fn PySem.Challenge.rw_rw0063_02.row.prog w (Mine.hd.heap_39 w.params) Mine.hd.view_39 63 1 [.int i t] (fun v own => ∃ l t, Okt l ∧ v = .str (S l) t ∧ own = []) := by
  have := text_fn w i t
  intro loose mean mg mb dp un gd cn cs aa ccd cl outer A₀ base h₀ L m news s Q E B F X N T hk hd9 hu9 hret
  refine this loose mean mg mb dp un gd cn cs aa ccd cl outer A₀ base h₀ L m news s Q E B F X N T hk hd9 hu9 fun v own h' tk' hP F' N' hl => ?_
  obtain ⟨⟨t, rfl⟩, rfl⟩ := hP
  exact hret _ _ _ _ ⟨_, t, ⟨_, rfl⟩, rfl, rfl⟩ F' N' hl
theorem needsF_le (x : List Nat) : (needsF x).2 ≤ 0 ∧ (needsF x).2 ≤ (needsF x).1 ∧ -(x.length : Int) ≤ (needsF x).2 ∧ (needsF x).1 - (needsF x).2 ≤ x.length := by
  have : ∀ (x : List Nat) (a b : Int), b ≤ a → b ≤ 0 → (x.foldl needsStep (a, b)).2 ≤ 0 ∧ (x.foldl needsStep (a, b)).2 ≤ (x.foldl needsStep (a, b)).1 ∧ b - x.length ≤ (x.foldl needsStep (a, b)).2 ∧ (x.foldl needsStep (a, b)).1 - (x.foldl needsStep (a, b)).2 ≤ a - b + x.length := by
    intro x
    induction x with
    | nil => intro a b h1 h2; simp; omega
    | cons c r ih =>
      intro a b h1 h2
      rw [List.foldl_cons, List.length_cons]
      by_cases h3 : c = 40
      · rw [show needsStep (a, b) c = (a + 1, b) from if_pos h3]
        have := ih (a + 1) b (by omega) h2
        omega
      · by_cases h4 : c = 41
        · rw [show needsStep (a, b) c = (a - 1, min b (a - 1)) from (if_neg h3).trans (if_pos h4)]
          have := ih (a - 1) (min b (a - 1)) (by omega) (by omega)
          omega
        · rw [show needsStep (a, b) c = (a, b) from (if_neg h3).trans (if_neg h4)]
          have := ih a b h1 h2
          omega
  have := this x 0 0 (by omega) (by omega)
  unfold needsF
  omega
theorem needs_fn2 (w : World) (x : Str) (l : List Nat) (t : Tok) (hX : x = S l) (hl : l.length ≤ 1000) :
   Fn PySem.Challenge.rw_rw0063_02.row.prog w (Mine.hd.heap_39 w.params) Mine.hd.view_39 70 1 [.str x t] (fun v own => ∃ T t1 t2, v = .ref T ∧ own = [(T, tupOf [.int (nA l : Int) t1, .int (nB l : Int) t2])] ∧ nA l ≤ l.length ∧ nB l ≤ l.length) := by
  subst hX
  have := needs_fn w l t hl
  have hle := needsF_le l
  intro loose mean mg mb dp un gd cn cs aa ccd cl outer A₀ base h₀ L m news s Q E B F X N T hk hd9 hu9 hret
  refine this loose mean mg mb dp un gd cn cs aa ccd cl outer A₀ base h₀ L m news s Q E B F X N T hk hd9 hu9 fun v own h' tk' hP F' N' hl => ?_
  obtain ⟨T, t1, t2, rfl, rfl⟩ := hP
  refine hret _ _ _ _ ⟨T, t1, t2, rfl, ?_, ?_, ?_⟩ F' N' hl
  · rw [show ((nA l : Nat) : Int) = -(needsF l).2 by unfold nA; omega, show ((nB l : Nat) : Int) = (needsF l).1 - (needsF l).2 by unfold nB; omega]
  · unfold nA; omega
  · unfold nB; omega
theorem lit40 : Str.ofString "(" = S [40] := by rw [S_def]; decide
theorem lit41 : Str.ofString ")" = S [41] := by rw [S_def]; decide
theorem litA : Str.ofString "\"\\\"))(\"" = S [34, 92, 34, 41, 41, 40, 34] := by rw [S_def]; decide
theorem litB : Str.ofString "\\(\\(\\)\\\\()" = S [92, 40, 92, 40, 92, 41, 92, 92, 40, 41] := by rw [S_def]; decide
theorem litD : Str.ofString "..." = S dots := by rw [S_def]; decide
theorem rep_flat (c : Nat) : ∀ k, (List.replicate k [c]).flatten = rep k c
  | 0 => rfl
  | k + 1 => by
    rw [List.replicate_succ, List.flatten_cons, rep_flat c k]; rfl
theorem check_fn2 (w : World) (x : Str) (l : List Nat) (b : Bool) (t : Tok) (hX : x = S l) (hb : checkP (S l) = b) (hl : l.length ≤ 1000) :
   FnG PySem.Challenge.rw_rw0063_02.row.prog w (Mine.hd.heap_39 w.params) Mine.hd.view_39 56 5 [.str x t] (fun v => v = .bool b) := by
  subst hX hb
  exact check_fn w (S l) t (by rw [S_len]; exact hl)
theorem ell_fn2 (w : World) (x y : Str) (l k : List Nat) (b : Bool) (t u : Tok) (hX : x = S l) (hY : y = S k) (hb : ellM (S l) (S k) = b) (hl : l.length ≤ 1000) (hk : k.length ≤ 1000) :
   Fn PySem.Challenge.rw_rw0063_02.row.prog w (Mine.hd.heap_39 w.params) Mine.hd.view_39 35 1 [.str x t, .str y u] (isB b) := by
  subst hX hY hb
  exact ell_fn w (S l) (S k) t u (by rw [S_len]; exact hl) (by rw [S_len]; exact hk)
@[reducible] noncomputable def cx (w : World) (A : Around) (env : Env) (g : Heap) (s₁ : Shared) (k : Bool) : Cx := ⟨PySem.Challenge.rw_rw0063_02.row.prog, w, A, env, g, s₁, Mine.hd.heap_39 w.params, k⟩
section
variable {w : World} {A : Around} {env : Env} {g : Heap} {s₁ : Shared} {k : Bool} {n m : Nat} {l j : List Nat} {b : Bool} {z : Int}
theorem cn_check (X : Fnc (cx w A env g s₁ false) Mine.hd.view_39 5) (hb : checkP (S l) = b) (hn : Nat.ble n 1000 = true) : ∀ vs, AllP [IsL n l] vs → Cn (cx w A env g s₁ false) (.ref 56) vs (IsB b) := fun vs hv => by
    obtain ⟨v1, rfl⟩ := lenP1 hv
    obtain ⟨⟨⟨t, rfl⟩, hl⟩, _⟩ := hv
    exact cn_fnG (check_fn2 w _ l b t rfl hb (Nat.le_trans hl (Nat.le_of_ble_eq_true hn))) X rfl rfl
theorem cn_ell (X : Fnc (cx w A env g s₁ k) Mine.hd.view_39 5) (hb : ellM (S l) (S j) = b) (hn : (Nat.ble n 1000 && Nat.ble m 1000) = true) : ∀ vs, AllP [IsL n l, IsL m j] vs → Cn (cx w A env g s₁ k) (.ref 35) vs (IsB b) := fun vs hv => by
    obtain ⟨v1, v2, rfl⟩ := lenP2 hv
    obtain ⟨⟨⟨t, rfl⟩, hl⟩, ⟨⟨u, rfl⟩, hj⟩, _⟩ := hv
    rw [Bool.and_eq_true] at hn
    exact cn_fn (ell_fn2 w _ _ l j b t u rfl rfl hb (Nat.le_trans hl (Nat.le_of_ble_eq_true hn.1)) (Nat.le_trans hj (Nat.le_of_ble_eq_true hn.2))) X rfl fun v own h => h.1
theorem cn_lev (X : Fnc (cx w A env g s₁ k) Mine.hd.view_39 5) {r : Int} (hr : levM l j z = r) (hn : (Nat.ble n 1000 && Nat.ble m 1000) = true) : ∀ vs, AllP [IsL n l, IsL m j, IsI z] vs → Cn (cx w A env g s₁ k) (.ref 28) vs (IsI r) := fun vs hv => by
    obtain ⟨v1, v2, v3, rfl⟩ := lenP3 hv
    obtain ⟨⟨⟨t, rfl⟩, hl⟩, ⟨⟨u, rfl⟩, hj⟩, ⟨v, rfl⟩, _⟩ := hv
    rw [Bool.and_eq_true] at hn
    subst hr
    exact cn_fn (lev_fn w l j z t u v (Nat.le_trans hl (Nat.le_of_ble_eq_true hn.1)) (Nat.le_trans hj (Nat.le_of_ble_eq_true hn.2))) X rfl fun v own h => h.1
theorem cn_price (X : Fnc (cx w A env g s₁ k) Mine.hd.view_39 5) (hn : (Nat.ble n 1000 && Nat.ble m 1000) = true) : ∀ vs, AllP [IsL n l, IsL m j] vs → Cn (cx w A env g s₁ k) (.ref 77) vs (IsI (priceM l j)) := fun vs hv => by
    obtain ⟨v1, v2, rfl⟩ := lenP2 hv
    obtain ⟨⟨⟨t, rfl⟩, hl⟩, ⟨⟨u, rfl⟩, hj⟩, _⟩ := hv
    rw [Bool.and_eq_true] at hn
    exact cn_fn (price_fn w l j t u (Nat.le_trans hl (Nat.le_of_ble_eq_true hn.1)) (Nat.le_trans hj (Nat.le_of_ble_eq_true hn.2))) X rfl fun v own h => h.1
theorem cn_needs (X : Fnc (cx w A env g s₁ k) Mine.hd.view_39 5) (hn : Nat.ble n 1000 = true) : ∀ vs, AllP [IsL n l] vs → CnN (cx w A env g s₁ k) (.ref 70) vs (fun v own => ∃ T a b, v = .ref T ∧ (T, tupOf [a, b]) ∈ own ∧ IsK n (nA l) a ∧ IsK n (nB l) b) := fun vs hv => by
    obtain ⟨v1, rfl⟩ := lenP1 hv
    obtain ⟨⟨⟨t, rfl⟩, hl⟩, _⟩ := hv
    exact fun Γ N s hs => wp_then (cnN_fn (needs_fn2 w _ l t rfl (Nat.le_trans hl (Nat.le_of_ble_eq_true hn))) X rfl Γ N s hs) (by
    rintro v s' ⟨own, ⟨T, t1, t2, rfl, rfl, h1, h2⟩, hl2, h3⟩
    exact ⟨_, ⟨T, _, _, rfl, List.mem_singleton.mpr rfl, ⟨⟨t1, rfl⟩, Nat.le_trans h1 hl⟩, ⟨⟨t2, rfl⟩, Nat.le_trans h2 hl⟩⟩, hl2, h3⟩)
theorem cn_text (X : Fnc (cx w A env g s₁ k) Mine.hd.view_39 5) : ∀ vs, AllP [AnyI] vs → Cn (cx w A env g s₁ k) (.ref 63) vs (fun v => ∃ l, Okt l ∧ IsL 3 l v) := fun vs hv => by
    obtain ⟨v1, rfl⟩ := lenP1 hv
    obtain ⟨⟨z, t, rfl⟩, _⟩ := hv
    exact cn_fn (text_fn2 w z t) X rfl (by
    rintro v own ⟨l, t, ok, rfl, _⟩
    exact ⟨l, ok, ⟨t, rfl⟩, ok.len.2⟩)
end
theorem Ev.par {c : Cx} {Γ : Tys} {a b : Expr} {p : Pos} {n m k d : Nat} (ha : Ev c Γ a (IsL n [d])) (hb : Ev c Γ b (IsK m k)) (hs : (Nat.ble n 1000 && Nat.ble m 1000) = true) : Ev c Γ (.BinOp a .Mult b p) (IsL (n * m) (rep k d)) := rep_flat d k ▸ Ev.mul ha hb hs
theorem all3 {α : Type} {p : α → Prop} {a b c : α} (h1 : p a) (h2 : p b) (h3 : p c) : ∀ r ∈ [a, b, c], p r := by
  simp only [List.forall_mem_cons]
  exact ⟨h1, h2, h3, by simp⟩
local macro_rules | `(tactic| walk_at "ev_lit") => `(tactic| first | exact lit40 | exact lit41 | exact litA | exact litB | exact litD)
local macro_rules | `(tactic| walk_at "ev") => `(tactic| first
  | ((with_reducible refine' Ev.par ?ea ?eb ?es); (case ea => walk_at "ev"); (case eb => walk_at "ev"); (case es => exact rfl))
  | ((with_reducible refine' Ev.fdiv ?ea ?eb ?ej ?es); (case ea => walk_at "ev"); (case eb => walk_at "ev"); (case ej => omega); (case es => exact rfl))
  | ((with_reducible refine' Ev.sub ?ea ?eb); (case ea => walk_at "ev"); (case eb => walk_at "ev")))
local macro_rules | `(tactic| walk_at "evp") => `(tactic| first
  | (with_reducible exact EvPs.nil)
  | ((with_reducible refine' EvPs.cons ?ea ?eb ?es); (case ea => walk_at "eva"); (case eb => walk_at "evp"); (case es => exact rfl)))
theorem len63 {vs : List Value} {ns : List Int} (_ : IntsAre vs ns) (h : ns.length ≤ 63) : ns.length ≤ 1000 := Nat.le_trans h (by decide)
theorem law_fn : PySem.Challenge.rw_rw0063_02.Holds := by
  refine hd ?_
  k_fill
  intro w s₀ s₁ mg mb G Y fa o pm cd doc dV kV ho hd1 hcd hD hmg hg0 args vals as hpre hlay hrd hwl hlo
  have KX := kIn_of Y
  have XX := (Ground.X G).1
  have V := (Ground.X G).2
  try w_nolog (first | (have GL := glob_more (Ground.glob G (by first | k_qdec | decide +kernel) (by first | k_qdec | decide +kernel)) V) | (have GL := glob_more (Ground.glob G (by decide +kernel)) V))
  refine Ground.open G ?_
  intro T B D TE TW
  try (refine guard_noD D (by decide +kernel) ?_; clear D)
  obtain ⟨_, _, M⟩ := bmod_of_top T
  have TA := at_of_top T
  try (obtain ⟨_, _, he, B0⟩ := based_of_top T rfl hmg ho hd1; have he' : cd = _ := he; subst he'; clear he)
  clear hmg
  wrow_args hpre hlay hrd hwl hlo
  first | refine callC_kw (enter_call ?_) | refine enter_call ?_ | refine callC_kw (enter_callW ?_) | refine enter_callW ?_ | w_how
  w_top on
  have K0 := below_caller (Top.heap T)
  w_call any ho hd1 hcd hD T F
  clear hd1 TA
  k_drop
  all_goals try k_fold
  with_reducible rename IntsAre _ _ => hI9
  with_reducible rename Heap.IsList _ _ _ => hL9
  with_reducible rename Fr _ _ _ _ => F0
  with_reducible rename News _ _ _ _ => N0
  have hb0 : AllBare s₁.gens := by intro y hy; rw [hg0] at hy; simp at hy
  have hns9 := len63 hI9 (by omega)
  refine' withB (c := cx w (callerA.deeper _) (envOf _ _ _ _ _) s₁.heap s₁ false) ?_
  intro c
  have X : Fnc c Mine.hd.view_39 5 := ⟨_, _, _, _, _, _, _, _, _, _, _, _, [], _, _, rfl, K0, KX, T, by decide, by ktr_room, by ktr_units⟩
  have hh : c.A.handled = none := rfl
  have hpy : ∀ s m, Fr c.g c.env.locals s.heap m → PySem.PylongRoom (model c.prog c.w) c.A s := fun s m F' => PySem.PylongRoom.of (T.nolimit.keeps F'.keep) (show callerA.depth + 1 + Builtin.pylongFrames < recursionLimit by decide)
  have Ftext : Fc c "_law_text" (.ref 63) := ⟨fun p s m Q E F h => nameX_K F KX (topRead_of T) rfl h rfl rfl (by decide), rfl, KX⟩
  have Fneeds : Fc c "_law_needs" (.ref 70) := ⟨fun p s m Q E F h => nameX_K F KX (topRead_of T) rfl h rfl rfl (by decide), rfl, KX⟩
  have Fcheck : Fc c "_check_parenthesis" (.ref 56) := ⟨fun p s m Q E F h => nameX_K F KX (topRead_of T) rfl h rfl rfl (by decide), rfl, KX⟩
  have Fell : Fc c "_ellipsis_match" (.ref 35) := ⟨fun p s m Q E F h => nameX_K F KX (topRead_of T) rfl h rfl rfl (by decide), rfl, KX⟩
  have Flev : Fc c "_levenshtein_distance" (.ref 28) := ⟨fun p s m Q E F h => nameX_K F KX (topRead_of T) rfl h rfl rfl (by decide), rfl, KX⟩
  have Fprice : Fc c "_law_price" (.ref 77) := ⟨fun p s m Q E F h => nameX_K F KX (topRead_of T) rfl h rfl rfl (by decide), rfl, KX⟩
  have Gsum : Gl c "sum" (.builtin "sum") := fun p s m Q E F h => nameX_B F KX (topRead_of T) rfl boot_sum (by decide) h rfl rfl (by decide)
  have Glen : Gl c "len" (.builtin "len") := fun p s m Q E F h => nameX_B F KX (topRead_of T) rfl boot_len (by decide) h rfl rfl (by decide)
  have Gtype : Gl c "type" (.type "type") := fun p s m Q E F h => nameX_B F KX (topRead_of T) rfl boot_type (by decide) h rfl rfl (by decide)
  have Gint : Gl c "int" (.type "int") := fun p s m Q E F h => nameX_B F KX (topRead_of T) rfl boot_int (by decide) h rfl rfl (by decide)
  refine Bl.run (c := c) (Γ := [("script", IsV (.ref _))]) (N := []) ?_ ⟨_, _, s₁.gens, _, rfl, fun _ => hb0, fun _ => rfl, F0, N0, fun q hq => by rw [List.mem_singleton.mp hq]; exact ⟨_, rfl, rfl⟩⟩
  refine' Bl.assignEx (R := Okt) (P := fun l => IsL 3 l) (Ev.at (Ev.call Ftext (EvA.cons (Ev.anyAdd (Ev.sumSlice Gsum ?s1 hL9 hI9 hns9 hh (by decide) rfl rfl rfl (fun _ => rfl)) Ev.int) EvA.nil rfl) (cn_text X) rfl rfl rfl)) ?na1 sub_refl rfl rfl rfl rfl
  case s1 => walk_at "ev"
  case' na1 => skip
  intro x okx
  refine' Bl.assignEx (R := Okt) (P := fun l => IsL 3 l) (Ev.at (Ev.call Ftext (EvA.cons (Ev.anyAdd (Ev.sumSlice Gsum ?s2 hL9 hI9 hns9 hh (by decide) rfl rfl rfl (fun _ => rfl)) Ev.int) EvA.nil rfl) (cn_text X) rfl rfl rfl)) ?na2 sub_refl rfl rfl rfl rfl
  case s2 => walk_at "ev"
  case' na2 => skip
  intro y oky
  refine' Bl.assignN (EvN.tup2 ?s3) ?na3 sub_refl rfl rfl rfl rfl
  case s3 => walk_at "eva"
  case' na3 => skip
  rintro _ _ ⟨T9, u, u', rfl, rfl, hu, hu'⟩ _
  have hfr : ∀ v, (v = u ∨ v = u') → ∃ f, Frm x y f ∧ IsL 12 f v := by
    rintro v (rfl | rfl)
    · exact ⟨_, .inl rfl, hu⟩
    · exact ⟨_, .inr rfl, hu'⟩
  refine' Bl.assignEx (R := Frm x y) (P := fun f => IsL 12 f) (EvAt.mono (EvAt.pair ?s4 (.head _) (Ev.anyMod (j := 2) (Ev.sum Gsum ?s5 hL9 hI9 hh rfl) Ev.int (by decide)) rfl) hfr) ?na4 sub_refl rfl rfl rfl rfl
  case s4 => walk_at "ev"
  case s5 => walk_at "ev"
  case' na4 => skip
  intro f frf
  refine' Bl.assignEx (R := Frm x y) (P := fun f => IsL 12 f) (EvAt.mono (EvAt.pair ?s6 (.head _) (Ev.anyMod (j := 2) (Ev.anyDiv (j := 2) (Ev.sum Gsum ?s7 hL9 hI9 hh rfl) Ev.int (by decide) hpy) Ev.int (by decide)) rfl) hfr) ?na5 sub_refl rfl rfl rfl rfl
  case s6 => walk_at "ev"
  case s7 => walk_at "ev"
  case' na5 => skip
  intro b frb
  refine' Bl.cons (Ex.swap2 ?s8 hh sub_refl rfl rfl rfl rfl rfl rfl rfl) ?na6
  case s8 => walk_at "eva"
  case' na6 => skip
  obtain ⟨c1, c2, c3, c4, c5, q1, q2, q3, q4, q5, q6, q7, q8, l1, l2, l3, l4, l5⟩ := plain2 okx oky frf frb
  have lx := okx.len
  have ly := oky.len
  refine Bl.weak (Γ₁ := [("x", IsL 3 x), ("y", IsL 3 y), ("front", IsL 12 f), ("back", IsL 12 b), ("one", IsL 30 (((f ++ x) ++ y) ++ b)), ("two", IsL 30 (((f ++ y) ++ x) ++ b))]) ?_ (Bl.led (N₁ := []) (fun _ q => nomatch q) ?_)
  · intro q hq
    simp only [List.mem_cons, List.not_mem_nil, or_false] at hq
    rcases hq with rfl | rfl | rfl | rfl | rfl | rfl
    · exact .tail _ (.tail _ (.tail _ (.tail _ (.tail _ (.tail _ (.head _))))))
    · exact .tail _ (.tail _ (.tail _ (.tail _ (.tail _ (.head _)))))
    · exact .tail _ (.tail _ (.tail _ (.head _)))
    · exact .tail _ (.tail _ (.head _))
    · exact .head _
    · exact .tail _ (.head _)
  refine' Bl.cons (Ex.unpack2 (EvN.call Fneeds ?ha1 ?hc1 rfl rfl rfl) ?hR1 rfl sub_refl rfl rfl rfl rfl rfl rfl rfl) ?nx1
  case ha1 => walk_at "eva"
  case hc1 => exact cn_needs X rfl
  case hR1 => exact fun v own h => h
  case' nx1 => skip
  refine' Bl.cons (Ex.if0 (Tr.cmp (Ev.call Fcheck ?ha2 ?hc2 rfl rfl rfl) Ev.bool ?ho2 rfl) Xs.nil) ?nx2
  case ha2 => walk_at "eva"
  case hc2 => exact cn_check X c1 rfl
  case ho2 => exact op_isnot rfl
  case' nx2 => skip
  refine' Bl.cons (Ex.if0 (Tr.cmp (Ev.call Fcheck ?ha3 ?hc3 rfl rfl rfl) Ev.bool ?ho3 rfl) Xs.nil) ?nx3
  case ha3 => walk_at "eva"
  case hc3 => exact cn_check X c2 rfl
  case ho3 => exact op_isnot rfl
  case' nx3 => skip
  refine' Bl.cons (Ex.if0 (Tr.cmp (Ev.call Fcheck ?ha4 ?hc4 rfl rfl rfl) Ev.bool ?ho4 rfl) Xs.nil) ?nx4
  case ha4 => walk_at "eva"
  case hc4 => exact cn_check X c3 rfl
  case ho4 => exact op_isnot rfl
  case' nx4 => skip
  refine' Bl.cons (Ex.if0 (Tr.cmp (Ev.call Fcheck ?ha5 ?hc5 rfl rfl rfl) Ev.bool ?ho5 rfl) Xs.nil) ?nx5
  case ha5 => walk_at "eva"
  case hc5 => exact cn_check X c4 rfl
  case ho5 => exact op_isnot rfl
  case' nx5 => skip
  refine' Bl.cons (Ex.unpack2 (EvN.call Fneeds ?ha6 ?hc6 rfl rfl rfl) ?hR6 rfl (sub_tail (sub_tail sub_refl)) rfl rfl rfl rfl rfl rfl rfl) ?nx6
  case ha6 => walk_at "eva"
  case hc6 => exact cn_needs X rfl
  case hR6 => exact fun v own h => h
  case' nx6 => skip
  refine' Bl.cons (Ex.unpack2 (EvN.call Fneeds ?ha7 ?hc7 rfl rfl rfl) ?hR7 rfl sub_refl rfl rfl rfl rfl rfl rfl rfl) ?nx7
  case ha7 => walk_at "eva"
  case hc7 => exact cn_needs X rfl
  case hR7 => exact fun v own h => h
  case' nx7 => skip
  refine' Bl.cons (Ex.if0 (Tr.cmp (Ev.call Fcheck ?ha8 ?hc8 rfl rfl rfl) (Ev.cmp ?em1 ?em2 (op_le rfl) rfl) ?ho8 rfl) Xs.nil) ?nx8
  case em1 => walk_at "ev"
  case em2 => walk_at "ev"
  case ha8 => walk_at "eva"
  case hc8 => exact cn_check X c5 rfl
  case ho8 => exact op_isnot (bne_self_eq_false _)
  case' nx8 => skip
  refine' Bl.cons (Ex.swap2 ?ha9 rfl (sub_tail (sub_tail (sub_tail (sub_tail sub_refl)))) rfl rfl rfl rfl rfl rfl rfl) ?nx9
  case ha9 => walk_at "eva"
  case' nx9 => skip
  have hgp : 1 ≤ gsz x y := Nat.gcd_pos_of_pos_left _ (by omega)
  have hgl : gsz x y ≤ x.length := Nat.gcd_le_left _ (by omega)
  refine' Bl.cons (Ex.while (Γ' := [("size", IsK 3 (gsz x y)), ("x", IsL 3 x), ("y", IsL 3 y), ("front", IsL 12 f), ("back", IsL 12 b), ("one", IsL 30 (((f ++ x) ++ y) ++ b)), ("two", IsL 30 (((f ++ y) ++ x) ++ b))]) (a₀ := (x.length, y.length)) (fun a : Nat × Nat => [("size", IsK 3 a.1), ("rest", IsK 3 a.2), ("x", IsL 3 x), ("y", IsL 3 y), ("front", IsL 12 f), ("back", IsL 12 b), ("one", IsL 30 (((f ++ x) ++ y) ++ b)), ("two", IsL 30 (((f ++ y) ++ x) ++ b))]) (fun a => a.2) (fun a => decide ((a.2 : Int) > 0)) (fun a => (a.2, a.1 % a.2)) (fun a => Nat.gcd a.1 a.2 = gsz x y) rfl ?ht10 ?hb10 ?hn10 ?hf10) ?nx10
  case ht10 =>
    intro gs a _
    refine' Tr.cmp (Ev.mono (Ev.name ?em10 rfl rfl rfl) IsK.I) Ev.int (op_gt rfl) rfl
    case em10 => walk_at "ev_in"
  case hb10 =>
    intro gs a _ hbt N
    have h2 : a.2 ≠ 0 := by have := of_decide_eq_true hbt; omega
    refine' Bl.cons (Ex.swap2 (EvA.cons (Ev.name ?em10 rfl rfl rfl) (EvA.cons (Ev.mod (n := 3) (m := 3) (Ev.name ?em11 rfl rfl rfl) (Ev.name ?em12 rfl rfl rfl) h2 rfl) EvA.nil rfl) rfl) rfl (sub_tail (sub_tail sub_refl)) rfl rfl rfl rfl rfl rfl rfl) Xs.nil
    case em10 => walk_at "ev_in"
    case em11 => walk_at "ev_in"
    case em12 => walk_at "ev_in"
  case hn10 =>
    intro a hg hbt
    have h2 : 0 < a.2 := by have := of_decide_eq_true hbt; omega
    exact ⟨by rw [Nat.gcd_comm, ← Nat.gcd_rec, Nat.gcd_comm]; exact hg, Nat.mod_lt _ h2⟩
  case hf10 =>
    rintro ⟨p, q⟩ hg hbt r hr
    have h2 : q = 0 := by have := of_decide_eq_false hbt; dsimp only at this; omega
    subst h2
    rw [Nat.gcd_zero_right] at hg
    dsimp only at hg
    subst hg
    rcases List.mem_cons.mp hr with rfl | hr
    · exact .head _
    · exact .tail _ (.tail _ hr)
  case' nx10 => skip
  have hsame : (decide (x = (List.replicate (x.length / gsz x y) (x.take (gsz x y))).flatten) && decide (y = (List.replicate (y.length / gsz x y) (x.take (gsz x y))).flatten)) = sameB x y := by unfold sameB; rw [S_beq, S_beq]
  refine' Bl.cons (Ex.assign (Ev.eqB (Ev.and2 (Ev.cmp ?h11 (Ev.mul (n := 3) (m := 3) (Ev.sliceTo ?h12 ?h13 hgl rfl rfl (fun _ => rfl)) ?h14 rfl) (op_eq_str rfl) rfl) (Ev.cmp ?h15 (Ev.mul (n := 3) (m := 3) (Ev.sliceTo ?h16 ?h17 hgl rfl rfl (fun _ => rfl)) ?h18 rfl) (op_eq_str rfl) rfl)) hsame) (sub_tail sub_refl) rfl rfl rfl rfl) ?nx11
  case h11 => walk_at "ev"
  case h12 => walk_at "ev"
  case h13 => walk_at "ev"
  case h14 => walk_at "ev"
  case h15 => walk_at "ev"
  case h16 => walk_at "ev"
  case h17 => walk_at "ev"
  case h18 => walk_at "ev"
  case' nx11 => skip
  refine' Bl.cons ?st13 ?nx13
  case' st13 => refine' Ex.forPairs ?he13 ?hh13 ?hb13 ?hl13 ?hf13 ?hg13 ?hx13 ?hy13 ?hp13 ?ho13
  case hh13 => exact rfl
  case hf13 => exact rfl
  case hx13 => exact rfl
  case hy13 => exact rfl
  case hp13 => exact rfl
  case hg13 => exact fun _ => rfl
  case ho13 => exact fun _ => rfl
  case he13 => walk_at "evp"
  case hl13 => exact rfl
  case hb13 =>
    refine all3 ?_ ?_ ?_
    · intro gs N
      refine' Xs.cons (Ex.weak (Ex.if0 (Tr.cmp (Ev.call Fell ?ha130 ?hc130 rfl rfl rfl) (Ev.name ?em130 rfl rfl rfl) ?ho130 rfl) Xs.nil) (sub_tail (sub_tail sub_refl))) Xs.nil
      case em130 => walk_at "ev_in"
      case ha130 => walk_at "eva"
      case hc130 => exact cn_ell (k := true) (s₁ := { s₁ with gens := gs }) X q1 rfl
      case ho130 => exact op_isnot (bne_self_eq_false _)
    · intro gs N
      refine' Xs.cons (Ex.weak (Ex.if0 (Tr.cmp (Ev.call Fell ?ha131 ?hc131 rfl rfl rfl) (Ev.name ?em131 rfl rfl rfl) ?ho131 rfl) Xs.nil) (sub_tail (sub_tail sub_refl))) Xs.nil
      case em131 => walk_at "ev_in"
      case ha131 => walk_at "eva"
      case hc131 => exact cn_ell (k := true) (s₁ := { s₁ with gens := gs }) X q2 rfl
      case ho131 => exact op_isnot (bne_self_eq_false _)
    · intro gs N
      refine' Xs.cons (Ex.weak (Ex.if0 (Tr.cmp (Ev.call Fell ?ha132 ?hc132 rfl rfl rfl) (Ev.name ?em132 rfl rfl rfl) ?ho132 rfl) Xs.nil) (sub_tail (sub_tail sub_refl))) Xs.nil
      case em132 => walk_at "ev_in"
      case ha132 => walk_at "eva"
      case hc132 => exact cn_ell (k := true) (s₁ := { s₁ with gens := gs }) X q3 rfl
      case ho132 => exact op_isnot (bne_self_eq_false _)
  case' nx13 => skip
  refine' Bl.cons (Ex.if0 (Tr.cmp (Ev.call Fell ?ha14 ?hc14 rfl rfl rfl) ?rr14 ?ho14 rfl) Xs.nil) ?nx14
  case ha14 => walk_at "eva"
  case hc14 => exact cn_ell X q4 rfl
  case rr14 =>
    refine' Ev.endswith ?ex1 ?ex2 ?ex3 ?ex4
    case ex1 => walk_at "ev"
    case ex2 => walk_at "ev"
    case ex3 => exact rfl
    case ex4 => exact rfl
  case ho14 => exact op_isnot (bne_self_eq_false _)
  case' nx14 => skip
  refine' Bl.cons (Ex.if0 (Tr.cmp (Ev.call Fell ?ha15 ?hc15 rfl rfl rfl) Ev.bool ?ho15 rfl) Xs.nil) ?nx15
  case ha15 => walk_at "eva"
  case hc15 => exact cn_ell X q5 rfl
  case ho15 => exact op_isnot rfl
  case' nx15 => skip
  refine' Bl.cons ?st16 ?nx16
  case' st16 => refine' Ex.forPairs ?he16 ?hh16 ?hb16 ?hl16 ?hf16 ?hg16 ?hx16 ?hy16 ?hp16 ?ho16
  case hh16 => exact rfl
  case hf16 => exact rfl
  case hx16 => exact rfl
  case hy16 => exact rfl
  case hp16 => exact rfl
  case hg16 => exact fun _ => rfl
  case ho16 => exact fun _ => rfl
  case he16 => walk_at "evp"
  case hl16 => exact rfl
  case hb16 =>
    refine all3 ?_ ?_ ?_
    · intro gs N
      refine' Xs.cons (Ex.weak (Ex.if0 (Tr.cmp (Ev.call Fell ?ha160 ?hc160 rfl rfl rfl) Ev.bool ?ho160 rfl) Xs.nil) (sub_tail (sub_tail sub_refl))) Xs.nil
      case ha160 => walk_at "eva"
      case hc160 => exact cn_ell (k := true) (s₁ := { s₁ with gens := gs }) X q6 rfl
      case ho160 => exact op_isnot rfl
    · intro gs N
      refine' Xs.cons (Ex.weak (Ex.if0 (Tr.cmp (Ev.call Fell ?ha161 ?hc161 rfl rfl rfl) Ev.bool ?ho161 rfl) Xs.nil) (sub_tail (sub_tail sub_refl))) Xs.nil
      case ha161 => walk_at "eva"
      case hc161 => exact cn_ell (k := true) (s₁ := { s₁ with gens := gs }) X q7 rfl
      case ho161 => exact op_isnot rfl
    · intro gs N
      refine' Xs.cons (Ex.weak (Ex.if0 (Tr.cmp (Ev.call Fell ?ha162 ?hc162 rfl rfl rfl) Ev.bool ?ho162 rfl) Xs.nil) (sub_tail (sub_tail sub_refl))) Xs.nil
      case ha162 => walk_at "eva"
      case hc162 => exact cn_ell (k := true) (s₁ := { s₁ with gens := gs }) X q8 rfl
      case ho162 => exact op_isnot rfl
  case' nx16 => skip
  refine' Bl.cons (Ex.assign (Ev.call Fprice ?ha20 ?hc20 rfl rfl rfl) sub_refl rfl rfl rfl rfl) ?nx20
  case ha20 => walk_at "eva"
  case hc20 => exact cn_price X rfl
  case' nx20 => skip
  refine' Bl.cons (Ex.if0 (Tr.or2 (Tr.cmp (Ev.call Flev ?ha21 ?hc21 rfl rfl rfl) ?hr21 ?ho21 rfl) (Tr.cmp (Ev.call Flev ?ha22 ?hc22 rfl rfl rfl) ?hr22 ?ho22 rfl)) Xs.nil) ?nx21
  case ha21 => walk_at "eva"
  case hc21 => exact cn_lev X l1 rfl
  case hr21 => walk_at "ev"
  case ho21 => exact op_ne (bne_self_eq_false _)
  case ha22 => walk_at "eva"
  case hc22 => exact cn_lev X l2 rfl
  case hr22 => walk_at "ev"
  case ho22 => exact op_ne (bne_self_eq_false _)
  case' nx21 => skip
  refine' Bl.cons (Ex.assign (Ev.call Flev ?ha23 ?hc23 rfl rfl rfl) sub_refl rfl rfl rfl rfl) ?nx23
  case ha23 => walk_at "eva"
  case hc23 => exact cn_lev X l3 rfl
  case' nx23 => skip
  refine' Bl.cons (Ex.if0 (Tr.or2 (Tr.cmp (Ev.type1 Gtype ?ha24 ?hc24 rfl rfl) (Ev.gl Gint) ?ho24 rfl) (Tr.cmp ?ha25 (Ev.ifexp (P := IsI (if sameB x y = true then 0 else 1)) (r := sameB x y) (Tr.plain ?ha26 rfl) ?hi25 ?hj25) ?ho25 rfl)) Xs.nil) ?nx25
  case ha24 => walk_at "ev"
  case hc24 => exact fun v h => cn_type_int v h
  case ho24 => exact op_isnot_int
  case ha25 => walk_at "ev"
  case ha26 => walk_at "ev"
  case hi25 => exact fun h => Ev.intE (if_pos h)
  case hj25 => exact fun h => Ev.intE (if_neg (by rw [h]; decide))
  case ho25 => exact op_ne (bne_self_eq_false _)
  case' nx25 => skip
  refine' Bl.cons (Ex.assign (Ev.call Fprice ?ha26 ?hc26 rfl rfl rfl) sub_refl rfl rfl rfl rfl) ?nx26
  case ha26 => walk_at "eva"
  case hc26 => exact cn_price X rfl
  case' nx26 => skip
  refine' Bl.cons (Ex.assign (Ev.call Flev ?ha27 ?hc27 rfl rfl rfl) sub_refl rfl rfl rfl rfl) ?nx27
  case ha27 => walk_at "eva"
  case hc27 => exact cn_lev X l4 rfl
  case' nx27 => skip
  refine' Bl.retL (Ev.and3 (r := true) (r' := true) (Ev.cmp (Ev.type1 Gtype ?hz0 ?hz7 rfl rfl) (Ev.gl Gint) op_is_int rfl) (Ev.and2 (r := true) (r' := true) ?hz2 ?hz3)) ?hz4
  case hz0 => walk_at "ev"
  case hz7 => exact fun v h => cn_type_int v h
  case hz2 =>
    refine' Ev.cmp ?hz8 ?hz9 ?hza rfl
    case hz8 => walk_at "ev"
    case hz9 => walk_at "ev"
    case hza => exact op_eq (beq_self_eq_true _)
  case hz3 =>
    refine' Ev.cmp (Ev.call Flev ?hzb ?hzc rfl rfl rfl) ?hzd ?hze rfl
    case hzb => walk_at "eva"
    case hzc => exact cn_lev X l5 rfl
    case hzd => walk_at "ev"
    case hze => exact op_eq (beq_self_eq_true _)
  case hz4 =>
    rintro v s'' rfl ⟨h', tk', gs', m', rfl, hb', g', F6, N6, H'⟩
    exact ⟨.inl ⟨_, _, [], rfl, fun _ => rfl, ReadsW.bool true, by wrow_post, fun _ => ⟨List.nodup_nil, fun _ hm => nomatch hm⟩⟩, OldK.of_keep F6.keep, rfl, hb' rfl⟩
end Mine

end
theorem PySem.Challenge.cw_rw0063_02_holds : PySem.Challenge.rw_rw0063_02.Holds := by
  exact Mine.law_fn
