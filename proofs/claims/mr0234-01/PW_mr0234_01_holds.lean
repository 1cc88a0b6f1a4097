import PyProof.Rows.All
import Wide.All
import OpenK.AllK
import Wide.FinOn
import KE.KLcPair
import Lean
import PySem.Challenge.RW_mr0234_01

set_option Elab.async false
set_option compiler.extract_closed false
set_option genInjectivity false
set_option genSizeOf false
set_option linter.all false
open PySem PySem.W PyProof.Rows PySem.Calls
namespace Mine

section
open PySem PySem.W PyProof.Rows
set_option maxRecDepth 100000
section
local macro_rules | `(tactic| o_head $H) => `(tactic| ((case hh => exact $H); exact False.elim (by assumption)))
noncomputable def hd : PSigma fun _ : Hook => False → PySem.Challenge.rw_mr0234_01.row.Holds := by
  refine ⟨?hh, fun bad => ?main⟩
  rotate_left
  k_head
end
noncomputable def qv : Program := view PySem.Challenge.pw_mr0234_01 [0, 2, 3, 5, 6, 8, 9, 10, 11, 12, 13, 14, 15]
end

section
set_option maxRecDepth 100000

noncomputable abbrev AT (d u : Nat) (fr : List Env) (gd : Option (List Code)) : Around := { handled := none, depth := d, frames := some fr, guards := gd, units := u }

section
variable {prog : Program} {w : World} {A : Around} {s : Shared} {base g : Heap} {fr : List Env} {K : Frag} {led : List (Addr × Obj)}
  {p : Program} {loose : List Str} {mean : ExcName → Option Value} {mg mb : Str → Option Value}

/-- what a call stands on: g is the heap less the objects of led -/
structure Std (A : Around) (base : Heap) (fr : List Env) (g : Heap) (K : Frag) (p : Program) (loose : List Str) (mean : ExcName → Option Value) (mg mb : Str → Option Value) (h : Heap) (led : List (Addr × Obj)) : Prop where
  B : Below A base fr g
  X : K.In g
  T : Top p loose mean mg mb g
  sub : ∀ b o, g.get? b = some o → h.get? b = some o
  sup : ∀ b o, h.get? b = some o → g.get? b = some o ∨ (b, o) ∈ led
  size : g.objs.size = h.objs.size
  N : ∀ q ∈ led, h.get? q.1 = some q.2 ∧ g.get? q.1 = none

theorem Std.keeps {h h' : Heap} {L : Addr} {m : Str → Option Value} {led' : List (Addr × Obj)} (S : Std A base fr g K p loose mean mg mb h led) (F : Fr g L h' m) (N : News g L h' led') (hs : ∀ q ∈ led, q ∈ led') : h.StaysIn h' := by
  intro b o e
  rcases S.sup b o e with q | q
  · exact F.keep b o q
  · exact (N _ (hs _ q)).1

theorem enterC {R : Result → Shared → Prop} {name qual : Str} {params : Arguments} {body : List Stmt} {scope : Scope} {dV kV doc pm cdv ct oc : Value} {an od : Option Addr} {osl : Array (Option Value)} {f : Addr} {args : Args} {binds : List (Str × Value)}
    (S : Std A base fr g K p loose mean mg mb s.heap led)
    (ho : K.lookup f = some ⟨oc, od, .func (fnOf name qual params body scope dV kV doc pm an cdv ct), osl⟩) (hcd : codeIn K cdv qual = true) (hroom : A.depth < recursionLimit)
    (hbind : BindsTo s (fnOf name qual params body scope dV kV doc pm an cdv ct) args binds) (hloc : ∀ y ∈ binds, scope.names.lookup y.1 = some .local)
    (h : ∀ L' h₁, Below A base fr g → K.In g → Top p loose mean mg mb g → Fr g L' h₁ (fun y => binds.reverse.lookup y) → News g L' h₁ led →
      wpAny (model prog w) (A.deeper (envOf qual scope L' f cdv)) (execs body (envOf qual scope L' f cdv))
        (fun fl s' => R (.ok (.ret (match fl with | .ret v => v | _ => .none))) s')
        (fun e s' => wpAny (model prog w) (A.deeper (envOf qual scope L' f cdv)) (leaving (envOf qual scope L' f cdv) e) (fun _ s'' => R (.error e) s'') (fun e' s'' => R (.error e') s'') s')
        { s with heap := h₁, toks := s.toks + binds.length })
    (hco : scope.isCoroutine = false) (hgen : scope.isGenerator = false) (hk : scope.kind = .function)
    (hcell : ∀ x ∈ scope.names, x.2 ≠ .cell) : codeAny (model prog w) A (.call (.ref f) args) R s := by
  have X : K.In s.heap := fun a o e => S.sub _ _ (S.X a o e)
  refine codeAny_call_def (fd := fnOf name qual params body scope dV kV doc pm an cdv ct) (body := body) (binds := binds) hroom (X _ _ ho) rfl (S.T.nolimit.keeps S.sub) (codeRec_of X hcd) rfl hbind hcell hloc (fun h₁ hns hk₁ => ?_) hco hgen hk
  refine h _ h₁ S.B S.X S.T ⟨hns, fun b o e => hk₁ b o (S.sub _ _ e), Nat.le_of_eq S.size⟩ fun q hq => ⟨hk₁ _ _ (S.N q hq).1, Nat.ne_of_lt (Heap.lt_size (S.N q hq).1), (S.N q hq).2⟩
end
end

section
set_option maxRecDepth 100000
structure Leads {α : Type} (P Q : α → Shared → Prop) : Prop where
  use : ∀ v s, P v s → Q v s
theorem Leads.on {α : Type} {P Q : α → Shared → Prop} {v : α} {s : Shared} (h : Leads P Q) (k : P v s) : Q v s := h.use v s k
theorem genE {M : Model} {A : Around} {body : List Stmt} {env : Env} {Q : Flow → Shared → Prop} {E : Value → Shared → Prop} {s : Shared}
    (hp : PassesOwn M A env E)
    (h : ∀ (Q' : Flow → Shared → Prop) (E' : Value → Shared → Prop), Leads Q Q' → Leads E E' → PassesOwn M A env E' → wpAny M A (execs body env) Q' E' s) : wpAny M A (execs body env) Q E s :=
  h Q E ⟨fun _ _ x => x⟩ ⟨fun _ _ x => x⟩ hp
theorem execs_consG {M : Model} {A : Around} {st : Stmt} {rest : List Stmt} {env : Env} {Q : Flow → Shared → Prop} {E : Value → Shared → Prop} {hp : Heap} {gs : Array GenState} {dr : Drawn} {tk : Nat} {os : OsState}
    (h : ∀ (Q' : Flow → Shared → Prop) (tk : Nat), Leads (fun f s' => match f with | .next => wpAny M A (execs rest env) Q E s' | f => Q f s') Q' → wpAny M A (exec st env) Q' E ⟨hp, gs, dr, tk, os⟩) : wpAny M A (execs (st :: rest) env) Q E ⟨hp, gs, dr, tk, os⟩ :=
  wpAny_execs_cons (h _ _ ⟨fun _ _ x => x⟩)
end

section
set_option maxRecDepth 100000
theorem fill_me : PySem.Challenge.rw_mr0234_01 = PySem.Challenge.rw_mr0234_01 ∧ Mine.hd.heap_1 = Mine.hd.heap_1 := by
  k_fill
  exact ⟨rfl, rfl⟩

noncomputable abbrev tupO (vs : List Value) (n : Nat) : Obj := { cls := .type "tuple", data := .seq vs.toArray n }
/-- the objects of a Whitespace: its object, its dict, norm, norm's counts -/
noncomputable abbrev wsL (x dx tn tc : Addr) (h1 h2 h3 h4 h5 : Int) (t1 t2 t3 t4 t5 u1 u2 u3 u6 : Tok) (e1 e2 e3 : Nat) (raw : Str) (n nt b : Int) (vs : List Value) (sm : Bool) : List (Addr × Obj) :=
  [(x, instObj 138 dx), (dx, dictOf [⟨h1, .str "raw" t1, .str raw u1⟩, ⟨h2, .str "n" t2, .int n u2⟩, ⟨h3, .str "nt" t3, .int nt u3⟩, ⟨h4, .str "norm" t4, .ref tn⟩, ⟨h5, .str "is_simple" t5, .bool sm⟩] e1),
   (tn, tupO [.ref tc, .int b u6] e2), (tc, tupO vs e3)]

section
variable {prog : Program} {w : World} {A : Around} {s : Shared} {E : Value → Shared → Prop}
theorem depth_le {α : Type} {M : Model} {A A' : Around} {t : Sem α} {Q : α → Shared → Prop} {E : Value → Shared → Prop} {s : Shared} (h : wpAny M A' t Q E s)
    (h1 : A.handled = A'.handled) (h2 : A.depth ≤ A'.depth) (h3 : A.frames = A'.frames) (h4 : A.guards = A'.guards) (h5 : A.units ≤ A'.units) : wpAny M A t Q E s :=
  fun Γ p hΓ => h Γ p ⟨h1 ▸ hΓ.1, Nat.le_trans hΓ.2.1 h2, h3 ▸ hΓ.2.2.1, h4 ▸ hΓ.2.2.2.1, Nat.le_trans hΓ.2.2.2.2 h5⟩
theorem len_tup {t : Addr} {vs : List Value} {ns : List Int} {Q : Value → Shared → Prop} (ht : IsTup s.heap t vs.toArray) (hi : IntsAre vs ns) (hl : ns.length ≤ 100)
    (h : Q (.int ns.length (s.toks + 1)) { s with toks := s.toks + 1 + 1 }) : wpAny (model prog w) A (call (.builtin "len") [.ref t]) Q E s := by
  have e : vs.toArray.size = ns.length := by simp [hi.length]
  refine len_tuple ht (by rw [e]; omega) ?_
  rw [e]; exact h
end
end

section
set_option maxRecDepth 100000
@[irreducible] noncomputable def pick {X : Type} (i : Nonempty X) (R : X → Prop) : X := @Classical.epsilon X i fun x => ¬ R x
theorem close1 {X : Type} {R : X → Prop} (i : Nonempty X) (h : R (pick i R)) : ∀ x, R x := fun x => Classical.byContradiction fun hn => by
  have e := @Classical.epsilon_spec X (fun x => ¬ R x) ⟨x, hn⟩
  unfold pick at h
  exact e h
theorem neD : Nonempty Drawn := ⟨{}⟩
theorem neW : Nonempty World := ⟨aWorld 0⟩
theorem neS : Nonempty Shared := ⟨{}⟩
theorem neA : Nonempty Around := ⟨{}⟩
theorem neP {A B : Type} (a : Nonempty A) (b : Nonempty B) : Nonempty (A × B) := let ⟨x⟩ := a; let ⟨y⟩ := b; ⟨(x, y)⟩
end

section
theorem sepT1 : True := by
  w_top off
  trivial
set_option maxRecDepth 100000
theorem fill_me1 : PySem.Challenge.rw_mr0234_01 = PySem.Challenge.rw_mr0234_01 ∧ Mine.hd.heap_1 = Mine.hd.heap_1 := by
  k_fill
  exact ⟨rfl, rfl⟩

variable {prog : Program} {w : World} {s : Shared} {base g : Heap} {fr : List Env} {gd : Option (List Code)}
  {p : Program} {loose : List Str} {mean : ExcName → Option Value} {mg mb : Str → Option Value}
  {x dx tn tc : Addr} {h1 h2 h3 h4 h5 : Int} {t1 t2 t3 t4 t5 u1 u2 u3 u6 : Tok} {e1 e2 e3 : Nat} {raw : Str} {n nt b : Int} {vs : List Value} {sm : Bool}


theorem ret_int {Q : Value → Shared → Prop} {a c : Int} {t : Tok} {h' : Heap} {tk : Nat} (hret : ∀ (t : Tok) (h' : Heap) (tk' : Nat), s.heap.StaysIn h' → Q (.int a t) { s with heap := h', toks := tk' })
    (k : s.heap.StaysIn h') (e : c = a) : Q (.int c t) { s with heap := h', toks := tk } := by
  subst e; exact hret _ _ _ k

set_option maxHeartbeats 4000000 in
set_option pp.deepTerms false in
set_option pp.deepTerms.threshold 4 in
set_option pp.maxSteps 1000 in
theorem longest_spec {ns : List Int} {Q E : Value → Shared → Prop}
    (S : Std (AT 700 3000 fr gd) base fr g (Mine.hd.heap_1 w.params) p loose mean mg mb s.heap (wsL x dx tn tc h1 h2 h3 h4 h5 t1 t2 t3 t4 t5 u1 u2 u3 u6 e1 e2 e3 raw n nt b vs sm))
    (hi : IntsAre vs ns) (hl : ns.length ≤ 100)
    (hret : ∀ (t : Tok) (h' : Heap) (tk' : Nat), s.heap.StaysIn h' → Q (.int (max ((ns.length : Int) - 1) b) t) { s with heap := h', toks := tk' }) :
    wpAny (model prog w) (AT 700 3000 fr gd) (call (.ref 100) [.ref x]) Q E s := by
  refine wpAny_call ?_
  k_dflt (refine' enterC ?kS ?k6 ?k7 ?k8 ?k9 ?kB ?_ ?c2 ?c3 ?c4 ?c5; (case kS => assumption); (case k6 => k_is); (case k7 => k_is); (case k8 => exact Nat.le_of_ble_eq_true rfl); (case k9 => exact BindsTo.of_eq rfl); (case c5 => decide); (case kB => exact locs rfl); (case c2 => exact rfl); (case c3 => exact rfl); (case c4 => exact rfl); k_whole; intro zzL' zzh' zzB' zzX' zzT' zzF' zzN'; (try dsimp only); (try k_fold))
  repeat' (first | (k_unfold; (try dsimp only)) | (k_end; wrow_close) | (first | ((with_reducible show wpAny _ _ (binaryOp Operator.Mult (Value.int _ _) (Value.int _ _)) _ _ _); first | with_reducible (k_here; with_reducible refine mul_getD (by assumption) ?_)) | ((with_reducible show wpAny _ _ (call (Value.builtin _) _) _ _ _); first | with_reducible (k_here; (with_reducible show wpAny _ _ (call (Value.builtin "len") [Value.ref _]) _ _ _); k_dflt (refine' len_tup ?k1 ?k2 ?k3 ?_; (case k1 => exact News.isTup (by k_asm) (by k_mem)); (case k2 => assumption); (case k3 => assumption); k_whole))) | walk1) | (dsimp only; (first | ((with_reducible show wpAny _ _ (binaryOp Operator.Mult (Value.int _ _) (Value.int _ _)) _ _ _); first | with_reducible (k_here; with_reducible refine mul_getD (by assumption) ?_)) | ((with_reducible show wpAny _ _ (call (Value.builtin _) _) _ _ _); first | with_reducible (k_here; (with_reducible show wpAny _ _ (call (Value.builtin "len") [Value.ref _]) _ _ _); k_dflt (refine' len_tup ?k1 ?k2 ?k3 ?_; (case k1 => exact News.isTup (by k_asm) (by k_mem)); (case k2 => assumption); (case k3 => assumption); k_whole))) | walk1)) | (leave1; walk_say "STEP leave1"; try dsimp only) | fail "no step")
  refine ret_int (s := s) hret (S.keeps (by assumption) (by assumption) fun _ hq => hq) ?_
  split <;> omega


/-- what indent_level adds up over the places taken -/
noncomputable def ilOf (ts : Int) (ns : List Int) (pre : List Int) : Int := (pre.map fun i => i.fdiv ts * ns.getD i.toNat 0).sum
theorem ilOf_nil (ts : Int) (ns : List Int) : ilOf ts ns [] = 0 := rfl
theorem ilOf_snoc (ts : Int) (ns pre : List Int) (k : Int) : ilOf ts ns (pre ++ [k]) = ilOf ts ns pre + k.fdiv ts * ns.getD k.toNat 0 := by
  simp [ilOf]
theorem mul_getD {A : Around} {E Q : Value → Shared → Prop} {a : Int} {t u : Tok} {i : Nat} {ns : List Int} (hn : ∀ k ∈ ns, 0 ≤ k ∧ k ≤ 100)
    (h : Q (.int (a * ns.getD i 0) s.toks) { s with toks := s.toks + 1 }) : wpAny (model prog w) A (binaryOp .Mult (.int a t) (.int (ns.getD i 0) u)) Q E s := by
  refine PyProof.Rows.mul_int h (IntMulOk.of_right (intBits_le_64 ?_ ?_)) <;>
  · rw [List.getD_eq_getElem?_getD]
    cases q : ns[i]? with
    | none => decide
    | some k => have := hn k (List.mem_of_getElem? q); simp; omega

/-- the column that indent_level tells -/
noncomputable def levelOf (ts : Int) (ns : List Int) (b nt : Int) : Int := b + ts * (ilOf ts ns (rangeKs ts ((ns.length : Int) - ts).toNat) + nt)

/-- the statement of indent_spec over its data -/
noncomputable def indent_spec_P (prog : Program) (w : World) (s : Shared) (base : Heap) (g : Heap) (fr : List Env) (gd : Option (List Code)) (p : Program) (loose : List Str) (mean : ExcName → Option Value) (mg : Str → Option Value) (mb : Str → Option Value) (x : Addr) (dx : Addr) (tn : Addr) (tc : Addr) (h1 : Int) (h2 : Int) (h3 : Int) (h4 : Int) (h5 : Int) (t1 : Tok) (t2 : Tok) (t3 : Tok) (t4 : Tok) (t5 : Tok) (u1 : Tok) (u2 : Tok) (u3 : Tok) (u6 : Tok) (e1 : Nat) (e2 : Nat) (e3 : Nat) (raw : Str) (n : Int) (nt : Int) (b : Int) (vs : List Value) (sm : Bool) (ns : List Int) (Q : Value → Shared → Prop) (E : Value → Shared → Prop) (ts : Int) (tt : Tok) : Prop :=
  ∀ (S : Std (AT 700 3000 fr gd) base fr g (Mine.hd.heap_1 w.params) p loose mean mg mb s.heap (wsL x dx tn tc h1 h2 h3 h4 h5 t1 t2 t3 t4 t5 u1 u2 u3 u6 e1 e2 e3 raw n nt b vs sm)) (hi : IntsAre vs ns) (hl : ns.length ≤ 100) (h0 : 1 ≤ ts) (ht1 : ts ≤ 100) (hn : ∀ k ∈ ns, 0 ≤ k ∧ k ≤ 100) (hret : ∀ (t : Tok) (h' : Heap) (tk' : Nat), s.heap.StaysIn h' → Q (.int (levelOf ts ns b nt) t) { s with heap := h', toks := tk' }), wpAny (model prog w) (AT 700 3000 fr gd) (call (.ref 107) [.ref x, .int ts tt]) Q E s
noncomputable def indent_spec_R (p : Program × World × Shared × Heap × Heap × (List Env) × (Option (List Code)) × Program × (List Str) × (ExcName → Option Value) × (Str → Option Value) × (Str → Option Value) × Addr × Addr × Addr × Addr × Int × Int × Int × Int × Int × Tok × Tok × Tok × Tok × Tok × Tok × Tok × Tok × Tok × Nat × Nat × Nat × Str × Int × Int × Int × (List Value) × Bool × (List Int) × (Value → Shared → Prop) × (Value → Shared → Prop) × Int × Tok) : Prop := indent_spec_P p.1 p.2.1 p.2.2.1 p.2.2.2.1 p.2.2.2.2.1 p.2.2.2.2.2.1 p.2.2.2.2.2.2.1 p.2.2.2.2.2.2.2.1 p.2.2.2.2.2.2.2.2.1 p.2.2.2.2.2.2.2.2.2.1 p.2.2.2.2.2.2.2.2.2.2.1 p.2.2.2.2.2.2.2.2.2.2.2.1 p.2.2.2.2.2.2.2.2.2.2.2.2.1 p.2.2.2.2.2.2.2.2.2.2.2.2.2.1 p.2.2.2.2.2.2.2.2.2.2.2.2.2.2.1 p.2.2.2.2.2.2.2.2.2.2.2.2.2.2.2.1 p.2.2.2.2.2.2.2.2.2.2.2.2.2.2.2.2.1 p.2.2.2.2.2.2.2.2.2.2.2.2.2.2.2.2.2.1 p.2.2.2.2.2.2.2.2.2.2.2.2.2.2.2.2.2.2.1 p.2.2.2.2.2.2.2.2.2.2.2.2.2.2.2.2.2.2.2.1 p.2.2.2.2.2.2.2.2.2.2.2.2.2.2.2.2.2.2.2.2.1 p.2.2.2.2.2.2.2.2.2.2.2.2.2.2.2.2.2.2.2.2.2.1 p.2.2.2.2.2.2.2.2.2.2.2.2.2.2.2.2.2.2.2.2.2.2.1 p.2.2.2.2.2.2.2.2.2.2.2.2.2.2.2.2.2.2.2.2.2.2.2.1 p.2.2.2.2.2.2.2.2.2.2.2.2.2.2.2.2.2.2.2.2.2.2.2.2.1 p.2.2.2.2.2.2.2.2.2.2.2.2.2.2.2.2.2.2.2.2.2.2.2.2.2.1 p.2.2.2.2.2.2.2.2.2.2.2.2.2.2.2.2.2.2.2.2.2.2.2.2.2.2.1 p.2.2.2.2.2.2.2.2.2.2.2.2.2.2.2.2.2.2.2.2.2.2.2.2.2.2.2.1 p.2.2.2.2.2.2.2.2.2.2.2.2.2.2.2.2.2.2.2.2.2.2.2.2.2.2.2.2.1 p.2.2.2.2.2.2.2.2.2.2.2.2.2.2.2.2.2.2.2.2.2.2.2.2.2.2.2.2.2.1 p.2.2.2.2.2.2.2.2.2.2.2.2.2.2.2.2.2.2.2.2.2.2.2.2.2.2.2.2.2.2.1 p.2.2.2.2.2.2.2.2.2.2.2.2.2.2.2.2.2.2.2.2.2.2.2.2.2.2.2.2.2.2.2.1 p.2.2.2.2.2.2.2.2.2.2.2.2.2.2.2.2.2.2.2.2.2.2.2.2.2.2.2.2.2.2.2.2.1 p.2.2.2.2.2.2.2.2.2.2.2.2.2.2.2.2.2.2.2.2.2.2.2.2.2.2.2.2.2.2.2.2.2.1 p.2.2.2.2.2.2.2.2.2.2.2.2.2.2.2.2.2.2.2.2.2.2.2.2.2.2.2.2.2.2.2.2.2.2.1 p.2.2.2.2.2.2.2.2.2.2.2.2.2.2.2.2.2.2.2.2.2.2.2.2.2.2.2.2.2.2.2.2.2.2.2.1 p.2.2.2.2.2.2.2.2.2.2.2.2.2.2.2.2.2.2.2.2.2.2.2.2.2.2.2.2.2.2.2.2.2.2.2.2.1 p.2.2.2.2.2.2.2.2.2.2.2.2.2.2.2.2.2.2.2.2.2.2.2.2.2.2.2.2.2.2.2.2.2.2.2.2.2.1 p.2.2.2.2.2.2.2.2.2.2.2.2.2.2.2.2.2.2.2.2.2.2.2.2.2.2.2.2.2.2.2.2.2.2.2.2.2.2.1 p.2.2.2.2.2.2.2.2.2.2.2.2.2.2.2.2.2.2.2.2.2.2.2.2.2.2.2.2.2.2.2.2.2.2.2.2.2.2.2.1 p.2.2.2.2.2.2.2.2.2.2.2.2.2.2.2.2.2.2.2.2.2.2.2.2.2.2.2.2.2.2.2.2.2.2.2.2.2.2.2.2.1 p.2.2.2.2.2.2.2.2.2.2.2.2.2.2.2.2.2.2.2.2.2.2.2.2.2.2.2.2.2.2.2.2.2.2.2.2.2.2.2.2.2.1 p.2.2.2.2.2.2.2.2.2.2.2.2.2.2.2.2.2.2.2.2.2.2.2.2.2.2.2.2.2.2.2.2.2.2.2.2.2.2.2.2.2.2.1 p.2.2.2.2.2.2.2.2.2.2.2.2.2.2.2.2.2.2.2.2.2.2.2.2.2.2.2.2.2.2.2.2.2.2.2.2.2.2.2.2.2.2.2
noncomputable def indent_spec_c : Program × World × Shared × Heap × Heap × (List Env) × (Option (List Code)) × Program × (List Str) × (ExcName → Option Value) × (Str → Option Value) × (Str → Option Value) × Addr × Addr × Addr × Addr × Int × Int × Int × Int × Int × Tok × Tok × Tok × Tok × Tok × Tok × Tok × Tok × Tok × Nat × Nat × Nat × Str × Int × Int × Int × (List Value) × Bool × (List Int) × (Value → Shared → Prop) × (Value → Shared → Prop) × Int × Tok := pick (neP inferInstance (neP neW (neP neS (neP inferInstance (neP inferInstance (neP inferInstance (neP inferInstance (neP inferInstance (neP inferInstance (neP inferInstance (neP inferInstance (neP inferInstance (neP inferInstance (neP inferInstance (neP inferInstance (neP inferInstance (neP inferInstance (neP inferInstance (neP inferInstance (neP inferInstance (neP inferInstance (neP inferInstance (neP inferInstance (neP inferInstance (neP inferInstance (neP inferInstance (neP inferInstance (neP inferInstance (neP inferInstance (neP inferInstance (neP inferInstance (neP inferInstance (neP inferInstance (neP inferInstance (neP inferInstance (neP inferInstance (neP inferInstance (neP inferInstance (neP inferInstance (neP inferInstance (neP inferInstance (neP inferInstance (neP inferInstance inferInstance))))))))))))))))))))))))))))))))))))))))))) indent_spec_R
set_option maxHeartbeats 4000000 in
set_option pp.deepTerms false in
set_option pp.deepTerms.threshold 4 in
set_option pp.maxSteps 1000 in
theorem indent_spec_core : indent_spec_R indent_spec_c := (by
  intro prog w s base g fr gd p loose mean mg mb x dx tn tc h1 h2 h3 h4 h5 t1 t2 t3 t4 t5 u1 u2 u3 u6 e1 e2 e3 raw n nt b vs sm ns Q E ts tt S hi hl h0 ht1 hn hret
  refine wpAny_call ?_
  k_with "pyIter ref" => k_state (fun pre il => il = ilOf ts ns pre) "il"
  k_with "state" => (first | exact (ilOf_nil _ _).symm | (rw [ilOf_snoc]; omega) | (simp only [ilOf_snoc]; omega))
  k_dflt (refine' enterC ?kS ?k6 ?k7 ?k8 ?k9 ?kB ?_ ?c2 ?c3 ?c4 ?c5; (case kS => assumption); (case k6 => k_is); (case k7 => k_is); (case k8 => exact Nat.le_of_ble_eq_true rfl); (case k9 => exact BindsTo.of_eq rfl); (case c5 => decide); (case kB => exact locs rfl); (case c2 => exact rfl); (case c3 => exact rfl); (case c4 => exact rfl); k_whole; intro zzL' zzh' zzB' zzX' zzT' zzF' zzN'; (try dsimp only); (try k_fold))
  repeat' (first | (k_unfold; (try dsimp only)) | (k_end; wrow_close) | (first | ((with_reducible show wpAny _ _ (binaryOp Operator.Mult (Value.int _ _) (Value.int _ _)) _ _ _); first | with_reducible (k_here; with_reducible refine mul_getD (by assumption) ?_)) | ((with_reducible show wpAny _ _ (call (Value.builtin _) _) _ _ _); first | with_reducible (k_here; (with_reducible show wpAny _ _ (call (Value.builtin "len") [Value.ref _]) _ _ _); k_dflt (refine' len_tup ?k1 ?k2 ?k3 ?_; (case k1 => exact News.isTup (by k_asm) (by k_mem)); (case k2 => assumption); (case k3 => assumption); k_whole))) | walk1) | (dsimp only; (first | ((with_reducible show wpAny _ _ (binaryOp Operator.Mult (Value.int _ _) (Value.int _ _)) _ _ _); first | with_reducible (k_here; with_reducible refine mul_getD (by assumption) ?_)) | ((with_reducible show wpAny _ _ (call (Value.builtin _) _) _ _ _); first | with_reducible (k_here; (with_reducible show wpAny _ _ (call (Value.builtin "len") [Value.ref _]) _ _ _); k_dflt (refine' len_tup ?k1 ?k2 ?k3 ?_; (case k1 => exact News.isTup (by k_asm) (by k_mem)); (case k2 => assumption); (case k3 => assumption); k_whole))) | walk1)) | (leave1; walk_say "STEP leave1"; try dsimp only) | fail "no step")
  change Q (Value.int _ _) _
  refine ret_int (s := s) hret (S.keeps (by assumption) (by assumption) fun _ hq => hq) ?_
  rw [kInv]; rfl : ∀ (prog : Program) (w : World) (s : Shared) (base : Heap) (g : Heap) (fr : List Env) (gd : Option (List Code)) (p : Program) (loose : List Str) (mean : ExcName → Option Value) (mg : Str → Option Value) (mb : Str → Option Value) (x : Addr) (dx : Addr) (tn : Addr) (tc : Addr) (h1 : Int) (h2 : Int) (h3 : Int) (h4 : Int) (h5 : Int) (t1 : Tok) (t2 : Tok) (t3 : Tok) (t4 : Tok) (t5 : Tok) (u1 : Tok) (u2 : Tok) (u3 : Tok) (u6 : Tok) (e1 : Nat) (e2 : Nat) (e3 : Nat) (raw : Str) (n : Int) (nt : Int) (b : Int) (vs : List Value) (sm : Bool) (ns : List Int) (Q : Value → Shared → Prop) (E : Value → Shared → Prop) (ts : Int) (tt : Tok), indent_spec_P prog w s base g fr gd p loose mean mg mb x dx tn tc h1 h2 h3 h4 h5 t1 t2 t3 t4 t5 u1 u2 u3 u6 e1 e2 e3 raw n nt b vs sm ns Q E ts tt) _ _ _ _ _ _ _ _ _ _ _ _ _ _ _ _ _ _ _ _ _ _ _ _ _ _ _ _ _ _ _ _ _ _ _ _ _ _ _ _ _ _ _ _
theorem indent_spec {ns : List Int} {Q E : Value → Shared → Prop} {ts : Int} {tt : Tok}
    (S : Std (AT 700 3000 fr gd) base fr g (Mine.hd.heap_1 w.params) p loose mean mg mb s.heap (wsL x dx tn tc h1 h2 h3 h4 h5 t1 t2 t3 t4 t5 u1 u2 u3 u6 e1 e2 e3 raw n nt b vs sm))
    (hi : IntsAre vs ns) (hl : ns.length ≤ 100) (h0 : 1 ≤ ts) (ht1 : ts ≤ 100) (hn : ∀ k ∈ ns, 0 ≤ k ∧ k ≤ 100)
    (hret : ∀ (t : Tok) (h' : Heap) (tk' : Nat), s.heap.StaysIn h' → Q (.int (levelOf ts ns b nt) t) { s with heap := h', toks := tk' }) :
    wpAny (model prog w) (AT 700 3000 fr gd) (call (.ref 107) [.ref x, .int ts tt]) Q E s :=
  (show indent_spec_P prog w s base g fr gd p loose mean mg mb x dx tn tc h1 h2 h3 h4 h5 t1 t2 t3 t4 t5 u1 u2 u3 u6 e1 e2 e3 raw n nt b vs sm ns Q E ts tt from close1 (R := indent_spec_R) _ indent_spec_core (prog, w, s, base, g, fr, gd, p, loose, mean, mg, mb, x, dx, tn, tc, h1, h2, h3, h4, h5, t1, t2, t3, t4, t5, u1, u2, u3, u6, e1, e2, e3, raw, n, nt, b, vs, sm, ns, Q, E, ts, tt)) S hi hl h0 ht1 hn hret
end

section
set_option maxRecDepth 100000
section
variable {prog : Program} {w : World} {A A₀ : Around} {s : Shared} {base h₀ : Heap} {outer : List Env} {env : Env} {L : Addr} {m : Str → Option Value} {K : Frag} {news led : List (Addr × Obj)}
  {p : Program} {loose : List Str} {mean : ExcName → Option Value} {mg mb : Str → Option Value}
theorem fr_stay {h h' : Heap} (F : Fr h₀ L h m) (k : h.StaysIn h') : Fr h₀ L h' m := ⟨F.ns.keeps k, fun b o e => k b o (F.keep b o e), F.above⟩
theorem news_stay {h h' : Heap} (N : News h₀ L h news) (k : h.StaysIn h') : News h₀ L h' news := fun q hq => ⟨k _ _ (N q hq).1, (N q hq).2⟩
theorem std_of (B : Below A₀ base outer h₀) (F : Fr h₀ L s.heap m) (X : K.In h₀) (T : Top p loose mean mg mb h₀) (N : News h₀ L s.heap news) (hsub : ∀ q ∈ led, q ∈ news)
    (hA : A.frames = some (env :: outer)) (hf : env.frame = some L) (hke : env.scope.kind = .function) :
    Std A base (env :: outer) (hideAll s.heap (led.map (·.1))) K p loose mean mg mb s.heap led := by
  have N' : News h₀ L s.heap led := cb_drop N hsub
  obtain ⟨_, BG, st, _⟩ := groundX (A := A) (R := fun _ _ => True) B F N' hA hf hke
  refine ⟨BG, X.keeps st, T.keeps st, fun b o e => of_hideAll _ e, fun b o e => ?_, hideAll_size _ _, fun q hq => ⟨(N' q hq).1, hideAll_none _ (List.mem_map_of_mem hq)⟩⟩
  by_cases hb : b ∈ led.map (·.1)
  · obtain ⟨q, hq, rfl⟩ := List.mem_map.mp hb
    have := (N' q hq).1
    rw [e] at this; cases this
    exact .inr hq
  · exact .inl (hideAll_get _ e hb)
end

section
variable {prog : Program} {w : World} {A₀ : Around} {s : Shared} {base h₀ : Heap} {outer : List Env} {env : Env} {L : Addr} {m : Str → Option Value} {news : List (Addr × Obj)} {gd : Option (List Code)} {dp un : Nat}
  {p : Program} {loose : List Str} {mean : ExcName → Option Value} {mg mb : Str → Option Value}
  {x dx tn tc : Addr} {h1 h2 h3 h4 h5 : Int} {t1 t2 t3 t4 t5 u1 u2 u3 u6 : Tok} {e1 e2 e3 : Nat} {raw : Str} {n nt b : Int} {vs : List Value} {sm : Bool} {ns : List Int} {Q E : Value → Shared → Prop}
theorem longest_use (B : Below A₀ base outer h₀) (F : Fr h₀ L s.heap m) (X : (Mine.hd.heap_1 w.params).In h₀) (T : Top p loose mean mg mb h₀) (N : News h₀ L s.heap news)
    (hsub : ∀ q ∈ wsL x dx tn tc h1 h2 h3 h4 h5 t1 t2 t3 t4 t5 u1 u2 u3 u6 e1 e2 e3 raw n nt b vs sm, q ∈ news) (hi : IntsAre vs ns) (hl : ns.length ≤ 100)
    (hd : dp ≤ 700) (hu : un ≤ 3000) (hf : env.frame = some L) (hke : env.scope.kind = .function)
    (h : ∀ t h' tk', Fr h₀ L h' m → News h₀ L h' news → Q (.int (max ((ns.length : Int) - 1) b) t) { s with heap := h', toks := tk' }) :
    wpAny (model prog w) { handled := none, depth := dp, frames := some (env :: outer), guards := gd, units := un } (call (.ref 100) [.ref x]) Q E s :=
  depth_le (A' := AT 700 3000 (env :: outer) gd) (longest_spec (std_of B F X T N hsub rfl hf hke) hi hl fun t h' tk' k => h t h' tk' (fr_stay F k) (news_stay N k)) rfl hd rfl rfl hu
theorem indent_use {ts : Int} {tt : Tok} (B : Below A₀ base outer h₀) (F : Fr h₀ L s.heap m) (X : (Mine.hd.heap_1 w.params).In h₀) (T : Top p loose mean mg mb h₀) (N : News h₀ L s.heap news)
    (hsub : ∀ q ∈ wsL x dx tn tc h1 h2 h3 h4 h5 t1 t2 t3 t4 t5 u1 u2 u3 u6 e1 e2 e3 raw n nt b vs sm, q ∈ news) (hi : IntsAre vs ns) (hl : ns.length ≤ 100) (hn : ∀ k ∈ ns, 0 ≤ k ∧ k ≤ 100) (h0 : 1 ≤ ts) (h1 : ts ≤ 100)
    (hd : dp ≤ 700) (hu : un ≤ 3000) (hf : env.frame = some L) (hke : env.scope.kind = .function)
    (h : ∀ t h' tk', Fr h₀ L h' m → News h₀ L h' news → Q (.int (levelOf ts ns b nt) t) { s with heap := h', toks := tk' }) :
    wpAny (model prog w) { handled := none, depth := dp, frames := some (env :: outer), guards := gd, units := un } (call (.ref 107) [.ref x, .int ts tt]) Q E s :=
  depth_le (A' := AT 700 3000 (env :: outer) gd) (indent_spec (std_of B F X T N hsub rfl hf hke) hi hl h0 h1 hn fun t h' tk' k => h t h' tk' (fr_stay F k) (news_stay N k)) rfl hd rfl rfl hu
end
theorem kn_rng {c c' : Nat} {b b' : Int} (hc : c ≤ 100) (hc' : c' ≤ 100) (hb : 0 ≤ b ∧ b ≤ 50) (hb' : 0 ≤ b' ∧ b' ≤ 50) :
    0 ≤ (if max ((c' : Int) - 1) b' > max ((c : Int) - 1) b then max ((c' : Int) - 1) b' else max ((c : Int) - 1) b) ∧ (if max ((c' : Int) - 1) b' > max ((c : Int) - 1) b then max ((c' : Int) - 1) b' else max ((c : Int) - 1) b) ≤ 99 := by
  have m (x : Nat) (y : Int) (hx : x ≤ 100) (hy : 0 ≤ y ∧ y ≤ 50) : 0 ≤ max ((x : Int) - 1) y ∧ max ((x : Int) - 1) y ≤ 99 := ⟨Int.le_trans hy.1 (Int.le_max_right _ _), Int.max_le.mpr ⟨by omega, by omega⟩⟩
  split
  · exact m _ _ hc' hb'
  · exact m _ _ hc hb
theorem kn_le {c c' L : Nat} {b b' k a : Int} (hk : k = a + (L : Int)) (hl : L < ((if max ((c' : Int) - 1) b' > max ((c : Int) - 1) b then max ((c' : Int) - 1) b' else max ((c : Int) - 1) b) + 1 + 1 - a).toNat)
    (hc : c ≤ 100) (hc' : c' ≤ 100) (hb : 0 ≤ b ∧ b ≤ 50) (hb' : 0 ≤ b' ∧ b' ≤ 50) : k ≤ 100 := by
  have h := (kn_rng hc hc' hb hb').2
  generalize (if max ((c' : Int) - 1) b' > max ((c : Int) - 1) b then max ((c' : Int) - 1) b' else max ((c : Int) - 1) b) = M at hl h
  omega
end

section
set_option maxRecDepth 100000
section
variable {prog : Program} {w : World} {A : Around} {E : Value → Shared → Prop} {s : Shared} {env : Env} {h₀ : Heap} {x : Str} {body : List Stmt} {Q : Flow → Shared → Prop}

noncomputable def TEnd {σ : Type} (h₀ : Heap) (L : Addr) (Led : σ → List (Addr × Obj)) (ps : σ → List (Str × Value)) (x : Str) (stored : List Str) (m₀ : Str → Option Value) (P : List Nat → σ → Prop) (pre : List Nat) (I : Addr) (oI : Obj) (s₁ s₂ : Shared) : Prop :=
  ∃ c h' tk m' news', s₂ = { s₁ with heap := h', toks := tk } ∧ Fr h₀ L h' m' ∧ News h₀ L h' news' ∧ (I, oI) ∈ news' ∧ (∀ p ∈ Led c, p ∈ news') ∧ (∀ p ∈ Led c, p.1 ≠ I) ∧ (∀ p ∈ ps c, m' p.1 = some p.2) ∧
    (∀ z, z ≠ x → (∀ p ∈ ps c, z ≠ p.1) → stored.contains z = false → m' z = m₀ z) ∧ P pre c
noncomputable def TPost {σ : Type} (h₀ : Heap) (L : Addr) (Led : σ → List (Addr × Obj)) (ps : σ → List (Str × Value)) (x : Str) (stored : List Str) (m₀ : Str → Option Value) (P : List Nat → σ → Prop) (D : σ → Prop) (pre : List Nat) (I : Addr) (oI : Obj) (s₁ : Shared) (Q : Flow → Shared → Prop) (f : Flow) (s₂ : Shared) : Prop :=
  match f with
  | .ret v => Q (.ret v) s₂
  | .brk => TEnd h₀ L Led ps x stored m₀ (fun _ => D) pre I oI s₁ s₂
  | _ => TEnd h₀ L Led ps x stored m₀ P pre I oI s₁ s₂
theorem TEnd.intro {σ : Type} {L : Addr} {Led : σ → List (Addr × Obj)} {ps : σ → List (Str × Value)} {stored : List Str} {m₀ : Str → Option Value} {P : List Nat → σ → Prop} {pre : List Nat} {I : Addr} {oI : Obj} {s₁ : Shared} (c : σ) {h' : Heap} {tk : Nat} {m' : Str → Option Value} {news' : List (Addr × Obj)}
    (F : Fr h₀ L h' m') (N : News h₀ L h' news') (hI : (I, oI) ∈ news') (hl : ∀ p ∈ Led c, p ∈ news') (hne : ∀ p ∈ Led c, p.1 ≠ I) (hk : ∀ p ∈ ps c, m' p.1 = some p.2)
    (hr : ∀ z, z ≠ x → (∀ p ∈ ps c, z ≠ p.1) → stored.contains z = false → m' z = m₀ z) (hp : P pre c) : TEnd h₀ L Led ps x stored m₀ P pre I oI s₁ { s₁ with heap := h', toks := tk } :=
  ⟨c, h', tk, m', news', rfl, F, N, hI, hl, hne, hk, hr, hp⟩

theorem TPost.brkI {σ : Type} {L : Addr} {Led : σ → List (Addr × Obj)} {ps : σ → List (Str × Value)} {stored : List Str} {m₀ : Str → Option Value} {P : List Nat → σ → Prop} {D : σ → Prop} {pre : List Nat} {I : Addr} {oI : Obj} {s₁ : Shared} (c : σ) {h' : Heap} {tk : Nat} {m' : Str → Option Value} {news' : List (Addr × Obj)}
    (F : Fr h₀ L h' m') (N : News h₀ L h' news') (hI : (I, oI) ∈ news') (hl : ∀ p ∈ Led c, p ∈ news') (hne : ∀ p ∈ Led c, p.1 ≠ I) (hk : ∀ p ∈ ps c, m' p.1 = some p.2)
    (hr : ∀ z, z ≠ x → (∀ p ∈ ps c, z ≠ p.1) → stored.contains z = false → m' z = m₀ z) (hp : D c) : TPost h₀ L Led ps x stored m₀ P D pre I oI s₁ Q .brk { s₁ with heap := h', toks := tk } :=
  ⟨c, h', tk, m', news', rfl, F, N, hI, hl, hne, hk, hr, hp⟩
/-- the statement of text_loop over its data -/
noncomputable def text_loop_P (prog : Program) (w : World) (A : Around) (E : Value → Shared → Prop) (s : Shared) (env : Env) (h₀ : Heap) (x : Str) (body : List Stmt) (Q : Flow → Shared → Prop) (xt : Str) (tx : Tok) (m₀ : Str → Option Value) (news : List (Addr × Obj)) : Prop :=
  ∀ (σ : Type) (Led : σ → List (Addr × Obj)) (ps : σ → List (Str × Value)) (stored : List Str) (P : List Nat → σ → Prop) (D : σ → Prop) (c₀ : σ) (hh : A.handled = none) (F : Fr h₀ env.locals s.heap m₀) (N : News h₀ env.locals s.heap news) (hled : Led c₀ = news) (hk : ∀ p ∈ ps c₀, m₀ p.1 = some p.2) (hp : P [] c₀) (turn : ∀ (c : σ) (pre post : List Nat) (n : Nat) t (u : Str → Option Value) h tk (I : Addr) (oI : Obj), xt.cps.toList = pre ++ n :: post → P pre c → (∀ p ∈ Led c, p.1 ≠ I) →
      Fr h₀ env.locals h (fun y => if y = x then some (.str ⟨#[n]⟩ t) else kstB (fun z => if stored.contains z then u z else m₀ z) (ps c) y) → News h₀ env.locals h ((I, oI) :: Led c) →
      wpAny (model prog w) A (execs body env) (TPost h₀ env.locals Led ps x stored m₀ P D (pre ++ [n]) I oI { s with heap := h, toks := tk } Q) E { s with heap := h, toks := tk }) (fin : ∀ c, P xt.cps.toList c → D c) (done : ∀ (c : σ) (u : Str → Option Value) h tk, D c → Fr h₀ env.locals h (fun y => if y = x then u y else kstB (fun z => if stored.contains z then u z else m₀ z) (ps c) y) → News h₀ env.locals h (Led c) → Q .next { s with heap := h, toks := tk }), wpAny (model prog w) A (pyIter (.str xt tx)) (fun it s₂ => LoopAtV prog w A h₀ env x body Q E it s₂) E s
noncomputable def text_loop_R (p : Program × World × Around × (Value → Shared → Prop) × Shared × Env × Heap × Str × (List Stmt) × (Flow → Shared → Prop) × Str × Tok × (Str → Option Value) × (List (Addr × Obj))) : Prop := text_loop_P p.1 p.2.1 p.2.2.1 p.2.2.2.1 p.2.2.2.2.1 p.2.2.2.2.2.1 p.2.2.2.2.2.2.1 p.2.2.2.2.2.2.2.1 p.2.2.2.2.2.2.2.2.1 p.2.2.2.2.2.2.2.2.2.1 p.2.2.2.2.2.2.2.2.2.2.1 p.2.2.2.2.2.2.2.2.2.2.2.1 p.2.2.2.2.2.2.2.2.2.2.2.2.1 p.2.2.2.2.2.2.2.2.2.2.2.2.2
noncomputable def text_loop_c : Program × World × Around × (Value → Shared → Prop) × Shared × Env × Heap × Str × (List Stmt) × (Flow → Shared → Prop) × Str × Tok × (Str → Option Value) × (List (Addr × Obj)) := pick (neP inferInstance (neP neW (neP neA (neP inferInstance (neP neS (neP inferInstance (neP inferInstance (neP inferInstance (neP inferInstance (neP inferInstance (neP inferInstance (neP inferInstance (neP inferInstance inferInstance))))))))))))) text_loop_R
theorem text_loop_core : text_loop_R text_loop_c := ((by
  intro prog w A E s env h₀ x body Q xt tx m₀ news σ Led ps stored P D c₀ hh F N hled hk hp turn fin done
  subst hled
  suffices key : ∀ (o : Obj) (St : Nat → Heap → Prop), Walks prog w A s.heap.objs.size [s.heap.objs.size] [s.heap.objs.size] xt.cps.size (SignAt xt) St → St 0 (s.heap.push o) → (∀ i h, St i h → ∃ oI, h.get? s.heap.objs.size = some oI) →
      LoopAtV prog w A h₀ env x body Q E (.ref s.heap.objs.size) { s with heap := s.heap.push o } by
    cases ha : xt.cps.all (· < 128)
    · exact wpAny_pyIter_wide ha (key _ _ (Walks.strWide hh _ xt tx) ⟨_, Heap.get?_push_size _ rfl, rfl, rfl⟩ fun i h q => let ⟨o, e, _⟩ := q; ⟨o, e⟩)
    · exact wpAny_pyIter_ascii ha (key _ _ (Walks.strAscii hh _ xt tx) ⟨_, Heap.get?_push_size _ rfl, rfl, rfl⟩ fun i h q => let ⟨o, e, _⟩ := q; ⟨o, e⟩)
  intro o St W hst alive
  let J : Nat → (Str → Option Value) → List (Addr × Obj) → Prop := fun i m nx => ∃ c, nx = Led c ∧ (∀ p ∈ ps c, m p.1 = some p.2) ∧ (∀ z, z ≠ x → (∀ p ∈ ps c, z ≠ p.1) → stored.contains z = false → m z = m₀ z) ∧ P (xt.cps.toList.take i) c
  refine ⟨_, _, _, _, _, St, m₀, Led c₀, J, rfl, W, ?_, ?_, ?_, hst, F.push _, (fun p hp => ⟨Heap.get?_push_of_some _ (N p hp).1, (N p hp).2⟩), ⟨c₀, rfl, hk, fun _ _ _ _ => rfl, by simpa using hp⟩, ?_, ?_⟩
  · intro hm
    exact absurd F.ns.lt ((List.mem_singleton.mp hm) ▸ Nat.lt_irrefl _)
  · intro b' hb
    rw [List.mem_singleton.mp hb]
    exact next_is_new F
  · intro p hp hI
    exact absurd (Heap.lt_size (N p hp).1) ((List.mem_singleton.mp hI) ▸ Nat.lt_irrefl _)
  · rintro i v m₁ news₁ s₁ own ⟨hh', tk', rfl⟩ hin ⟨n, u, hn, rfl⟩ ⟨c, rfl, h1, h2, hp'⟩ hoff hown hownh hback hSt F₁ N₁
    have hnew : h₀.get? s.heap.objs.size = none := next_is_new F
    have hn' : xt.cps.toList[i]? = some n := by simpa using hn
    have hs : xt.cps.toList.take (i + 1) = xt.cps.toList.take i ++ [n] := by simp [List.take_add_one, hn']
    have e : xt.cps.toList = xt.cps.toList.take i ++ n :: xt.cps.toList.drop (i + 1) := by
      have ht := List.take_append_drop (i + 1) xt.cps.toList
      rw [hs, List.append_assoc] at ht
      exact ht.symm
    obtain ⟨oI, hoI⟩ := alive _ _ hSt
    have hmem : (s.heap.objs.size, oI) ∈ own := hback _ (.head _) hnew oI hoI
    have one : ∀ p ∈ own, p = (s.heap.objs.size, oI) := fun p hp => by
      have e1 := List.mem_singleton.mp (hown p hp)
      have e2 := hownh p hp
      rw [e1] at e2
      exact Prod.ext e1 (Option.some.inj (e2.symm.trans hoI))
    refine wpAny_mono (turn c _ _ n u m₁ hh' tk' s.heap.objs.size oI e hp' (fun p hp q => hoff p hp (q ▸ .head _)) (kst_fr h1 h2 F₁) (fun p hp => ?_)) (fun f s₂ p => ?_) fun _ _ e => e
    · rcases List.mem_cons.mp hp with rfl | hp
      · exact N₁ _ (List.mem_append_left _ hmem)
      · exact N₁ _ (List.mem_append_right _ hp)
    · have fin' : TEnd h₀ env.locals Led ps x stored m₀ P (xt.cps.toList.take i ++ [n]) s.heap.objs.size oI { s with heap := hh', toks := tk' } s₂ → LoopStepU h₀ env.locals [s.heap.objs.size] own (J (i + 1)) { s with heap := hh', toks := tk' } .next s₂ := by
        rintro ⟨c', h', tk, m', news', e, F', N', hI, hl, hne, hk', hr, hp''⟩
        refine ⟨rfl, h', tk, m', Led c', e, F', fun p hp => ?_, fun p hp q => hne p hp (List.mem_singleton.mp q), c', rfl, hk', hr, by rw [hs]; exact hp''⟩
        rcases List.mem_append.mp hp with hp | hp
        · rw [one p hp]; exact N' _ hI
        · exact N' _ (hl p hp)
      cases f with
      | ret v => exact .ret p
      | brk =>
        obtain ⟨c', h', tk, m', news', e, F', N', hI, hl, hne, hk', hr, hp''⟩ := p
        refine .brk ?_
        rw [e]
        exact done c' m' h' tk hp'' (kst_frOut hk' hr F') fun p hp => N' _ (hl p hp)
      | next => exact .next (fin' p)
      | cont => exact .cont (fin' p)
  · rintro h' tk m' news' F' N' _ ⟨c, rfl, h1, h2, hp'⟩
    have hl : xt.cps.toList.take xt.cps.size = xt.cps.toList := by
      rw [← Array.length_toList, List.take_length]
    rw [hl] at hp'
    exact done c m' h' tk (fin c hp') (kst_frOut h1 h2 F') N') : ∀ (prog : Program) (w : World) (A : Around) (E : Value → Shared → Prop) (s : Shared) (env : Env) (h₀ : Heap) (x : Str) (body : List Stmt) (Q : Flow → Shared → Prop) (xt : Str) (tx : Tok) (m₀ : Str → Option Value) (news : List (Addr × Obj)), text_loop_P prog w A E s env h₀ x body Q xt tx m₀ news) _ _ _ _ _ _ _ _ _ _ _ _ _ _
theorem text_loop {σ : Type} {xt : Str} {tx : Tok} {m₀ : Str → Option Value} {news : List (Addr × Obj)} (Led : σ → List (Addr × Obj)) (ps : σ → List (Str × Value)) (stored : List Str) (P : List Nat → σ → Prop) (D : σ → Prop) (c₀ : σ)
    (hh : A.handled = none) (F : Fr h₀ env.locals s.heap m₀) (N : News h₀ env.locals s.heap news) (hled : Led c₀ = news) (hk : ∀ p ∈ ps c₀, m₀ p.1 = some p.2) (hp : P [] c₀)
    (turn : ∀ (c : σ) (pre post : List Nat) (n : Nat) t (u : Str → Option Value) h tk (I : Addr) (oI : Obj), xt.cps.toList = pre ++ n :: post → P pre c → (∀ p ∈ Led c, p.1 ≠ I) →
      Fr h₀ env.locals h (fun y => if y = x then some (.str ⟨#[n]⟩ t) else kstB (fun z => if stored.contains z then u z else m₀ z) (ps c) y) → News h₀ env.locals h ((I, oI) :: Led c) →
      wpAny (model prog w) A (execs body env) (TPost h₀ env.locals Led ps x stored m₀ P D (pre ++ [n]) I oI { s with heap := h, toks := tk } Q) E { s with heap := h, toks := tk })
    (fin : ∀ c, P xt.cps.toList c → D c)
    (done : ∀ (c : σ) (u : Str → Option Value) h tk, D c → Fr h₀ env.locals h (fun y => if y = x then u y else kstB (fun z => if stored.contains z then u z else m₀ z) (ps c) y) → News h₀ env.locals h (Led c) → Q .next { s with heap := h, toks := tk }) :
    wpAny (model prog w) A (pyIter (.str xt tx)) (fun it s₂ => LoopAtV prog w A h₀ env x body Q E it s₂) E s :=
  (show text_loop_P prog w A E s env h₀ x body Q xt tx m₀ news from close1 (R := text_loop_R) _ text_loop_core (prog, w, A, E, s, env, h₀, x, body, Q, xt, tx, m₀, news)) σ Led ps stored P D c₀ hh F N hled hk hp turn fin done

end
end

section
set_option maxRecDepth 100000
/-- one tab behind b blanks -/
noncomputable def bump (cnt : List Int) (b : Nat) : List Int :=
  let c := if cnt.length ≤ b then cnt ++ List.replicate (b - cnt.length + 1) 0 else cnt
  c.set b (c.getD b 0 + 1)
/-- counts, blanks since the last tab, signs, tabs -/
structure Sc where
  cnt : List Int
  b : Nat
  n : Nat
  nt : Nat
deriving DecidableEq
noncomputable def stepC (c : Sc) (x : Nat) : Sc := if x = 32 then ⟨c.cnt, c.b + 1, c.n + 1, c.nt⟩ else ⟨bump c.cnt c.b, 0, c.n + 1, c.nt + 1⟩
noncomputable def scanS (l : List Nat) : Sc := l.foldl stepC ⟨[], 0, 0, 0⟩
theorem scanS_snoc (l : List Nat) (x : Nat) : scanS (l ++ [x]) = stepC (scanS l) x := by simp [scanS]
theorem bump_length (cnt : List Int) (b : Nat) : (bump cnt b).length = max cnt.length (b + 1) := by
  unfold bump
  by_cases h : cnt.length ≤ b
  · rw [if_pos h, List.length_set, List.length_append, List.length_replicate, ← Nat.add_assoc, Nat.add_sub_cancel' h, Nat.max_eq_right (Nat.le_succ_of_le h)]
  · rw [if_neg h, List.length_set, Nat.max_eq_left (Nat.lt_of_not_le h)]
theorem bump_mem {cnt : List Int} {b N : Nat} (h : ∀ k ∈ cnt, 0 ≤ k ∧ k ≤ (N : Int)) : ∀ k ∈ bump cnt b, 0 ≤ k ∧ k ≤ ((N + 1 : Nat) : Int) := by
  have h' : ∀ k ∈ (if cnt.length ≤ b then cnt ++ List.replicate (b - cnt.length + 1) 0 else cnt), 0 ≤ k ∧ k ≤ (N : Int) := by
    intro k hk
    split at hk
    · rcases List.mem_append.mp hk with q | q
      · exact h k q
      · rw [(List.mem_replicate.mp q).2]; omega
    · exact h k hk
  intro k hk
  unfold bump at hk
  generalize (if cnt.length ≤ b then cnt ++ List.replicate (b - cnt.length + 1) 0 else cnt) = c at hk h'
  rcases List.mem_or_eq_of_mem_set hk with q | q
  · have := h' k q; omega
  · rw [q, List.getD_eq_getElem?_getD]
    cases e : c[b]? with
    | none => simp; omega
    | some j => have := h' j (List.mem_of_getElem? e); simp; omega
theorem scan_facts (l : List Nat) : (scanS l).b ≤ l.length ∧ (scanS l).n = l.length ∧ (scanS l).nt ≤ l.length ∧ (scanS l).cnt.length ≤ l.length ∧ ∀ k ∈ (scanS l).cnt, 0 ≤ k ∧ k ≤ (l.length : Int) := by
  suffices ∀ r : List Nat, (scanS r.reverse).b ≤ r.length ∧ (scanS r.reverse).n = r.length ∧ (scanS r.reverse).nt ≤ r.length ∧ (scanS r.reverse).cnt.length ≤ r.length ∧ ∀ k ∈ (scanS r.reverse).cnt, 0 ≤ k ∧ k ≤ (r.length : Int) by
    have := this l.reverse
    rwa [List.reverse_reverse, List.length_reverse] at this
  intro r
  induction r with
  | nil => exact ⟨Nat.le_refl _, rfl, Nat.le_refl _, Nat.le_refl _, fun k hk => nomatch hk⟩
  | cons x r ih =>
    obtain ⟨h1, h2, h3, h4, h5⟩ := ih
    rw [List.reverse_cons, scanS_snoc, List.length_cons]
    unfold stepC
    by_cases hx : x = 32
    · simp only [if_pos hx]
      refine ⟨by omega, by omega, by omega, by omega, fun k hk => ?_⟩
      have := h5 k hk; omega
    · simp only [if_neg hx]
      refine ⟨by omega, by omega, by omega, ?_, fun k hk => ?_⟩
      · rw [bump_length]; omega
      · exact bump_mem h5 k hk
end

set_option hygiene false in
local macro_rules | `(tactic| walk_at "M all") => `(tactic| first | exact List.forall_mem_nil _ | (refine List.forall_mem_cons.mpr (And.intro ?_ ?_); (· k_mem); (walk_at "M all")))
section
theorem sepT2 : True := by
  w_top off
  trivial
set_option maxRecDepth 100000
theorem fill_me2 : PySem.Challenge.rw_mr0234_01 = PySem.Challenge.rw_mr0234_01 ∧ Mine.hd.heap_1 = Mine.hd.heap_1 := by
  k_fill
  exact ⟨rfl, rfl⟩

variable {prog : Program} {w : World} {s : Shared} {base g : Heap} {fr : List Env} {gd : Option (List Code)}
  {p : Program} {loose : List Str} {mean : ExcName → Option Value} {mg mb : Str → Option Value}
  {x dx tn tc : Addr} {h1 h2 h3 h4 h5 : Int} {t1 t2 t3 t4 t5 u1 u2 u3 u6 : Tok} {e1 e2 e3 : Nat} {raw : Str} {n nt b : Int} {vs : List Value} {sm : Bool}
  {x' dx' tn' tc' : Addr} {h1' h2' h3' h4' h5' : Int} {t1' t2' t3' t4' t5' u1' u2' u3' u6' : Tok} {e1' e2' e3' : Nat} {raw' : Str} {n' nt' b' : Int} {vs' : List Value} {sm' : Bool}

noncomputable def longestOf (ns : List Int) (b : Int) : Int := max ((ns.length : Int) - 1) b
noncomputable def lessOf (n nt b : Int) (ns : List Int) (sm : Bool) (n' nt' b' : Int) (ns' : List Int) (sm' : Bool) : Bool :=
  if n ≥ n' then false else if sm && sm' then decide (nt ≤ nt')
  else (rangeKs 2 (max (longestOf ns b) (longestOf ns' b') + 1 + 1 - 2).toNat).all fun ts => decide (levelOf ts ns b nt < levelOf ts ns' b' nt')

theorem ret_bool {Q : Value → Shared → Prop} {a c : Bool} {h' : Heap} {tk : Nat} (hret : ∀ (h' : Heap) (tk' : Nat), s.heap.StaysIn h' → Q (.bool a) { s with heap := h', toks := tk' })
    (k : s.heap.StaysIn h') (e : c = a) : Q (.bool c) { s with heap := h', toks := tk } := by
  subst e; exact hret _ _ k

section
variable {ns ns' : List Int}
theorem lessOf_1 (h : n' ≤ n) : false = lessOf n nt b ns sm n' nt' b' ns' sm' := by
  unfold lessOf; rw [if_pos h]
theorem lessOf_2 (h : ¬ n' ≤ n) (h1 : sm = true) (h2 : sm' = true) : decide (nt ≤ nt') = lessOf n nt b ns sm n' nt' b' ns' sm' := by
  unfold lessOf; rw [if_neg h, h1, h2]; rfl
theorem lessOf_3 {k M : Int} {l : Nat} (h : ¬ n' ≤ n) (hs : (sm && sm') = false) (hk : k = 2 + (l : Int)) (hl : l < M.toNat) (hM : M = max (longestOf ns b) (longestOf ns' b') + 1 + 1 - 2)
    (hle : levelOf k ns' b' nt' ≤ levelOf k ns b nt) : false = lessOf n nt b ns sm n' nt' b' ns' sm' := by
  unfold lessOf; rw [if_neg h, hs, ← hM]
  simp only [Bool.false_eq_true, if_false]
  symm
  rw [List.all_eq_false]
  refine ⟨k, ?_, by simpa using hle⟩
  exact List.mem_map.mpr ⟨l, List.mem_range.mpr hl, hk.symm⟩
theorem lessOf_4 {M : Int} (h : ¬ n' ≤ n) (hs : (sm && sm') = false) (hM : M = max (longestOf ns b) (longestOf ns' b') + 1 + 1 - 2)
    (hi : ∀ ts ∈ rangeKs 2 M.toNat, levelOf ts ns b nt < levelOf ts ns' b' nt') : true = lessOf n nt b ns sm n' nt' b' ns' sm' := by
  unfold lessOf; rw [if_neg h, hs, ← hM]
  simp only [Bool.false_eq_true, if_false]
  symm
  rw [List.all_eq_true]
  exact fun ts hts => decide_eq_true (hi ts hts)
end

/-- the statement of less_spec over its data -/
noncomputable def less_spec_P (prog : Program) (w : World) (s : Shared) (base : Heap) (g : Heap) (fr : List Env) (gd : Option (List Code)) (p : Program) (loose : List Str) (mean : ExcName → Option Value) (mg : Str → Option Value) (mb : Str → Option Value) (x : Addr) (dx : Addr) (tn : Addr) (tc : Addr) (h1 : Int) (h2 : Int) (h3 : Int) (h4 : Int) (h5 : Int) (t1 : Tok) (t2 : Tok) (t3 : Tok) (t4 : Tok) (t5 : Tok) (u1 : Tok) (u2 : Tok) (u3 : Tok) (u6 : Tok) (e1 : Nat) (e2 : Nat) (e3 : Nat) (raw : Str) (n : Int) (nt : Int) (b : Int) (vs : List Value) (sm : Bool) (x' : Addr) (dx' : Addr) (tn' : Addr) (tc' : Addr) (h1' : Int) (h2' : Int) (h3' : Int) (h4' : Int) (h5' : Int) (t1' : Tok) (t2' : Tok) (t3' : Tok) (t4' : Tok) (t5' : Tok) (u1' : Tok) (u2' : Tok) (u3' : Tok) (u6' : Tok) (e1' : Nat) (e2' : Nat) (e3' : Nat) (raw' : Str) (n' : Int) (nt' : Int) (b' : Int) (vs' : List Value) (sm' : Bool) (ns : List Int) (ns' : List Int) (Q : Value → Shared → Prop) (E : Value → Shared → Prop) : Prop :=
  ∀ (S : Std (AT 600 2000 fr gd) base fr g (Mine.hd.heap_1 w.params) p loose mean mg mb s.heap (wsL x dx tn tc h1 h2 h3 h4 h5 t1 t2 t3 t4 t5 u1 u2 u3 u6 e1 e2 e3 raw n nt b vs sm ++ wsL x' dx' tn' tc' h1' h2' h3' h4' h5' t1' t2' t3' t4' t5' u1' u2' u3' u6' e1' e2' e3' raw' n' nt' b' vs' sm')) (hi : IntsAre vs ns) (hl : ns.length ≤ 100) (hn : ∀ k ∈ ns, 0 ≤ k ∧ k ≤ 100) (hb : 0 ≤ b ∧ b ≤ 50) (hi' : IntsAre vs' ns') (hl' : ns'.length ≤ 100) (hn' : ∀ k ∈ ns', 0 ≤ k ∧ k ≤ 100) (hb' : 0 ≤ b' ∧ b' ≤ 50) (hret : ∀ (h' : Heap) (tk' : Nat), s.heap.StaysIn h' → Q (.bool (lessOf n nt b ns sm n' nt' b' ns' sm')) { s with heap := h', toks := tk' }), wpAny (model prog w) (AT 600 2000 fr gd) (call (.ref 128) [.ref x, .ref x']) Q E s
noncomputable def less_spec_R (p : Program × World × Shared × Heap × Heap × (List Env) × (Option (List Code)) × Program × (List Str) × (ExcName → Option Value) × (Str → Option Value) × (Str → Option Value) × Addr × Addr × Addr × Addr × Int × Int × Int × Int × Int × Tok × Tok × Tok × Tok × Tok × Tok × Tok × Tok × Tok × Nat × Nat × Nat × Str × Int × Int × Int × (List Value) × Bool × Addr × Addr × Addr × Addr × Int × Int × Int × Int × Int × Tok × Tok × Tok × Tok × Tok × Tok × Tok × Tok × Tok × Nat × Nat × Nat × Str × Int × Int × Int × (List Value) × Bool × (List Int) × (List Int) × (Value → Shared → Prop) × (Value → Shared → Prop)) : Prop := less_spec_P p.1 p.2.1 p.2.2.1 p.2.2.2.1 p.2.2.2.2.1 p.2.2.2.2.2.1 p.2.2.2.2.2.2.1 p.2.2.2.2.2.2.2.1 p.2.2.2.2.2.2.2.2.1 p.2.2.2.2.2.2.2.2.2.1 p.2.2.2.2.2.2.2.2.2.2.1 p.2.2.2.2.2.2.2.2.2.2.2.1 p.2.2.2.2.2.2.2.2.2.2.2.2.1 p.2.2.2.2.2.2.2.2.2.2.2.2.2.1 p.2.2.2.2.2.2.2.2.2.2.2.2.2.2.1 p.2.2.2.2.2.2.2.2.2.2.2.2.2.2.2.1 p.2.2.2.2.2.2.2.2.2.2.2.2.2.2.2.2.1 p.2.2.2.2.2.2.2.2.2.2.2.2.2.2.2.2.2.1 p.2.2.2.2.2.2.2.2.2.2.2.2.2.2.2.2.2.2.1 p.2.2.2.2.2.2.2.2.2.2.2.2.2.2.2.2.2.2.2.1 p.2.2.2.2.2.2.2.2.2.2.2.2.2.2.2.2.2.2.2.2.1 p.2.2.2.2.2.2.2.2.2.2.2.2.2.2.2.2.2.2.2.2.2.1 p.2.2.2.2.2.2.2.2.2.2.2.2.2.2.2.2.2.2.2.2.2.2.1 p.2.2.2.2.2.2.2.2.2.2.2.2.2.2.2.2.2.2.2.2.2.2.2.1 p.2.2.2.2.2.2.2.2.2.2.2.2.2.2.2.2.2.2.2.2.2.2.2.2.1 p.2.2.2.2.2.2.2.2.2.2.2.2.2.2.2.2.2.2.2.2.2.2.2.2.2.1 p.2.2.2.2.2.2.2.2.2.2.2.2.2.2.2.2.2.2.2.2.2.2.2.2.2.2.1 p.2.2.2.2.2.2.2.2.2.2.2.2.2.2.2.2.2.2.2.2.2.2.2.2.2.2.2.1 p.2.2.2.2.2.2.2.2.2.2.2.2.2.2.2.2.2.2.2.2.2.2.2.2.2.2.2.2.1 p.2.2.2.2.2.2.2.2.2.2.2.2.2.2.2.2.2.2.2.2.2.2.2.2.2.2.2.2.2.1 p.2.2.2.2.2.2.2.2.2.2.2.2.2.2.2.2.2.2.2.2.2.2.2.2.2.2.2.2.2.2.1 p.2.2.2.2.2.2.2.2.2.2.2.2.2.2.2.2.2.2.2.2.2.2.2.2.2.2.2.2.2.2.2.1 p.2.2.2.2.2.2.2.2.2.2.2.2.2.2.2.2.2.2.2.2.2.2.2.2.2.2.2.2.2.2.2.2.1 p.2.2.2.2.2.2.2.2.2.2.2.2.2.2.2.2.2.2.2.2.2.2.2.2.2.2.2.2.2.2.2.2.2.1 p.2.2.2.2.2.2.2.2.2.2.2.2.2.2.2.2.2.2.2.2.2.2.2.2.2.2.2.2.2.2.2.2.2.2.1 p.2.2.2.2.2.2.2.2.2.2.2.2.2.2.2.2.2.2.2.2.2.2.2.2.2.2.2.2.2.2.2.2.2.2.2.1 p.2.2.2.2.2.2.2.2.2.2.2.2.2.2.2.2.2.2.2.2.2.2.2.2.2.2.2.2.2.2.2.2.2.2.2.2.1 p.2.2.2.2.2.2.2.2.2.2.2.2.2.2.2.2.2.2.2.2.2.2.2.2.2.2.2.2.2.2.2.2.2.2.2.2.2.1 p.2.2.2.2.2.2.2.2.2.2.2.2.2.2.2.2.2.2.2.2.2.2.2.2.2.2.2.2.2.2.2.2.2.2.2.2.2.2.1 p.2.2.2.2.2.2.2.2.2.2.2.2.2.2.2.2.2.2.2.2.2.2.2.2.2.2.2.2.2.2.2.2.2.2.2.2.2.2.2.1 p.2.2.2.2.2.2.2.2.2.2.2.2.2.2.2.2.2.2.2.2.2.2.2.2.2.2.2.2.2.2.2.2.2.2.2.2.2.2.2.2.1 p.2.2.2.2.2.2.2.2.2.2.2.2.2.2.2.2.2.2.2.2.2.2.2.2.2.2.2.2.2.2.2.2.2.2.2.2.2.2.2.2.2.1 p.2.2.2.2.2.2.2.2.2.2.2.2.2.2.2.2.2.2.2.2.2.2.2.2.2.2.2.2.2.2.2.2.2.2.2.2.2.2.2.2.2.2.1 p.2.2.2.2.2.2.2.2.2.2.2.2.2.2.2.2.2.2.2.2.2.2.2.2.2.2.2.2.2.2.2.2.2.2.2.2.2.2.2.2.2.2.2.1 p.2.2.2.2.2.2.2.2.2.2.2.2.2.2.2.2.2.2.2.2.2.2.2.2.2.2.2.2.2.2.2.2.2.2.2.2.2.2.2.2.2.2.2.2.1 p.2.2.2.2.2.2.2.2.2.2.2.2.2.2.2.2.2.2.2.2.2.2.2.2.2.2.2.2.2.2.2.2.2.2.2.2.2.2.2.2.2.2.2.2.2.1 p.2.2.2.2.2.2.2.2.2.2.2.2.2.2.2.2.2.2.2.2.2.2.2.2.2.2.2.2.2.2.2.2.2.2.2.2.2.2.2.2.2.2.2.2.2.2.1 p.2.2.2.2.2.2.2.2.2.2.2.2.2.2.2.2.2.2.2.2.2.2.2.2.2.2.2.2.2.2.2.2.2.2.2.2.2.2.2.2.2.2.2.2.2.2.2.1 p.2.2.2.2.2.2.2.2.2.2.2.2.2.2.2.2.2.2.2.2.2.2.2.2.2.2.2.2.2.2.2.2.2.2.2.2.2.2.2.2.2.2.2.2.2.2.2.2.1 p.2.2.2.2.2.2.2.2.2.2.2.2.2.2.2.2.2.2.2.2.2.2.2.2.2.2.2.2.2.2.2.2.2.2.2.2.2.2.2.2.2.2.2.2.2.2.2.2.2.1 p.2.2.2.2.2.2.2.2.2.2.2.2.2.2.2.2.2.2.2.2.2.2.2.2.2.2.2.2.2.2.2.2.2.2.2.2.2.2.2.2.2.2.2.2.2.2.2.2.2.2.1 p.2.2.2.2.2.2.2.2.2.2.2.2.2.2.2.2.2.2.2.2.2.2.2.2.2.2.2.2.2.2.2.2.2.2.2.2.2.2.2.2.2.2.2.2.2.2.2.2.2.2.2.1 p.2.2.2.2.2.2.2.2.2.2.2.2.2.2.2.2.2.2.2.2.2.2.2.2.2.2.2.2.2.2.2.2.2.2.2.2.2.2.2.2.2.2.2.2.2.2.2.2.2.2.2.2.1 p.2.2.2.2.2.2.2.2.2.2.2.2.2.2.2.2.2.2.2.2.2.2.2.2.2.2.2.2.2.2.2.2.2.2.2.2.2.2.2.2.2.2.2.2.2.2.2.2.2.2.2.2.2.1 p.2.2.2.2.2.2.2.2.2.2.2.2.2.2.2.2.2.2.2.2.2.2.2.2.2.2.2.2.2.2.2.2.2.2.2.2.2.2.2.2.2.2.2.2.2.2.2.2.2.2.2.2.2.2.1 p.2.2.2.2.2.2.2.2.2.2.2.2.2.2.2.2.2.2.2.2.2.2.2.2.2.2.2.2.2.2.2.2.2.2.2.2.2.2.2.2.2.2.2.2.2.2.2.2.2.2.2.2.2.2.2.1 p.2.2.2.2.2.2.2.2.2.2.2.2.2.2.2.2.2.2.2.2.2.2.2.2.2.2.2.2.2.2.2.2.2.2.2.2.2.2.2.2.2.2.2.2.2.2.2.2.2.2.2.2.2.2.2.2.1 p.2.2.2.2.2.2.2.2.2.2.2.2.2.2.2.2.2.2.2.2.2.2.2.2.2.2.2.2.2.2.2.2.2.2.2.2.2.2.2.2.2.2.2.2.2.2.2.2.2.2.2.2.2.2.2.2.2.1 p.2.2.2.2.2.2.2.2.2.2.2.2.2.2.2.2.2.2.2.2.2.2.2.2.2.2.2.2.2.2.2.2.2.2.2.2.2.2.2.2.2.2.2.2.2.2.2.2.2.2.2.2.2.2.2.2.2.2.1 p.2.2.2.2.2.2.2.2.2.2.2.2.2.2.2.2.2.2.2.2.2.2.2.2.2.2.2.2.2.2.2.2.2.2.2.2.2.2.2.2.2.2.2.2.2.2.2.2.2.2.2.2.2.2.2.2.2.2.2.1 p.2.2.2.2.2.2.2.2.2.2.2.2.2.2.2.2.2.2.2.2.2.2.2.2.2.2.2.2.2.2.2.2.2.2.2.2.2.2.2.2.2.2.2.2.2.2.2.2.2.2.2.2.2.2.2.2.2.2.2.2.1 p.2.2.2.2.2.2.2.2.2.2.2.2.2.2.2.2.2.2.2.2.2.2.2.2.2.2.2.2.2.2.2.2.2.2.2.2.2.2.2.2.2.2.2.2.2.2.2.2.2.2.2.2.2.2.2.2.2.2.2.2.2.1 p.2.2.2.2.2.2.2.2.2.2.2.2.2.2.2.2.2.2.2.2.2.2.2.2.2.2.2.2.2.2.2.2.2.2.2.2.2.2.2.2.2.2.2.2.2.2.2.2.2.2.2.2.2.2.2.2.2.2.2.2.2.2.1 p.2.2.2.2.2.2.2.2.2.2.2.2.2.2.2.2.2.2.2.2.2.2.2.2.2.2.2.2.2.2.2.2.2.2.2.2.2.2.2.2.2.2.2.2.2.2.2.2.2.2.2.2.2.2.2.2.2.2.2.2.2.2.2.1 p.2.2.2.2.2.2.2.2.2.2.2.2.2.2.2.2.2.2.2.2.2.2.2.2.2.2.2.2.2.2.2.2.2.2.2.2.2.2.2.2.2.2.2.2.2.2.2.2.2.2.2.2.2.2.2.2.2.2.2.2.2.2.2.2.1 p.2.2.2.2.2.2.2.2.2.2.2.2.2.2.2.2.2.2.2.2.2.2.2.2.2.2.2.2.2.2.2.2.2.2.2.2.2.2.2.2.2.2.2.2.2.2.2.2.2.2.2.2.2.2.2.2.2.2.2.2.2.2.2.2.2.1 p.2.2.2.2.2.2.2.2.2.2.2.2.2.2.2.2.2.2.2.2.2.2.2.2.2.2.2.2.2.2.2.2.2.2.2.2.2.2.2.2.2.2.2.2.2.2.2.2.2.2.2.2.2.2.2.2.2.2.2.2.2.2.2.2.2.2.1 p.2.2.2.2.2.2.2.2.2.2.2.2.2.2.2.2.2.2.2.2.2.2.2.2.2.2.2.2.2.2.2.2.2.2.2.2.2.2.2.2.2.2.2.2.2.2.2.2.2.2.2.2.2.2.2.2.2.2.2.2.2.2.2.2.2.2.2.1 p.2.2.2.2.2.2.2.2.2.2.2.2.2.2.2.2.2.2.2.2.2.2.2.2.2.2.2.2.2.2.2.2.2.2.2.2.2.2.2.2.2.2.2.2.2.2.2.2.2.2.2.2.2.2.2.2.2.2.2.2.2.2.2.2.2.2.2.2.1 p.2.2.2.2.2.2.2.2.2.2.2.2.2.2.2.2.2.2.2.2.2.2.2.2.2.2.2.2.2.2.2.2.2.2.2.2.2.2.2.2.2.2.2.2.2.2.2.2.2.2.2.2.2.2.2.2.2.2.2.2.2.2.2.2.2.2.2.2.2
noncomputable def less_spec_c : Program × World × Shared × Heap × Heap × (List Env) × (Option (List Code)) × Program × (List Str) × (ExcName → Option Value) × (Str → Option Value) × (Str → Option Value) × Addr × Addr × Addr × Addr × Int × Int × Int × Int × Int × Tok × Tok × Tok × Tok × Tok × Tok × Tok × Tok × Tok × Nat × Nat × Nat × Str × Int × Int × Int × (List Value) × Bool × Addr × Addr × Addr × Addr × Int × Int × Int × Int × Int × Tok × Tok × Tok × Tok × Tok × Tok × Tok × Tok × Tok × Nat × Nat × Nat × Str × Int × Int × Int × (List Value) × Bool × (List Int) × (List Int) × (Value → Shared → Prop) × (Value → Shared → Prop) := pick (neP inferInstance (neP neW (neP neS (neP inferInstance (neP inferInstance (neP inferInstance (neP inferInstance (neP inferInstance (neP inferInstance (neP inferInstance (neP inferInstance (neP inferInstance (neP inferInstance (neP inferInstance (neP inferInstance (neP inferInstance (neP inferInstance (neP inferInstance (neP inferInstance (neP inferInstance (neP inferInstance (neP inferInstance (neP inferInstance (neP inferInstance (neP inferInstance (neP inferInstance (neP inferInstance (neP inferInstance (neP inferInstance (neP inferInstance (neP inferInstance (neP inferInstance (neP inferInstance (neP inferInstance (neP inferInstance (neP inferInstance (neP inferInstance (neP inferInstance (neP inferInstance (neP inferInstance (neP inferInstance (neP inferInstance (neP inferInstance (neP inferInstance (neP inferInstance (neP inferInstance (neP inferInstance (neP inferInstance (neP inferInstance (neP inferInstance (neP inferInstance (neP inferInstance (neP inferInstance (neP inferInstance (neP inferInstance (neP inferInstance (neP inferInstance (neP inferInstance (neP inferInstance (neP inferInstance (neP inferInstance (neP inferInstance (neP inferInstance (neP inferInstance (neP inferInstance (neP inferInstance (neP inferInstance (neP inferInstance (neP inferInstance inferInstance))))))))))))))))))))))))))))))))))))))))))))))))))))))))))))))))))))) less_spec_R
set_option maxHeartbeats 4000000 in
set_option pp.deepTerms false in
set_option pp.deepTerms.threshold 4 in
set_option pp.maxSteps 1000 in
theorem less_spec_core : less_spec_R less_spec_c := ((by
  intro prog w s base g fr gd p loose mean mg mb x dx tn tc h1 h2 h3 h4 h5 t1 t2 t3 t4 t5 u1 u2 u3 u6 e1 e2 e3 raw n nt b vs sm x' dx' tn' tc' h1' h2' h3' h4' h5' t1' t2' t3' t4' t5' u1' u2' u3' u6' e1' e2' e3' raw' n' nt' b' vs' sm' ns ns' Q E S hi hl hn hb hi' hl' hn' hb' hret
  have hM9 := kn_rng hl hl' hb hb'
  refine wpAny_call ?_
  k_with "pyIter ref" => k_search (fun pre => ∀ ts ∈ pre, levelOf ts ns b nt < levelOf ts ns' b' nt')
  k_dflt (refine' enterC ?kS ?k6 ?k7 ?k8 ?k9 ?kB ?_ ?c2 ?c3 ?c4 ?c5; (case kS => assumption); (case k6 => k_is); (case k7 => k_is); (case k8 => exact Nat.le_of_ble_eq_true rfl); (case k9 => exact BindsTo.of_eq rfl); (case c5 => decide); (case kB => exact locs rfl); (case c2 => exact rfl); (case c3 => exact rfl); (case c4 => exact rfl); k_whole; intro zzL' zzh' zzB' zzX' zzT' zzF' zzN'; (try dsimp only); (try k_fold))
  dsimp only [wsL, List.cons_append, List.nil_append] at *
  repeat' (first | (k_unfold; (try dsimp only)) | (k_end; wrow_close) | (first | ((with_reducible show wpAny _ _ (call (Value.ref _) _) _ _ _); first | with_reducible (k_here; (with_reducible show wpAny _ _ (call (Value.ref 107) _) _ _ _); k_dflt (refine' indent_use ?k1 ?k2 ?k3 ?k4 ?k5 ?k6 ?k7 ?k8 ?kn ?km ?kM ?k9 ?k10 ?k11 ?k12 ?_; (case k1 => k_asm); (case k2 => k_asm); (case k3 => k_asm); (case k4 => k_asm); (case k5 => k_asm); (case k6 => walk_at "M all"); (case k7 => assumption); (case k8 => assumption); (case kn => assumption); (case km => l_fact); (case kM => first | exact kn_le (by assumption) (by assumption) (by assumption) (by assumption) (by assumption) (by assumption) | l_fact); (case k9 => exact Nat.le_of_ble_eq_true rfl); (case k10 => exact Nat.le_of_ble_eq_true rfl); (case k11 => exact rfl); (case k12 => exact rfl); k_whole; intro zzt9 zzh9 zztk9 zzF9 zzN9; (try dsimp only); (try k_sweep); (try k_fold))) | with_reducible (k_here; (with_reducible show wpAny _ _ (call (Value.ref 100) _) _ _ _); k_dflt (refine' longest_use ?k1 ?k2 ?k3 ?k4 ?k5 ?k6 ?k7 ?k8 ?k9 ?k10 ?k11 ?k12 ?_; (case k1 => k_asm); (case k2 => k_asm); (case k3 => k_asm); (case k4 => k_asm); (case k5 => k_asm); (case k6 => walk_at "M all"); (case k7 => assumption); (case k8 => assumption); (case k9 => exact Nat.le_of_ble_eq_true rfl); (case k10 => exact Nat.le_of_ble_eq_true rfl); (case k11 => exact rfl); (case k12 => exact rfl); k_whole; intro zzt9 zzh9 zztk9 zzF9 zzN9; (try dsimp only); (try k_sweep); (try k_fold)))) | walk1) | (dsimp only; (first | ((with_reducible show wpAny _ _ (call (Value.ref _) _) _ _ _); first | with_reducible (k_here; (with_reducible show wpAny _ _ (call (Value.ref 107) _) _ _ _); k_dflt (refine' indent_use ?k1 ?k2 ?k3 ?k4 ?k5 ?k6 ?k7 ?k8 ?kn ?km ?kM ?k9 ?k10 ?k11 ?k12 ?_; (case k1 => k_asm); (case k2 => k_asm); (case k3 => k_asm); (case k4 => k_asm); (case k5 => k_asm); (case k6 => walk_at "M all"); (case k7 => assumption); (case k8 => assumption); (case kn => assumption); (case km => l_fact); (case kM => first | exact kn_le (by assumption) (by assumption) (by assumption) (by assumption) (by assumption) (by assumption) | l_fact); (case k9 => exact Nat.le_of_ble_eq_true rfl); (case k10 => exact Nat.le_of_ble_eq_true rfl); (case k11 => exact rfl); (case k12 => exact rfl); k_whole; intro zzt9 zzh9 zztk9 zzF9 zzN9; (try dsimp only); (try k_sweep); (try k_fold))) | with_reducible (k_here; (with_reducible show wpAny _ _ (call (Value.ref 100) _) _ _ _); k_dflt (refine' longest_use ?k1 ?k2 ?k3 ?k4 ?k5 ?k6 ?k7 ?k8 ?k9 ?k10 ?k11 ?k12 ?_; (case k1 => k_asm); (case k2 => k_asm); (case k3 => k_asm); (case k4 => k_asm); (case k5 => k_asm); (case k6 => walk_at "M all"); (case k7 => assumption); (case k8 => assumption); (case k9 => exact Nat.le_of_ble_eq_true rfl); (case k10 => exact Nat.le_of_ble_eq_true rfl); (case k11 => exact rfl); (case k12 => exact rfl); k_whole; intro zzt9 zzh9 zztk9 zzF9 zzN9; (try dsimp only); (try k_sweep); (try k_fold)))) | walk1)) | (leave1; walk_say "STEP leave1"; try dsimp only) | fail "no step")
  all_goals change Q (Value.bool _) _
  all_goals refine ret_bool (s := s) hret (by first | exact S.keeps (by assumption) (by assumption) (fun _ hq => hq) | exact S.keeps (by assumption) (by assumption) (by walk_at "M all")) ?_
  all_goals first
    | exact lessOf_1 (by assumption)
    | exact lessOf_2 (by assumption) (by assumption) (by assumption)
    | exact lessOf_3 (by assumption) (by simp [*]) kEq kLt (by unfold longestOf; (repeat' split) <;> omega) (by assumption)
    | exact lessOf_4 (by assumption) (by simp [*]) (by unfold longestOf; (repeat' split) <;> omega) kInv
    | trace_state) : ∀ (prog : Program) (w : World) (s : Shared) (base : Heap) (g : Heap) (fr : List Env) (gd : Option (List Code)) (p : Program) (loose : List Str) (mean : ExcName → Option Value) (mg : Str → Option Value) (mb : Str → Option Value) (x : Addr) (dx : Addr) (tn : Addr) (tc : Addr) (h1 : Int) (h2 : Int) (h3 : Int) (h4 : Int) (h5 : Int) (t1 : Tok) (t2 : Tok) (t3 : Tok) (t4 : Tok) (t5 : Tok) (u1 : Tok) (u2 : Tok) (u3 : Tok) (u6 : Tok) (e1 : Nat) (e2 : Nat) (e3 : Nat) (raw : Str) (n : Int) (nt : Int) (b : Int) (vs : List Value) (sm : Bool) (x' : Addr) (dx' : Addr) (tn' : Addr) (tc' : Addr) (h1' : Int) (h2' : Int) (h3' : Int) (h4' : Int) (h5' : Int) (t1' : Tok) (t2' : Tok) (t3' : Tok) (t4' : Tok) (t5' : Tok) (u1' : Tok) (u2' : Tok) (u3' : Tok) (u6' : Tok) (e1' : Nat) (e2' : Nat) (e3' : Nat) (raw' : Str) (n' : Int) (nt' : Int) (b' : Int) (vs' : List Value) (sm' : Bool) (ns : List Int) (ns' : List Int) (Q : Value → Shared → Prop) (E : Value → Shared → Prop), less_spec_P prog w s base g fr gd p loose mean mg mb x dx tn tc h1 h2 h3 h4 h5 t1 t2 t3 t4 t5 u1 u2 u3 u6 e1 e2 e3 raw n nt b vs sm x' dx' tn' tc' h1' h2' h3' h4' h5' t1' t2' t3' t4' t5' u1' u2' u3' u6' e1' e2' e3' raw' n' nt' b' vs' sm' ns ns' Q E) _ _ _ _ _ _ _ _ _ _ _ _ _ _ _ _ _ _ _ _ _ _ _ _ _ _ _ _ _ _ _ _ _ _ _ _ _ _ _ _ _ _ _ _ _ _ _ _ _ _ _ _ _ _ _ _ _ _ _ _ _ _ _ _ _ _ _ _ _ _
theorem less_spec {ns ns' : List Int} {Q E : Value → Shared → Prop}
    (S : Std (AT 600 2000 fr gd) base fr g (Mine.hd.heap_1 w.params) p loose mean mg mb s.heap (wsL x dx tn tc h1 h2 h3 h4 h5 t1 t2 t3 t4 t5 u1 u2 u3 u6 e1 e2 e3 raw n nt b vs sm ++ wsL x' dx' tn' tc' h1' h2' h3' h4' h5' t1' t2' t3' t4' t5' u1' u2' u3' u6' e1' e2' e3' raw' n' nt' b' vs' sm'))
    (hi : IntsAre vs ns) (hl : ns.length ≤ 100) (hn : ∀ k ∈ ns, 0 ≤ k ∧ k ≤ 100) (hb : 0 ≤ b ∧ b ≤ 50)
    (hi' : IntsAre vs' ns') (hl' : ns'.length ≤ 100) (hn' : ∀ k ∈ ns', 0 ≤ k ∧ k ≤ 100) (hb' : 0 ≤ b' ∧ b' ≤ 50) 
    (hret : ∀ (h' : Heap) (tk' : Nat), s.heap.StaysIn h' → Q (.bool (lessOf n nt b ns sm n' nt' b' ns' sm')) { s with heap := h', toks := tk' }) :
    wpAny (model prog w) (AT 600 2000 fr gd) (call (.ref 128) [.ref x, .ref x']) Q E s :=
  (show less_spec_P prog w s base g fr gd p loose mean mg mb x dx tn tc h1 h2 h3 h4 h5 t1 t2 t3 t4 t5 u1 u2 u3 u6 e1 e2 e3 raw n nt b vs sm x' dx' tn' tc' h1' h2' h3' h4' h5' t1' t2' t3' t4' t5' u1' u2' u3' u6' e1' e2' e3' raw' n' nt' b' vs' sm' ns ns' Q E from close1 (R := less_spec_R) _ less_spec_core (prog, w, s, base, g, fr, gd, p, loose, mean, mg, mb, x, dx, tn, tc, h1, h2, h3, h4, h5, t1, t2, t3, t4, t5, u1, u2, u3, u6, e1, e2, e3, raw, n, nt, b, vs, sm, x', dx', tn', tc', h1', h2', h3', h4', h5', t1', t2', t3', t4', t5', u1', u2', u3', u6', e1', e2', e3', raw', n', nt', b', vs', sm', ns, ns', Q, E)) S hi hl hn hb hi' hl' hn' hb' hret
end

section
set_option maxRecDepth 100000
/-- the value reads as this datum in the heap -/
noncomputable def RD (h : Heap) (v : Value) (d : Dat) : Prop := ∃ as, Reads h v (kqdP d) as
noncomputable def RDs (h : Heap) (vs : List Value) (ds : List Dat) : Prop := ∃ as, ReadsAll h vs (kqdPs ds) as
section
variable {h h' : Heap} {v : Value} {d : Dat} {vs : List Value} {ds : List Dat}
theorem readsAll_keeps (k : h.StaysIn h') : ∀ {vs : List Value} {ds : List PyData} {as : List Addr}, ReadsAll h vs ds as → ReadsAll h' vs ds as := fun r => ReadsAll.keeps k r
theorem RD.keeps (r : RD h v d) (k : h.StaysIn h') : RD h' v d := let ⟨as, q⟩ := r; ⟨as, Reads.keeps k q⟩
theorem RDs.keeps (r : RDs h vs ds) (k : h.StaysIn h') : RDs h' vs ds := let ⟨as, q⟩ := r; ⟨as, ReadsAll.keeps k q⟩
theorem RD.none : RD h .none .none := ⟨_, .none⟩
theorem RD.int {i : Int} {t : Tok} : RD h (.int i t) (.int i) := ⟨_, .int i t⟩
theorem RD.str {x : Str} {t : Tok} : RD h (.str x t) (.str x) := ⟨_, .str x t⟩
theorem RDs.nil : RDs h [] [] := ⟨_, .nil⟩
theorem RDs.cons (a : RD h v d) (b : RDs h vs ds) : RDs h (v :: vs) (d :: ds) := let ⟨_, p⟩ := a; let ⟨_, q⟩ := b; ⟨_, .cons p q⟩
theorem RD.tuple {a : Addr} {n : Nat} (ha : h.get? a = some (tupO vs n)) (r : RDs h vs ds) : RD h (.ref a) (.tuple ds) :=
  let ⟨as, q⟩ := r; ⟨as, by rw [kqdP]; exact reads_tuple_at ha rfl rfl (by simpa using q)⟩
theorem RD.list {a : Addr} {n : Nat} (ha : h.get? a = some (W.listOf vs.toArray n)) (r : RDs h vs ds) : RD h (.ref a) (.list ds) :=
  let ⟨as, q⟩ := r; ⟨_, by rw [kqdP]; exact reads_list_at ha rfl rfl (by simpa [W.listOf] using q)⟩
theorem RDs.ints {ns : List Int} (hi : IntsAre vs ns) : RDs h vs (ns.map .int) := by
  induction hi with
  | nil => exact .nil
  | cons n t _ ih => exact .cons .int ih
end
section
variable {prog : Program} {w : World} {A : Around} {E : Value → Shared → Prop} {s : Shared}
theorem eq_dat {a b : Value} {d e : Dat} (c : Bool) (hc : c = true ↔ d = e) {Q : Value → Shared → Prop} (ra : RD s.heap a d) (rb : RD s.heap b e) (ha : kqdOk 9 d = true) (hb : kqdOk 9 e = true) (hu : A.units + 64 < cLine)
    (h : Q (.bool c) s) : wpAny (model prog w) A (compareOp .Eq a b) Q E s := by
  obtain ⟨as, ra⟩ := ra
  obtain ⟨bs, rb⟩ := rb
  have la := kqd_lay 9 d ha
  have lb := kqd_lay 9 e hb
  have e : PyData.eqv (kqdP d) (kqdP e) = c := by
    have q := kqd_eqv 9 d e 9 ha hb
    rw [Bool.eq_iff_iff, hc, q]
  refine eq_dataH ra rb ?_ ?_ hu (by rw [e]; exact h)
  · unfold SeqAt.shaped; rw [la.1, Bool.true_and]; exact decide_eq_true (Nat.le_trans la.2 (by decide))
  · unfold SeqAt.shaped; rw [lb.1, Bool.true_and]; exact decide_eq_true (Nat.le_trans lb.2 (by decide))
theorem ok_ints (n : Nat) (ns : List Int) : (ns.map Dat.int).all (kqdOk n) = true := by
  induction ns with
  | nil => rfl
  | cons k r ih => simp only [List.map_cons, List.all_cons, ih, Bool.and_true]; cases n <;> rfl
theorem ints_inj {ns ms : List Int} (h : ns.map Dat.int = ms.map Dat.int) : ns = ms := by
  induction ns generalizing ms with
  | nil => cases ms with
    | nil => rfl
    | cons _ _ => cases h
  | cons k r ih => cases ms with
    | nil => cases h
    | cons j q =>
      simp only [List.map_cons, List.cons.injEq, Dat.int.injEq] at h
      rw [h.1, ih h.2]
theorem eq_norm {tn tn' tc tc' : Addr} {vs vs' : List Value} {ns ns' : List Int} {b b' : Int} {u u' : Tok} {e2 e3 e2' e3' : Nat} {Q : Value → Shared → Prop}
    (h1 : s.heap.get? tn = some (tupO [.ref tc, .int b u] e2)) (h2 : s.heap.get? tc = some (tupO vs e3)) (h1' : s.heap.get? tn' = some (tupO [.ref tc', .int b' u'] e2')) (h2' : s.heap.get? tc' = some (tupO vs' e3'))
    (hi : IntsAre vs ns) (hi' : IntsAre vs' ns') (hu : A.units + 64 < cLine) (h : Q (.bool (decide (ns = ns' ∧ b = b'))) s) : wpAny (model prog w) A (compareOp .Eq (.ref tn) (.ref tn')) Q E s := by
  refine eq_dat (d := .tuple [.tuple (ns.map .int), .int b]) (e := .tuple [.tuple (ns'.map .int), .int b']) (decide (ns = ns' ∧ b = b')) ?_ (RD.tuple h1 (.cons (RD.tuple h2 (RDs.ints hi)) (.cons .int .nil))) (RD.tuple h1' (.cons (RD.tuple h2' (RDs.ints hi')) (.cons .int .nil))) ?_ ?_ hu h
  · rw [decide_eq_true_eq]
    refine ⟨fun q => by rw [q.1, q.2], fun q => ?_⟩
    simp only [Dat.tuple.injEq, List.cons.injEq, Dat.int.injEq, and_true] at q
    exact ⟨ints_inj q.1, q.2⟩
  · simp [kqdOk]
  · simp [kqdOk]
end
end

section
theorem sepT3 : True := by
  w_top off
  trivial
local macro_rules | `(tactic| walk_at "M pad") => `(tactic| skip)
set_option maxRecDepth 100000
theorem fill_me3 : PySem.Challenge.rw_mr0234_01 = PySem.Challenge.rw_mr0234_01 ∧ Mine.hd.heap_1 = Mine.hd.heap_1 := by
  k_fill
  exact ⟨rfl, rfl⟩


variable {prog : Program} {w : World} {s : Shared} {base g : Heap} {fr : List Env} {gd : Option (List Code)}
  {p : Program} {loose : List Str} {mean : ExcName → Option Value} {mg mb : Str → Option Value}
  {x dx tn tc : Addr} {h1 h2 h3 h4 h5 : Int} {t1 t2 t3 t4 t5 u1 u2 u3 u6 : Tok} {e1 e2 e3 : Nat} {raw : Str} {n nt b : Int} {vs : List Value} {sm : Bool}
  {x' dx' tn' tc' : Addr} {h1' h2' h3' h4' h5' : Int} {t1' t2' t3' t4' t5' u1' u2' u3' u6' : Tok} {e1' e2' e3' : Nat} {raw' : Str} {n' nt' b' : Int} {vs' : List Value} {sm' : Bool}


set_option maxHeartbeats 4000000 in
set_option pp.deepTerms false in
set_option pp.deepTerms.threshold 4 in
set_option pp.maxSteps 1000 in
theorem equal_spec {ns ns' : List Int} {Q E : Value → Shared → Prop}
    (S : Std (AT 600 2000 fr gd) base fr g (Mine.hd.heap_1 w.params) p loose mean mg mb s.heap (wsL x dx tn tc h1 h2 h3 h4 h5 t1 t2 t3 t4 t5 u1 u2 u3 u6 e1 e2 e3 raw n nt b vs sm ++ wsL x' dx' tn' tc' h1' h2' h3' h4' h5' t1' t2' t3' t4' t5' u1' u2' u3' u6' e1' e2' e3' raw' n' nt' b' vs' sm'))
    (hi : IntsAre vs ns) (hl : ns.length ≤ 100) (hn : ∀ k ∈ ns, 0 ≤ k ∧ k ≤ 100) (hb : 0 ≤ b ∧ b ≤ 50)
    (hi' : IntsAre vs' ns') (hl' : ns'.length ≤ 100) (hn' : ∀ k ∈ ns', 0 ≤ k ∧ k ≤ 100) (hb' : 0 ≤ b' ∧ b' ≤ 50) 
    (hret : ∀ (h' : Heap) (tk' : Nat), s.heap.StaysIn h' → Q (.bool (decide (ns = ns' ∧ b = b'))) { s with heap := h', toks := tk' }) :
    wpAny (model prog w) (AT 600 2000 fr gd) (call (.ref 114) [.ref x, .ref x']) Q E s := by
  refine wpAny_call ?_
  k_dflt (refine' enterC ?kS ?k6 ?k7 ?k8 ?k9 ?kB ?_ ?c2 ?c3 ?c4 ?c5; (case kS => assumption); (case k6 => k_is); (case k7 => k_is); (case k8 => exact Nat.le_of_ble_eq_true rfl); (case k9 => exact BindsTo.of_eq rfl); (case c5 => decide); (case kB => exact locs rfl); (case c2 => exact rfl); (case c3 => exact rfl); (case c4 => exact rfl); k_whole; intro zzL' zzh' zzB' zzX' zzT' zzF' zzN'; (try dsimp only); (try k_fold))
  dsimp only [wsL, List.cons_append, List.nil_append] at *
  repeat' (first | (k_unfold; (try dsimp only)) | (k_end; wrow_close) | (first | ((with_reducible show wpAny _ _ (compareOp CmpOp.Eq (Value.ref _) (Value.ref _)) _ _ _); first | with_reducible (k_here; k_dflt (refine' eq_norm ?k1 ?k2 ?k3 ?k4 ?k5 ?k6 ?k7 ?_; (case k1 => exact News.get (by k_asm) (by k_mem)); (case k2 => exact News.get (by k_asm) (by k_mem)); (case k3 => exact News.get (by k_asm) (by k_mem)); (case k4 => exact News.get (by k_asm) (by k_mem)); (case k5 => assumption); (case k6 => assumption); (case k7 => exact Nat.le_of_ble_eq_true rfl); k_whole))) | ((with_reducible show wpAny _ _ (call (Value.ref _) _) _ _ _); first | with_reducible (k_here; (with_reducible show wpAny _ _ (call (Value.ref 107) _) _ _ _); k_dflt (refine' indent_use ?k1 ?k2 ?k3 ?k4 ?k5 ?k6 ?k7 ?k8 ?kn ?km ?kM ?k9 ?k10 ?k11 ?k12 ?_; (case k1 => k_asm); (case k2 => k_asm); (case k3 => k_asm); (case k4 => k_asm); (case k5 => k_asm); (case k6 => walk_at "M all"); (case k7 => assumption); (case k8 => assumption); (case kn => assumption); (case km => l_fact); (case kM => first | exact kn_le (by assumption) (by assumption) (by assumption) (by assumption) (by assumption) (by assumption) | l_fact); (case k9 => exact Nat.le_of_ble_eq_true rfl); (case k10 => exact Nat.le_of_ble_eq_true rfl); (case k11 => exact rfl); (case k12 => exact rfl); k_whole; intro zzt9 zzh9 zztk9 zzF9 zzN9; (try dsimp only); (try k_sweep); (try k_fold))) | with_reducible (k_here; (with_reducible show wpAny _ _ (call (Value.ref 100) _) _ _ _); k_dflt (refine' longest_use ?k1 ?k2 ?k3 ?k4 ?k5 ?k6 ?k7 ?k8 ?k9 ?k10 ?k11 ?k12 ?_; (case k1 => k_asm); (case k2 => k_asm); (case k3 => k_asm); (case k4 => k_asm); (case k5 => k_asm); (case k6 => walk_at "M all"); (case k7 => assumption); (case k8 => assumption); (case k9 => exact Nat.le_of_ble_eq_true rfl); (case k10 => exact Nat.le_of_ble_eq_true rfl); (case k11 => exact rfl); (case k12 => exact rfl); k_whole; intro zzt9 zzh9 zztk9 zzF9 zzN9; (try dsimp only); (try k_sweep); (try k_fold)))) | walk1) | (dsimp only; (first | ((with_reducible show wpAny _ _ (compareOp CmpOp.Eq (Value.ref _) (Value.ref _)) _ _ _); first | with_reducible (k_here; k_dflt (refine' eq_norm ?k1 ?k2 ?k3 ?k4 ?k5 ?k6 ?k7 ?_; (case k1 => exact News.get (by k_asm) (by k_mem)); (case k2 => exact News.get (by k_asm) (by k_mem)); (case k3 => exact News.get (by k_asm) (by k_mem)); (case k4 => exact News.get (by k_asm) (by k_mem)); (case k5 => assumption); (case k6 => assumption); (case k7 => exact Nat.le_of_ble_eq_true rfl); k_whole))) | ((with_reducible show wpAny _ _ (call (Value.ref _) _) _ _ _); first | with_reducible (k_here; (with_reducible show wpAny _ _ (call (Value.ref 107) _) _ _ _); k_dflt (refine' indent_use ?k1 ?k2 ?k3 ?k4 ?k5 ?k6 ?k7 ?k8 ?kn ?km ?kM ?k9 ?k10 ?k11 ?k12 ?_; (case k1 => k_asm); (case k2 => k_asm); (case k3 => k_asm); (case k4 => k_asm); (case k5 => k_asm); (case k6 => walk_at "M all"); (case k7 => assumption); (case k8 => assumption); (case kn => assumption); (case km => l_fact); (case kM => first | exact kn_le (by assumption) (by assumption) (by assumption) (by assumption) (by assumption) (by assumption) | l_fact); (case k9 => exact Nat.le_of_ble_eq_true rfl); (case k10 => exact Nat.le_of_ble_eq_true rfl); (case k11 => exact rfl); (case k12 => exact rfl); k_whole; intro zzt9 zzh9 zztk9 zzF9 zzN9; (try dsimp only); (try k_sweep); (try k_fold))) | with_reducible (k_here; (with_reducible show wpAny _ _ (call (Value.ref 100) _) _ _ _); k_dflt (refine' longest_use ?k1 ?k2 ?k3 ?k4 ?k5 ?k6 ?k7 ?k8 ?k9 ?k10 ?k11 ?k12 ?_; (case k1 => k_asm); (case k2 => k_asm); (case k3 => k_asm); (case k4 => k_asm); (case k5 => k_asm); (case k6 => walk_at "M all"); (case k7 => assumption); (case k8 => assumption); (case k9 => exact Nat.le_of_ble_eq_true rfl); (case k10 => exact Nat.le_of_ble_eq_true rfl); (case k11 => exact rfl); (case k12 => exact rfl); k_whole; intro zzt9 zzh9 zztk9 zzF9 zzN9; (try dsimp only); (try k_sweep); (try k_fold)))) | walk1)) | (leave1; walk_say "STEP leave1"; try dsimp only) | fail "no step")
  change Q (Value.bool _) _
  exact ret_bool (s := s) hret (S.keeps (by assumption) (by assumption) (fun _ hq => hq)) rfl

/-- the list of not_equal_witness -/
noncomputable def witOf (M : Int) (ns : List Int) (b nt : Int) (ns' : List Int) (b' nt' : Int) : List Dat :=
  ((rangeKs 1 M.toNat).filter fun ts => levelOf ts ns b nt != levelOf ts ns' b' nt').map fun ts => Dat.tuple [Dat.int ts, Dat.int (levelOf ts ns b nt), Dat.int (levelOf ts ns' b' nt')]
theorem witOf_ok (k : Nat) (M : Int) (ns : List Int) (b nt : Int) (ns' : List Int) (b' nt' : Int) : ∀ d ∈ witOf M ns b nt ns' b' nt', kqdOk (k + 1) d = true := by
  intro d hd
  obtain ⟨ts, _, rfl⟩ := List.mem_map.mp hd
  simp only [kqdOk, List.all_cons, List.all_nil, Bool.and_true]
theorem wit_end {h : Heap} {v : Value} {M M' : Int} {ns : List Int} {b nt : Int} {ns' : List Int} {b' nt' : Int} (e : M = M') (k : RD h v (.list (witOf M ns b nt ns' b' nt'))) : RD h v (.list (witOf M' ns b nt ns' b' nt')) := e ▸ k

open PySem.W in
/-- the statement of nequal_spec over its data -/
noncomputable def nequal_spec_P (prog : Program) (w : World) (s : Shared) (base : Heap) (g : Heap) (fr : List Env) (gd : Option (List Code)) (p : Program) (loose : List Str) (mean : ExcName → Option Value) (mg : Str → Option Value) (mb : Str → Option Value) (x : Addr) (dx : Addr) (tn : Addr) (tc : Addr) (h1 : Int) (h2 : Int) (h3 : Int) (h4 : Int) (h5 : Int) (t1 : Tok) (t2 : Tok) (t3 : Tok) (t4 : Tok) (t5 : Tok) (u1 : Tok) (u2 : Tok) (u3 : Tok) (u6 : Tok) (e1 : Nat) (e2 : Nat) (e3 : Nat) (raw : Str) (n : Int) (nt : Int) (b : Int) (vs : List Value) (sm : Bool) (x' : Addr) (dx' : Addr) (tn' : Addr) (tc' : Addr) (h1' : Int) (h2' : Int) (h3' : Int) (h4' : Int) (h5' : Int) (t1' : Tok) (t2' : Tok) (t3' : Tok) (t4' : Tok) (t5' : Tok) (u1' : Tok) (u2' : Tok) (u3' : Tok) (u6' : Tok) (e1' : Nat) (e2' : Nat) (e3' : Nat) (raw' : Str) (n' : Int) (nt' : Int) (b' : Int) (vs' : List Value) (sm' : Bool) (ns : List Int) (ns' : List Int) (Q : Value → Shared → Prop) (E : Value → Shared → Prop) : Prop :=
  ∀ (S : Std (AT 600 2000 fr gd) base fr g (Mine.hd.heap_1 w.params) p loose mean mg mb s.heap (wsL x dx tn tc h1 h2 h3 h4 h5 t1 t2 t3 t4 t5 u1 u2 u3 u6 e1 e2 e3 raw n nt b vs sm ++ wsL x' dx' tn' tc' h1' h2' h3' h4' h5' t1' t2' t3' t4' t5' u1' u2' u3' u6' e1' e2' e3' raw' n' nt' b' vs' sm')) (hi : IntsAre vs ns) (hl : ns.length ≤ 100) (hn : ∀ k ∈ ns, 0 ≤ k ∧ k ≤ 100) (hb : 0 ≤ b ∧ b ≤ 50) (hi' : IntsAre vs' ns') (hl' : ns'.length ≤ 100) (hn' : ∀ k ∈ ns', 0 ≤ k ∧ k ≤ 100) (hb' : 0 ≤ b' ∧ b' ≤ 50) (hret : ∀ (l : Addr) (h' : Heap) (tk' : Nat), s.heap.StaysIn h' → RD h' (.ref l) (.list (witOf (max (longestOf ns b) (longestOf ns' b') + 1 + 1 - 1) ns b nt ns' b' nt')) → Q (.ref l) { s with heap := h', toks := tk' }), wpAny (model prog w) (AT 600 2000 fr gd) (call (.ref 121) [.ref x, .ref x']) Q E s
noncomputable def nequal_spec_R (p : Program × World × Shared × Heap × Heap × (List Env) × (Option (List Code)) × Program × (List Str) × (ExcName → Option Value) × (Str → Option Value) × (Str → Option Value) × Addr × Addr × Addr × Addr × Int × Int × Int × Int × Int × Tok × Tok × Tok × Tok × Tok × Tok × Tok × Tok × Tok × Nat × Nat × Nat × Str × Int × Int × Int × (List Value) × Bool × Addr × Addr × Addr × Addr × Int × Int × Int × Int × Int × Tok × Tok × Tok × Tok × Tok × Tok × Tok × Tok × Tok × Nat × Nat × Nat × Str × Int × Int × Int × (List Value) × Bool × (List Int) × (List Int) × (Value → Shared → Prop) × (Value → Shared → Prop)) : Prop := nequal_spec_P p.1 p.2.1 p.2.2.1 p.2.2.2.1 p.2.2.2.2.1 p.2.2.2.2.2.1 p.2.2.2.2.2.2.1 p.2.2.2.2.2.2.2.1 p.2.2.2.2.2.2.2.2.1 p.2.2.2.2.2.2.2.2.2.1 p.2.2.2.2.2.2.2.2.2.2.1 p.2.2.2.2.2.2.2.2.2.2.2.1 p.2.2.2.2.2.2.2.2.2.2.2.2.1 p.2.2.2.2.2.2.2.2.2.2.2.2.2.1 p.2.2.2.2.2.2.2.2.2.2.2.2.2.2.1 p.2.2.2.2.2.2.2.2.2.2.2.2.2.2.2.1 p.2.2.2.2.2.2.2.2.2.2.2.2.2.2.2.2.1 p.2.2.2.2.2.2.2.2.2.2.2.2.2.2.2.2.2.1 p.2.2.2.2.2.2.2.2.2.2.2.2.2.2.2.2.2.2.1 p.2.2.2.2.2.2.2.2.2.2.2.2.2.2.2.2.2.2.2.1 p.2.2.2.2.2.2.2.2.2.2.2.2.2.2.2.2.2.2.2.2.1 p.2.2.2.2.2.2.2.2.2.2.2.2.2.2.2.2.2.2.2.2.2.1 p.2.2.2.2.2.2.2.2.2.2.2.2.2.2.2.2.2.2.2.2.2.2.1 p.2.2.2.2.2.2.2.2.2.2.2.2.2.2.2.2.2.2.2.2.2.2.2.1 p.2.2.2.2.2.2.2.2.2.2.2.2.2.2.2.2.2.2.2.2.2.2.2.2.1 p.2.2.2.2.2.2.2.2.2.2.2.2.2.2.2.2.2.2.2.2.2.2.2.2.2.1 p.2.2.2.2.2.2.2.2.2.2.2.2.2.2.2.2.2.2.2.2.2.2.2.2.2.2.1 p.2.2.2.2.2.2.2.2.2.2.2.2.2.2.2.2.2.2.2.2.2.2.2.2.2.2.2.1 p.2.2.2.2.2.2.2.2.2.2.2.2.2.2.2.2.2.2.2.2.2.2.2.2.2.2.2.2.1 p.2.2.2.2.2.2.2.2.2.2.2.2.2.2.2.2.2.2.2.2.2.2.2.2.2.2.2.2.2.1 p.2.2.2.2.2.2.2.2.2.2.2.2.2.2.2.2.2.2.2.2.2.2.2.2.2.2.2.2.2.2.1 p.2.2.2.2.2.2.2.2.2.2.2.2.2.2.2.2.2.2.2.2.2.2.2.2.2.2.2.2.2.2.2.1 p.2.2.2.2.2.2.2.2.2.2.2.2.2.2.2.2.2.2.2.2.2.2.2.2.2.2.2.2.2.2.2.2.1 p.2.2.2.2.2.2.2.2.2.2.2.2.2.2.2.2.2.2.2.2.2.2.2.2.2.2.2.2.2.2.2.2.2.1 p.2.2.2.2.2.2.2.2.2.2.2.2.2.2.2.2.2.2.2.2.2.2.2.2.2.2.2.2.2.2.2.2.2.2.1 p.2.2.2.2.2.2.2.2.2.2.2.2.2.2.2.2.2.2.2.2.2.2.2.2.2.2.2.2.2.2.2.2.2.2.2.1 p.2.2.2.2.2.2.2.2.2.2.2.2.2.2.2.2.2.2.2.2.2.2.2.2.2.2.2.2.2.2.2.2.2.2.2.2.1 p.2.2.2.2.2.2.2.2.2.2.2.2.2.2.2.2.2.2.2.2.2.2.2.2.2.2.2.2.2.2.2.2.2.2.2.2.2.1 p.2.2.2.2.2.2.2.2.2.2.2.2.2.2.2.2.2.2.2.2.2.2.2.2.2.2.2.2.2.2.2.2.2.2.2.2.2.2.1 p.2.2.2.2.2.2.2.2.2.2.2.2.2.2.2.2.2.2.2.2.2.2.2.2.2.2.2.2.2.2.2.2.2.2.2.2.2.2.2.1 p.2.2.2.2.2.2.2.2.2.2.2.2.2.2.2.2.2.2.2.2.2.2.2.2.2.2.2.2.2.2.2.2.2.2.2.2.2.2.2.2.1 p.2.2.2.2.2.2.2.2.2.2.2.2.2.2.2.2.2.2.2.2.2.2.2.2.2.2.2.2.2.2.2.2.2.2.2.2.2.2.2.2.2.1 p.2.2.2.2.2.2.2.2.2.2.2.2.2.2.2.2.2.2.2.2.2.2.2.2.2.2.2.2.2.2.2.2.2.2.2.2.2.2.2.2.2.2.1 p.2.2.2.2.2.2.2.2.2.2.2.2.2.2.2.2.2.2.2.2.2.2.2.2.2.2.2.2.2.2.2.2.2.2.2.2.2.2.2.2.2.2.2.1 p.2.2.2.2.2.2.2.2.2.2.2.2.2.2.2.2.2.2.2.2.2.2.2.2.2.2.2.2.2.2.2.2.2.2.2.2.2.2.2.2.2.2.2.2.1 p.2.2.2.2.2.2.2.2.2.2.2.2.2.2.2.2.2.2.2.2.2.2.2.2.2.2.2.2.2.2.2.2.2.2.2.2.2.2.2.2.2.2.2.2.2.1 p.2.2.2.2.2.2.2.2.2.2.2.2.2.2.2.2.2.2.2.2.2.2.2.2.2.2.2.2.2.2.2.2.2.2.2.2.2.2.2.2.2.2.2.2.2.2.1 p.2.2.2.2.2.2.2.2.2.2.2.2.2.2.2.2.2.2.2.2.2.2.2.2.2.2.2.2.2.2.2.2.2.2.2.2.2.2.2.2.2.2.2.2.2.2.2.1 p.2.2.2.2.2.2.2.2.2.2.2.2.2.2.2.2.2.2.2.2.2.2.2.2.2.2.2.2.2.2.2.2.2.2.2.2.2.2.2.2.2.2.2.2.2.2.2.2.1 p.2.2.2.2.2.2.2.2.2.2.2.2.2.2.2.2.2.2.2.2.2.2.2.2.2.2.2.2.2.2.2.2.2.2.2.2.2.2.2.2.2.2.2.2.2.2.2.2.2.1 p.2.2.2.2.2.2.2.2.2.2.2.2.2.2.2.2.2.2.2.2.2.2.2.2.2.2.2.2.2.2.2.2.2.2.2.2.2.2.2.2.2.2.2.2.2.2.2.2.2.2.1 p.2.2.2.2.2.2.2.2.2.2.2.2.2.2.2.2.2.2.2.2.2.2.2.2.2.2.2.2.2.2.2.2.2.2.2.2.2.2.2.2.2.2.2.2.2.2.2.2.2.2.2.1 p.2.2.2.2.2.2.2.2.2.2.2.2.2.2.2.2.2.2.2.2.2.2.2.2.2.2.2.2.2.2.2.2.2.2.2.2.2.2.2.2.2.2.2.2.2.2.2.2.2.2.2.2.1 p.2.2.2.2.2.2.2.2.2.2.2.2.2.2.2.2.2.2.2.2.2.2.2.2.2.2.2.2.2.2.2.2.2.2.2.2.2.2.2.2.2.2.2.2.2.2.2.2.2.2.2.2.2.1 p.2.2.2.2.2.2.2.2.2.2.2.2.2.2.2.2.2.2.2.2.2.2.2.2.2.2.2.2.2.2.2.2.2.2.2.2.2.2.2.2.2.2.2.2.2.2.2.2.2.2.2.2.2.2.1 p.2.2.2.2.2.2.2.2.2.2.2.2.2.2.2.2.2.2.2.2.2.2.2.2.2.2.2.2.2.2.2.2.2.2.2.2.2.2.2.2.2.2.2.2.2.2.2.2.2.2.2.2.2.2.2.1 p.2.2.2.2.2.2.2.2.2.2.2.2.2.2.2.2.2.2.2.2.2.2.2.2.2.2.2.2.2.2.2.2.2.2.2.2.2.2.2.2.2.2.2.2.2.2.2.2.2.2.2.2.2.2.2.2.1 p.2.2.2.2.2.2.2.2.2.2.2.2.2.2.2.2.2.2.2.2.2.2.2.2.2.2.2.2.2.2.2.2.2.2.2.2.2.2.2.2.2.2.2.2.2.2.2.2.2.2.2.2.2.2.2.2.2.1 p.2.2.2.2.2.2.2.2.2.2.2.2.2.2.2.2.2.2.2.2.2.2.2.2.2.2.2.2.2.2.2.2.2.2.2.2.2.2.2.2.2.2.2.2.2.2.2.2.2.2.2.2.2.2.2.2.2.2.1 p.2.2.2.2.2.2.2.2.2.2.2.2.2.2.2.2.2.2.2.2.2.2.2.2.2.2.2.2.2.2.2.2.2.2.2.2.2.2.2.2.2.2.2.2.2.2.2.2.2.2.2.2.2.2.2.2.2.2.2.1 p.2.2.2.2.2.2.2.2.2.2.2.2.2.2.2.2.2.2.2.2.2.2.2.2.2.2.2.2.2.2.2.2.2.2.2.2.2.2.2.2.2.2.2.2.2.2.2.2.2.2.2.2.2.2.2.2.2.2.2.2.1 p.2.2.2.2.2.2.2.2.2.2.2.2.2.2.2.2.2.2.2.2.2.2.2.2.2.2.2.2.2.2.2.2.2.2.2.2.2.2.2.2.2.2.2.2.2.2.2.2.2.2.2.2.2.2.2.2.2.2.2.2.2.1 p.2.2.2.2.2.2.2.2.2.2.2.2.2.2.2.2.2.2.2.2.2.2.2.2.2.2.2.2.2.2.2.2.2.2.2.2.2.2.2.2.2.2.2.2.2.2.2.2.2.2.2.2.2.2.2.2.2.2.2.2.2.2.1 p.2.2.2.2.2.2.2.2.2.2.2.2.2.2.2.2.2.2.2.2.2.2.2.2.2.2.2.2.2.2.2.2.2.2.2.2.2.2.2.2.2.2.2.2.2.2.2.2.2.2.2.2.2.2.2.2.2.2.2.2.2.2.2.1 p.2.2.2.2.2.2.2.2.2.2.2.2.2.2.2.2.2.2.2.2.2.2.2.2.2.2.2.2.2.2.2.2.2.2.2.2.2.2.2.2.2.2.2.2.2.2.2.2.2.2.2.2.2.2.2.2.2.2.2.2.2.2.2.2.1 p.2.2.2.2.2.2.2.2.2.2.2.2.2.2.2.2.2.2.2.2.2.2.2.2.2.2.2.2.2.2.2.2.2.2.2.2.2.2.2.2.2.2.2.2.2.2.2.2.2.2.2.2.2.2.2.2.2.2.2.2.2.2.2.2.2.1 p.2.2.2.2.2.2.2.2.2.2.2.2.2.2.2.2.2.2.2.2.2.2.2.2.2.2.2.2.2.2.2.2.2.2.2.2.2.2.2.2.2.2.2.2.2.2.2.2.2.2.2.2.2.2.2.2.2.2.2.2.2.2.2.2.2.2.1 p.2.2.2.2.2.2.2.2.2.2.2.2.2.2.2.2.2.2.2.2.2.2.2.2.2.2.2.2.2.2.2.2.2.2.2.2.2.2.2.2.2.2.2.2.2.2.2.2.2.2.2.2.2.2.2.2.2.2.2.2.2.2.2.2.2.2.2.1 p.2.2.2.2.2.2.2.2.2.2.2.2.2.2.2.2.2.2.2.2.2.2.2.2.2.2.2.2.2.2.2.2.2.2.2.2.2.2.2.2.2.2.2.2.2.2.2.2.2.2.2.2.2.2.2.2.2.2.2.2.2.2.2.2.2.2.2.2.1 p.2.2.2.2.2.2.2.2.2.2.2.2.2.2.2.2.2.2.2.2.2.2.2.2.2.2.2.2.2.2.2.2.2.2.2.2.2.2.2.2.2.2.2.2.2.2.2.2.2.2.2.2.2.2.2.2.2.2.2.2.2.2.2.2.2.2.2.2.2
noncomputable def nequal_spec_c : Program × World × Shared × Heap × Heap × (List Env) × (Option (List Code)) × Program × (List Str) × (ExcName → Option Value) × (Str → Option Value) × (Str → Option Value) × Addr × Addr × Addr × Addr × Int × Int × Int × Int × Int × Tok × Tok × Tok × Tok × Tok × Tok × Tok × Tok × Tok × Nat × Nat × Nat × Str × Int × Int × Int × (List Value) × Bool × Addr × Addr × Addr × Addr × Int × Int × Int × Int × Int × Tok × Tok × Tok × Tok × Tok × Tok × Tok × Tok × Tok × Nat × Nat × Nat × Str × Int × Int × Int × (List Value) × Bool × (List Int) × (List Int) × (Value → Shared → Prop) × (Value → Shared → Prop) := pick (neP inferInstance (neP neW (neP neS (neP inferInstance (neP inferInstance (neP inferInstance (neP inferInstance (neP inferInstance (neP inferInstance (neP inferInstance (neP inferInstance (neP inferInstance (neP inferInstance (neP inferInstance (neP inferInstance (neP inferInstance (neP inferInstance (neP inferInstance (neP inferInstance (neP inferInstance (neP inferInstance (neP inferInstance (neP inferInstance (neP inferInstance (neP inferInstance (neP inferInstance (neP inferInstance (neP inferInstance (neP inferInstance (neP inferInstance (neP inferInstance (neP inferInstance (neP inferInstance (neP inferInstance (neP inferInstance (neP inferInstance (neP inferInstance (neP inferInstance (neP inferInstance (neP inferInstance (neP inferInstance (neP inferInstance (neP inferInstance (neP inferInstance (neP inferInstance (neP inferInstance (neP inferInstance (neP inferInstance (neP inferInstance (neP inferInstance (neP inferInstance (neP inferInstance (neP inferInstance (neP inferInstance (neP inferInstance (neP inferInstance (neP inferInstance (neP inferInstance (neP inferInstance (neP inferInstance (neP inferInstance (neP inferInstance (neP inferInstance (neP inferInstance (neP inferInstance (neP inferInstance (neP inferInstance (neP inferInstance (neP inferInstance inferInstance))))))))))))))))))))))))))))))))))))))))))))))))))))))))))))))))))))) nequal_spec_R
set_option maxHeartbeats 4000000 in
set_option pp.deepTerms false in
set_option pp.deepTerms.threshold 4 in
set_option pp.maxSteps 1000 in
theorem nequal_spec_core : nequal_spec_R nequal_spec_c := (by
  intro prog w s base g fr gd p loose mean mg mb x dx tn tc h1 h2 h3 h4 h5 t1 t2 t3 t4 t5 u1 u2 u3 u6 e1 e2 e3 raw n nt b vs sm x' dx' tn' tc' h1' h2' h3' h4' h5' t1' t2' t3' t4' t5' u1' u2' u3' u6' e1' e2' e3' raw' n' nt' b' vs' sm' ns ns' Q E S hi hl hn hb hi' hl' hn' hb' hret
  have hM9 := kn_rng hl hl' hb hb'
  refine wpAny_call ?_
  k_with "pyIter ref" => k_dat (fun pre a => (a.length : Int) ≤ pre.length ∧ a = (pre.filter fun ts => levelOf ts ns b nt != levelOf ts ns' b' nt').map fun ts => Dat.tuple [Dat.int ts, Dat.int (levelOf ts ns b nt), Dat.int (levelOf ts ns' b' nt')]) "a*"
  k_dflt (refine' enterC ?kS ?k6 ?k7 ?k8 ?k9 ?kB ?_ ?c2 ?c3 ?c4 ?c5; (case kS => assumption); (case k6 => k_is); (case k7 => k_is); (case k8 => exact Nat.le_of_ble_eq_true rfl); (case k9 => exact BindsTo.of_eq rfl); (case c5 => decide); (case kB => exact locs rfl); (case c2 => exact rfl); (case c3 => exact rfl); (case c4 => exact rfl); k_whole; intro zzL' zzh' zzB' zzX' zzT' zzF' zzN'; (try dsimp only); (try k_fold))
  dsimp only [wsL, List.cons_append, List.nil_append] at *
  repeat' (first | (k_unfold; (try dsimp only)) | (k_end; wrow_close) | (first | ((with_reducible show wpAny _ _ (compareOp CmpOp.Eq (Value.ref _) (Value.ref _)) _ _ _); first | with_reducible (k_here; k_dflt (refine' eq_norm ?k1 ?k2 ?k3 ?k4 ?k5 ?k6 ?k7 ?_; (case k1 => exact News.get (by k_asm) (by k_mem)); (case k2 => exact News.get (by k_asm) (by k_mem)); (case k3 => exact News.get (by k_asm) (by k_mem)); (case k4 => exact News.get (by k_asm) (by k_mem)); (case k5 => assumption); (case k6 => assumption); (case k7 => exact Nat.le_of_ble_eq_true rfl); k_whole))) | ((with_reducible show wpAny _ _ (call (Value.ref _) _) _ _ _); first | with_reducible (k_here; (with_reducible show wpAny _ _ (call (Value.ref 107) _) _ _ _); k_dflt (refine' indent_use ?k1 ?k2 ?k3 ?k4 ?k5 ?k6 ?k7 ?k8 ?kn ?km ?kM ?k9 ?k10 ?k11 ?k12 ?_; (case k1 => k_asm); (case k2 => k_asm); (case k3 => k_asm); (case k4 => k_asm); (case k5 => k_asm); (case k6 => walk_at "M all"); (case k7 => assumption); (case k8 => assumption); (case kn => assumption); (case km => l_fact); (case kM => first | exact kn_le (by assumption) (by assumption) (by assumption) (by assumption) (by assumption) (by assumption) | l_fact); (case k9 => exact Nat.le_of_ble_eq_true rfl); (case k10 => exact Nat.le_of_ble_eq_true rfl); (case k11 => exact rfl); (case k12 => exact rfl); k_whole; intro zzt9 zzh9 zztk9 zzF9 zzN9; (try dsimp only); (try k_sweep); (try k_fold))) | with_reducible (k_here; (with_reducible show wpAny _ _ (call (Value.ref 100) _) _ _ _); k_dflt (refine' longest_use ?k1 ?k2 ?k3 ?k4 ?k5 ?k6 ?k7 ?k8 ?k9 ?k10 ?k11 ?k12 ?_; (case k1 => k_asm); (case k2 => k_asm); (case k3 => k_asm); (case k4 => k_asm); (case k5 => k_asm); (case k6 => walk_at "M all"); (case k7 => assumption); (case k8 => assumption); (case k9 => exact Nat.le_of_ble_eq_true rfl); (case k10 => exact Nat.le_of_ble_eq_true rfl); (case k11 => exact rfl); (case k12 => exact rfl); k_whole; intro zzt9 zzh9 zztk9 zzF9 zzN9; (try dsimp only); (try k_sweep); (try k_fold)))) | walk1) | (dsimp only; (first | ((with_reducible show wpAny _ _ (compareOp CmpOp.Eq (Value.ref _) (Value.ref _)) _ _ _); first | with_reducible (k_here; k_dflt (refine' eq_norm ?k1 ?k2 ?k3 ?k4 ?k5 ?k6 ?k7 ?_; (case k1 => exact News.get (by k_asm) (by k_mem)); (case k2 => exact News.get (by k_asm) (by k_mem)); (case k3 => exact News.get (by k_asm) (by k_mem)); (case k4 => exact News.get (by k_asm) (by k_mem)); (case k5 => assumption); (case k6 => assumption); (case k7 => exact Nat.le_of_ble_eq_true rfl); k_whole))) | ((with_reducible show wpAny _ _ (call (Value.ref _) _) _ _ _); first | with_reducible (k_here; (with_reducible show wpAny _ _ (call (Value.ref 107) _) _ _ _); k_dflt (refine' indent_use ?k1 ?k2 ?k3 ?k4 ?k5 ?k6 ?k7 ?k8 ?kn ?km ?kM ?k9 ?k10 ?k11 ?k12 ?_; (case k1 => k_asm); (case k2 => k_asm); (case k3 => k_asm); (case k4 => k_asm); (case k5 => k_asm); (case k6 => walk_at "M all"); (case k7 => assumption); (case k8 => assumption); (case kn => assumption); (case km => l_fact); (case kM => first | exact kn_le (by assumption) (by assumption) (by assumption) (by assumption) (by assumption) (by assumption) | l_fact); (case k9 => exact Nat.le_of_ble_eq_true rfl); (case k10 => exact Nat.le_of_ble_eq_true rfl); (case k11 => exact rfl); (case k12 => exact rfl); k_whole; intro zzt9 zzh9 zztk9 zzF9 zzN9; (try dsimp only); (try k_sweep); (try k_fold))) | with_reducible (k_here; (with_reducible show wpAny _ _ (call (Value.ref 100) _) _ _ _); k_dflt (refine' longest_use ?k1 ?k2 ?k3 ?k4 ?k5 ?k6 ?k7 ?k8 ?k9 ?k10 ?k11 ?k12 ?_; (case k1 => k_asm); (case k2 => k_asm); (case k3 => k_asm); (case k4 => k_asm); (case k5 => k_asm); (case k6 => walk_at "M all"); (case k7 => assumption); (case k8 => assumption); (case k9 => exact Nat.le_of_ble_eq_true rfl); (case k10 => exact Nat.le_of_ble_eq_true rfl); (case k11 => exact rfl); (case k12 => exact rfl); k_whole; intro zzt9 zzh9 zztk9 zzF9 zzN9; (try dsimp only); (try k_sweep); (try k_fold)))) | walk1)) | (leave1; walk_say "STEP leave1"; try dsimp only) | fail "no step")
  change Q (Value.ref _) _
  refine hret _ _ _ (S.keeps kFr kNews (by walk_at "M all")) ?_
  refine wit_end ?e (RD.list (kNews.get (.head _)) (kqd_all (cb_drop kNews fun q hq => .tail _ hq) 8 kFacts (witOf_ok 7 _ ns b nt ns' b' nt')))
  unfold longestOf; (repeat' split) <;> omega : ∀ (prog : Program) (w : World) (s : Shared) (base : Heap) (g : Heap) (fr : List Env) (gd : Option (List Code)) (p : Program) (loose : List Str) (mean : ExcName → Option Value) (mg : Str → Option Value) (mb : Str → Option Value) (x : Addr) (dx : Addr) (tn : Addr) (tc : Addr) (h1 : Int) (h2 : Int) (h3 : Int) (h4 : Int) (h5 : Int) (t1 : Tok) (t2 : Tok) (t3 : Tok) (t4 : Tok) (t5 : Tok) (u1 : Tok) (u2 : Tok) (u3 : Tok) (u6 : Tok) (e1 : Nat) (e2 : Nat) (e3 : Nat) (raw : Str) (n : Int) (nt : Int) (b : Int) (vs : List Value) (sm : Bool) (x' : Addr) (dx' : Addr) (tn' : Addr) (tc' : Addr) (h1' : Int) (h2' : Int) (h3' : Int) (h4' : Int) (h5' : Int) (t1' : Tok) (t2' : Tok) (t3' : Tok) (t4' : Tok) (t5' : Tok) (u1' : Tok) (u2' : Tok) (u3' : Tok) (u6' : Tok) (e1' : Nat) (e2' : Nat) (e3' : Nat) (raw' : Str) (n' : Int) (nt' : Int) (b' : Int) (vs' : List Value) (sm' : Bool) (ns : List Int) (ns' : List Int) (Q : Value → Shared → Prop) (E : Value → Shared → Prop), nequal_spec_P prog w s base g fr gd p loose mean mg mb x dx tn tc h1 h2 h3 h4 h5 t1 t2 t3 t4 t5 u1 u2 u3 u6 e1 e2 e3 raw n nt b vs sm x' dx' tn' tc' h1' h2' h3' h4' h5' t1' t2' t3' t4' t5' u1' u2' u3' u6' e1' e2' e3' raw' n' nt' b' vs' sm' ns ns' Q E) _ _ _ _ _ _ _ _ _ _ _ _ _ _ _ _ _ _ _ _ _ _ _ _ _ _ _ _ _ _ _ _ _ _ _ _ _ _ _ _ _ _ _ _ _ _ _ _ _ _ _ _ _ _ _ _ _ _ _ _ _ _ _ _ _ _ _ _ _ _
theorem nequal_spec {ns ns' : List Int} {Q E : Value → Shared → Prop}
    (S : Std (AT 600 2000 fr gd) base fr g (Mine.hd.heap_1 w.params) p loose mean mg mb s.heap (wsL x dx tn tc h1 h2 h3 h4 h5 t1 t2 t3 t4 t5 u1 u2 u3 u6 e1 e2 e3 raw n nt b vs sm ++ wsL x' dx' tn' tc' h1' h2' h3' h4' h5' t1' t2' t3' t4' t5' u1' u2' u3' u6' e1' e2' e3' raw' n' nt' b' vs' sm'))
    (hi : IntsAre vs ns) (hl : ns.length ≤ 100) (hn : ∀ k ∈ ns, 0 ≤ k ∧ k ≤ 100) (hb : 0 ≤ b ∧ b ≤ 50)
    (hi' : IntsAre vs' ns') (hl' : ns'.length ≤ 100) (hn' : ∀ k ∈ ns', 0 ≤ k ∧ k ≤ 100) (hb' : 0 ≤ b' ∧ b' ≤ 50) 
    (hret : ∀ (l : Addr) (h' : Heap) (tk' : Nat), s.heap.StaysIn h' → RD h' (.ref l) (.list (witOf (max (longestOf ns b) (longestOf ns' b') + 1 + 1 - 1) ns b nt ns' b' nt')) → Q (.ref l) { s with heap := h', toks := tk' }) :
    wpAny (model prog w) (AT 600 2000 fr gd) (call (.ref 121) [.ref x, .ref x']) Q E s :=
  (show nequal_spec_P prog w s base g fr gd p loose mean mg mb x dx tn tc h1 h2 h3 h4 h5 t1 t2 t3 t4 t5 u1 u2 u3 u6 e1 e2 e3 raw n nt b vs sm x' dx' tn' tc' h1' h2' h3' h4' h5' t1' t2' t3' t4' t5' u1' u2' u3' u6' e1' e2' e3' raw' n' nt' b' vs' sm' ns ns' Q E from close1 (R := nequal_spec_R) _ nequal_spec_core (prog, w, s, base, g, fr, gd, p, loose, mean, mg, mb, x, dx, tn, tc, h1, h2, h3, h4, h5, t1, t2, t3, t4, t5, u1, u2, u3, u6, e1, e2, e3, raw, n, nt, b, vs, sm, x', dx', tn', tc', h1', h2', h3', h4', h5', t1', t2', t3', t4', t5', u1', u2', u3', u6', e1', e2', e3', raw', n', nt', b', vs', sm', ns, ns', Q, E)) S hi hl hn hb hi' hl' hn' hb' hret
end

section
theorem sepT4 : True := by
  w_top off
  trivial
set_option maxRecDepth 100000
theorem fill_me4 : PySem.Challenge.rw_mr0234_01 = PySem.Challenge.rw_mr0234_01 ∧ Mine.hd.heap_1 = Mine.hd.heap_1 := by
  k_fill
  exact ⟨rfl, rfl⟩
set_option hygiene false in
local macro_rules | `(tactic| walk_at "execs cons") => `(tactic| (k_here; refine execs_consG ?_; intro _ _ _))
set_option hygiene false in
local macro_rules | `(tactic| k_unfold) => `(tactic| (with_reducible refine Leads.on (by assumption) ?_))
set_option hygiene false in
local macro_rules | `(tactic| walk_at "M rfls") => `(tactic| first | exact List.forall_mem_nil _ | (refine List.forall_mem_cons.mpr (And.intro rfl ?_); (walk_at "M rfls")))

variable {prog : Program} {w : World} {s : Shared} {base g : Heap} {fr : List Env} {gd : Option (List Code)}
  {p : Program} {loose : List Str} {mean : ExcName → Option Value} {mg mb : Str → Option Value}
  {x dx : Addr} {ws : Str} {tw : Tok} {R : Result → Shared → Prop}

theorem bump_ext {cnt : List Int} {b : Nat} (h : (cnt.length : Int) ≤ (b : Int)) : (cnt ++ (List.replicate ((b : Int) - (cnt.length : Int) + 1).toNat [(0 : Int)]).flatten).set ((b : Int)).toNat ((cnt ++ (List.replicate ((b : Int) - (cnt.length : Int) + 1).toNat [(0 : Int)]).flatten).getD ((b : Int)).toNat 0 + 1) = bump cnt b := by
  have h' : cnt.length ≤ b := by omega
  have e : ((b : Int) - (cnt.length : Int) + 1).toNat = b - cnt.length + 1 := by omega
  have e2 : ∀ n : Nat, (List.replicate n [(0 : Int)]).flatten = List.replicate n 0 := by
    intro n
    induction n with
    | zero => rfl
    | succ n ih => rw [List.replicate_succ, List.flatten_cons, ih, List.replicate_succ]; rfl
  unfold bump
  rw [e, e2, Int.toNat_natCast]
  simp only [if_pos h']
theorem bump_in {cnt : List Int} {b : Nat} (h : ¬ (cnt.length : Int) ≤ (b : Int)) : cnt.set ((b : Int)).toNat (cnt.getD ((b : Int)).toNat 0 + 1) = bump cnt b := by
  have h' : ¬ cnt.length ≤ b := by omega
  unfold bump
  rw [Int.toNat_natCast]
  simp only [if_neg h']
theorem sign_32 {k : Nat} (h : ((⟨#[k]⟩ : Str) == Str.ofString " ") = true) : k = 32 := by
  have := eq_of_beq h
  have e : Str.ofString " " = ⟨#[32]⟩ := by decide +kernel
  rw [e] at this
  simpa using this
theorem sign_9 {k : Nat} (h : ((⟨#[k]⟩ : Str) == Str.ofString "\t") = true) : k = 9 := by
  have := eq_of_beq h
  have e : Str.ofString "\t" = ⟨#[9]⟩ := by decide +kernel
  rw [e] at this
  simpa using this
theorem sign_n32 {k : Nat} (h : ((⟨#[k]⟩ : Str) == Str.ofString " ") = false) : k ≠ 32 := by
  rintro rfl
  exact absurd h (by decide +kernel)
theorem sign_n9 {k : Nat} (h : ((⟨#[k]⟩ : Str) == Str.ofString "\t") = false) : k ≠ 9 := by
  rintro rfl
  exact absurd h (by decide +kernel)
structure LS where
  lc : Addr
  vs : List Value
  e : Nat
  tb : Tok
  tn : Tok
  tt : Tok
  sc : Sc
noncomputable def PInit (x dx : Addr) (pre : List Nat) (c : LS) : Prop := c.sc = scanS pre ∧ IntsAre c.vs c.sc.cnt ∧ (∀ k ∈ pre, k = 32 ∨ k = 9) ∧ @LT.lt Nat _ x c.lc ∧ @LT.lt Nat _ dx c.lc
noncomputable def blankB (k : Nat) : Bool := k == 32 || k == 9
noncomputable def DInit (ws : Str) (x dx : Addr) (c : LS) : Prop := c.sc = scanS (ws.cps.toList.takeWhile blankB) ∧ IntsAre c.vs c.sc.cnt ∧ @LT.lt Nat _ x c.lc ∧ @LT.lt Nat _ dx c.lc
theorem PInit.nil {l : Addr} {e : Nat} {t1 t2 t3 : Tok} (h1 : @LT.lt Nat _ x l) (h2 : @LT.lt Nat _ dx l) : PInit x dx [] ⟨l, [], e, t1, t2, t3, ⟨[], 0, 0, 0⟩⟩ := ⟨rfl, .nil, fun _ h => (nomatch h), h1, h2⟩
theorem blankB_iff {k : Nat} : blankB k = true ↔ k = 32 ∨ k = 9 := by simp [blankB]
theorem PInit.blank {pre : List Nat} {k : Nat} {lc : Addr} {vs : List Value} {e : Nat} {tb tn tt : Tok} {sc : Sc} (hsc : sc = scanS pre) (hi : IntsAre vs sc.cnt) (hbl : ∀ k ∈ pre, k = 32 ∨ k = 9)
    (h1 : @LT.lt Nat _ x lc) (h2 : @LT.lt Nat _ dx lc) (hk : k = 32) : PInit x dx (pre ++ [k]) ⟨lc, vs, e, tb, tn, tt, ⟨sc.cnt, sc.b + 1, sc.n + 1, sc.nt⟩⟩ := by
  refine ⟨?_, hi, fun j hj => ?_, h1, h2⟩
  · rw [scanS_snoc, ← hsc]; unfold stepC; rw [if_pos hk]
  · rcases List.mem_append.mp hj with q | q
    · exact hbl j q
    · exact .inl ((List.mem_singleton.mp q).trans hk)
theorem PInit.tab {pre : List Nat} {k : Nat} {lc : Addr} {vs : List Value} {cnt : List Int} {e : Nat} {tb tn tt : Tok} {sc : Sc} (hsc : sc = scanS pre) (hi : IntsAre vs cnt) (hc : cnt = bump sc.cnt sc.b) (hbl : ∀ k ∈ pre, k = 32 ∨ k = 9)
    (h1 : @LT.lt Nat _ x lc) (h2 : @LT.lt Nat _ dx lc) (hk : k = 9) : PInit x dx (pre ++ [k]) ⟨lc, vs, e, tb, tn, tt, ⟨bump sc.cnt sc.b, 0, sc.n + 1, sc.nt + 1⟩⟩ := by
  refine ⟨?_, hc ▸ hi, fun j hj => ?_, h1, h2⟩
  · rw [scanS_snoc, ← hsc]; unfold stepC; rw [if_neg (by omega)]
  · rcases List.mem_append.mp hj with q | q
    · exact hbl j q
    · exact .inr ((List.mem_singleton.mp q).trans hk)
theorem PInit.fin {c : LS} (h : PInit x dx ws.cps.toList c) : DInit ws x dx c := by
  obtain ⟨h1, h2, h3, h4⟩ := h
  refine ⟨?_, h2, h4⟩
  rw [h1]
  congr 1
  symm
  rw [← List.append_nil (List.takeWhile blankB ws.cps.toList)]
  have := List.takeWhile_append_of_pos (l₁ := ws.cps.toList) (l₂ := []) fun j hj => blankB_iff.mpr (h3 j hj)
  rw [List.append_nil, List.takeWhile_nil, List.append_nil] at this
  rw [this, List.append_nil]
theorem DInit.brk {pre post : List Nat} {k : Nat} {lc : Addr} {vs : List Value} {e : Nat} {tb tn tt : Tok} {sc : Sc} (hk : ws.cps.toList = pre ++ k :: post) (hsc : sc = scanS pre) (hi : IntsAre vs sc.cnt) (hbl : ∀ k ∈ pre, k = 32 ∨ k = 9)
    (h1 : @LT.lt Nat _ x lc) (h2 : @LT.lt Nat _ dx lc) (n1 : k ≠ 32) (n2 : k ≠ 9) : DInit ws x dx ⟨lc, vs, e, tb, tn, tt, sc⟩ := by
  refine ⟨?_, hi, h1, h2⟩
  show sc = _
  rw [hsc, hk, List.takeWhile_append_of_pos fun j hj => blankB_iff.mpr (hbl j hj), List.takeWhile_cons_of_neg]
  · simp
  · rw [blankB_iff]; omega

/-- what the signs at the head of a text come to -/
noncomputable def scT (ws : Str) : Sc := scanS (ws.cps.toList.takeWhile blankB)
structure WsNew (h h' : Heap) (x dx tn tc : Addr) (h1 h2 h3 h4 h5 : Int) (t1 t2 t3 t4 t5 u1 u2 u3 u6 : Tok) (e1 e2 e3 : Nat) (vs : List Value) (ws : Str) : Prop where
  keep : ∀ b o, b ≠ dx → h.get? b = some o → h'.get? b = some o
  has : ∀ q ∈ wsL x dx tn tc h1 h2 h3 h4 h5 t1 t2 t3 t4 t5 u1 u2 u3 u6 e1 e2 e3 ws ((scT ws).n : Int) ((scT ws).nt : Int) ((scT ws).b : Int) vs (decide (((scT ws).cnt.length : Int) ≤ 1)), h'.get? q.1 = some q.2
  isI : IntsAre vs (scT ws).cnt
  new1 : h.get? tn = none
  new2 : h.get? tc = none
  lt1 : @LT.lt Nat _ x tc
  lt2 : @LT.lt Nat _ tc tn
theorem init_end {A : Around} {K : Frag} {L : Addr} {m : Str → Option Value} {h h' : Heap} {news : List (Addr × Obj)} {tn tc : Addr} {h1 h2 h3 h4 h5 : Int} {t1 t2 t3 t4 t5 u1 u2 u3 u6 : Tok} {e1 e2 e3 : Nat} {vs : List Value} {sc : Sc} {n nt b : Int} {sm : Bool}
    (S : Std A base fr g K p loose mean mg mb h [(x, instObj 138 dx), (dx, dictOf [] 0)]) (F : Fr g L h' m) (N : News g L h' news) (hsc : sc = scT ws) (hi : IntsAre vs sc.cnt)
    (hsub : ∀ q ∈ wsL x dx tn tc h1 h2 h3 h4 h5 t1 t2 t3 t4 t5 u1 u2 u3 u6 e1 e2 e3 ws n nt b vs sm, q ∈ news) (hn : n = (sc.n : Int)) (hnt : nt = (sc.nt : Int)) (hb : b = (sc.b : Int)) (hsm : sm = decide ((sc.cnt.length : Int) ≤ 1))
    (l1 : @LT.lt Nat _ x tc) (l2 : @LT.lt Nat _ tc tn) (l3 : @LT.lt Nat _ dx x) :
    WsNew h h' x dx tn tc h1 h2 h3 h4 h5 t1 t2 t3 t4 t5 u1 u2 u3 u6 e1 e2 e3 vs ws := by
  subst hsc hn hnt hb hsm
  have hm : ∀ q ∈ wsL x dx tn tc h1 h2 h3 h4 h5 t1 t2 t3 t4 t5 u1 u2 u3 u6 e1 e2 e3 ws ((scT ws).n : Int) ((scT ws).nt : Int) ((scT ws).b : Int) vs (decide (((scT ws).cnt.length : Int) ≤ 1)), h'.get? q.1 = some q.2 := fun q hq => (N q (hsub q hq)).1
  refine ⟨fun b o hne e => ?_, hm, hi, ?_, ?_, l1, l2⟩
  · rcases S.sup b o e with q | q
    · exact F.keep b o q
    · simp only [List.mem_cons, List.not_mem_nil, or_false] at q
      rcases q with q | q
      · cases q
        exact hm _ (.head _)
      · cases q
        exact absurd rfl hne
  · cases q : h.get? tn with
    | none => rfl
    | some o =>
      rcases S.sup tn o q with q' | q'
      · rw [(N _ (hsub _ (.tail _ (.tail _ (.head _))))).2.2] at q'; cases q'
      · simp only [List.mem_cons, List.not_mem_nil, or_false, Prod.mk.injEq] at q'
        rcases q' with q' | q'
        · have e1 : @Eq Nat tn x := q'.1
          omega
        · have e1 : @Eq Nat tn dx := q'.1
          omega
  · cases q : h.get? tc with
    | none => rfl
    | some o =>
      rcases S.sup tc o q with q' | q'
      · rw [(N _ (hsub _ (.tail _ (.tail _ (.tail _ (.head _)))))).2.2] at q'; cases q'
      · simp only [List.mem_cons, List.not_mem_nil, or_false, Prod.mk.injEq] at q'
        rcases q' with q' | q'
        · have e1 : @Eq Nat tc x := q'.1
          omega
        · have e1 : @Eq Nat tc dx := q'.1
          omega

/-- the statement of init_spec over its data -/
noncomputable def init_spec_P (prog : Program) (w : World) (s : Shared) (base : Heap) (g : Heap) (fr : List Env) (gd : Option (List Code)) (p : Program) (loose : List Str) (mean : ExcName → Option Value) (mg : Str → Option Value) (mb : Str → Option Value) (x : Addr) (dx : Addr) (ws : Str) (tw : Tok) (R : Result → Shared → Prop) : Prop :=
  ∀ (hne : dx < x) (S : Std (AT 700 3000 fr gd) base fr g (Mine.hd.heap_1 w.params) p loose mean mg mb s.heap [(x, instObj 138 dx), (dx, dictOf [] 0)]) (hl : ws.length ≤ 50) (hret : ∀ (tn tc : Addr) (h1 h2 h3 h4 h5 : Int) (t1 t2 t3 t4 t5 u1 u2 u3 u6 : Tok) (e1 e2 e3 : Nat) (vs : List Value) (h' : Heap) (tk' : Nat), WsNew s.heap h' x dx tn tc h1 h2 h3 h4 h5 t1 t2 t3 t4 t5 u1 u2 u3 u6 e1 e2 e3 vs ws →
      R (.ok (.ret .none)) { s with heap := h', toks := tk' }), codeAny (model prog w) (AT 700 3000 fr gd) (.call (.ref 93) ⟨[.ref x, .str ws tw], []⟩) R s
noncomputable def init_spec_R (p : Program × World × Shared × Heap × Heap × (List Env) × (Option (List Code)) × Program × (List Str) × (ExcName → Option Value) × (Str → Option Value) × (Str → Option Value) × Addr × Addr × Str × Tok × (Result → Shared → Prop)) : Prop := init_spec_P p.1 p.2.1 p.2.2.1 p.2.2.2.1 p.2.2.2.2.1 p.2.2.2.2.2.1 p.2.2.2.2.2.2.1 p.2.2.2.2.2.2.2.1 p.2.2.2.2.2.2.2.2.1 p.2.2.2.2.2.2.2.2.2.1 p.2.2.2.2.2.2.2.2.2.2.1 p.2.2.2.2.2.2.2.2.2.2.2.1 p.2.2.2.2.2.2.2.2.2.2.2.2.1 p.2.2.2.2.2.2.2.2.2.2.2.2.2.1 p.2.2.2.2.2.2.2.2.2.2.2.2.2.2.1 p.2.2.2.2.2.2.2.2.2.2.2.2.2.2.2.1 p.2.2.2.2.2.2.2.2.2.2.2.2.2.2.2.2
noncomputable def init_spec_c : Program × World × Shared × Heap × Heap × (List Env) × (Option (List Code)) × Program × (List Str) × (ExcName → Option Value) × (Str → Option Value) × (Str → Option Value) × Addr × Addr × Str × Tok × (Result → Shared → Prop) := pick (neP inferInstance (neP neW (neP neS (neP inferInstance (neP inferInstance (neP inferInstance (neP inferInstance (neP inferInstance (neP inferInstance (neP inferInstance (neP inferInstance (neP inferInstance (neP inferInstance (neP inferInstance (neP inferInstance (neP inferInstance inferInstance)))))))))))))))) init_spec_R
set_option maxHeartbeats 4000000 in
set_option pp.deepTerms false in
set_option pp.deepTerms.threshold 5 in
set_option pp.maxSteps 1500 in
theorem init_spec_core : init_spec_R init_spec_c := (by
  intro prog w s base g fr gd p loose mean mg mb x dx ws tw R hne S hl hret
  replace hne := ltN hne
  k_dflt (refine' enterC ?kS ?k6 ?k7 ?k8 ?k9 ?kB ?_ ?c2 ?c3 ?c4 ?c5; (case kS => assumption); (case k6 => k_is); (case k7 => k_is); (case k8 => exact Nat.le_of_ble_eq_true rfl); (case k9 => exact BindsTo.of_eq rfl); (case c5 => decide); (case kB => exact locs rfl); (case c2 => exact rfl); (case c3 => exact rfl); (case c4 => exact rfl); k_whole; intro zzL' zzh' zzB' zzX' zzT' zzF' zzN'; (try dsimp only); (try k_fold))
  repeat' (first | (k_unfold; (try dsimp only)) | (k_end; wrow_close) | ((fail_if_success (with_reducible show wpAny _ _ (pyIter _) _ _ _)); (first | ((with_reducible show wpAny _ _ (call (Value.type _) _) _ _ _); first | with_reducible (k_here; (with_reducible show wpAny _ _ (call (Value.type _) [Value.ref _]) _ _ _); k_dflt (refine' kde_tupleOf ?k1 ?k2 ?k3 ?k4 ?k5 ?_; (case k1 => k_asm); (case k2 => k_asm); (case k3 => exact News.isList (by k_asm) (by k_mem)); (case k4 => (rw [List.size_toArray, IntsAre.length (by assumption)]; omega)); (case k5 => exact rfl); k_whole); intro zzD' zzh' zzF' zzN' zzl1; (try k_lt zzl1); (try k_sweep))) | walk1)) | ((fail_if_success (with_reducible show wpAny _ _ (pyIter _) _ _ _));dsimp only; (first | ((with_reducible show wpAny _ _ (call (Value.type _) _) _ _ _); first | with_reducible (k_here; (with_reducible show wpAny _ _ (call (Value.type _) [Value.ref _]) _ _ _); k_dflt (refine' kde_tupleOf ?k1 ?k2 ?k3 ?k4 ?k5 ?_; (case k1 => k_asm); (case k2 => k_asm); (case k3 => exact News.isList (by k_asm) (by k_mem)); (case k4 => (rw [List.size_toArray, IntsAre.length (by assumption)]; omega)); (case k5 => exact rfl); k_whole); intro zzD' zzh' zzF' zzN' zzl1; (try k_lt zzl1); (try k_sweep))) | walk1)) | (leave1; walk_say "STEP leave1"; try dsimp only) | fail "no step")
  rename Fr _ _ _ _ => lF
  rename News _ _ _ _ => lN
  refine' text_loop (fun c : LS => [(c.lc, W.listOf c.vs.toArray c.e), (x, instObj 138 dx), (dx, ?od)]) (fun c => [("count", .ref c.lc), ("b", .int (c.sc.b : Int) c.tb), ("n", .int (c.sc.n : Int) c.tn), ("nt", .int (c.sc.nt : Int) c.tt)]) [] (PInit x dx) (DInit ws x dx) ⟨_, [], _, _, _, _, ⟨[], 0, 0, 0⟩⟩ rfl lF (cb_drop lN ?kN) rfl ?kk (PInit.nil ?ka ?kb) ?_ (fun c => PInit.fin) ?_
  case kN => walk_at "M all"
  case kk => exact List.forall_mem_cons.mpr ⟨rfl, List.forall_mem_cons.mpr ⟨rfl, List.forall_mem_cons.mpr ⟨rfl, List.forall_mem_cons.mpr ⟨rfl, List.forall_mem_nil _⟩⟩⟩⟩
  case ka => omega
  case kb => omega
  · clear lF lN
    rintro ⟨lc, vs, e, tb, tn, tt, sc⟩ pre post k t u h tk I oI hk ⟨hsc, hi, hbl, hx, hdx⟩ hoff F9 N9
    have hoff' := hoff
    simp only [List.forall_mem_cons] at hoff'
    obtain ⟨o1, o2, o3, _⟩ := hoff'
    replace o1 := neN o1
    replace o2 := neN o2
    replace o3 := neN o3
    dsimp only [kstB] at F9 N9 hi hsc hx hdx
    have hpl : pre.length < 50 := by
      have e := congrArg List.length hk
      rw [List.length_append, List.length_cons, Array.length_toList] at e
      have : ws.cps.size ≤ 50 := hl
      omega
    obtain ⟨f1, f2, f3, f4, f5⟩ := scan_facts pre
    rw [← hsc] at f1 f2 f3 f4 f5
    have kMark9 : KstMark := KstMark.mark trivial
    with_reducible show wpAny _ _ _ _ _ _
    k_fold
    repeat' (first | (k_unfold; (try dsimp only)) | (k_end; wrow_close) | (first | ((with_reducible show wpAny _ _ (call (Value.type _) _) _ _ _); first | with_reducible (k_here; (with_reducible show wpAny _ _ (call (Value.type _) [Value.ref _]) _ _ _); k_dflt (refine' kde_tupleOf ?k1 ?k2 ?k3 ?k4 ?k5 ?_; (case k1 => k_asm); (case k2 => k_asm); (case k3 => exact News.isList (by k_asm) (by k_mem)); (case k4 => (rw [List.size_toArray, IntsAre.length (by assumption)]; omega)); (case k5 => exact rfl); k_whole); intro zzD' zzh' zzF' zzN' zzl1; (try k_lt zzl1); (try k_sweep))) | walk1) | (dsimp only; (first | ((with_reducible show wpAny _ _ (call (Value.type _) _) _ _ _); first | with_reducible (k_here; (with_reducible show wpAny _ _ (call (Value.type _) [Value.ref _]) _ _ _); k_dflt (refine' kde_tupleOf ?k1 ?k2 ?k3 ?k4 ?k5 ?_; (case k1 => k_asm); (case k2 => k_asm); (case k3 => exact News.isList (by k_asm) (by k_mem)); (case k4 => (rw [List.size_toArray, IntsAre.length (by assumption)]; omega)); (case k5 => exact rfl); k_whole); intro zzD' zzh' zzF' zzN' zzl1; (try k_lt zzl1); (try k_sweep))) | walk1)) | (leave1; walk_say "STEP leave1"; try dsimp only) | fail "no step")
    · dsimp only [TPost]
      refine TEnd.intro (⟨lc, vs, e, _, _, tt, ⟨sc.cnt, sc.b + 1, sc.n + 1, sc.nt⟩⟩ : LS) (by assumption) (by assumption) (by k_mem) (by walk_at "M all") hoff (by walk_at "M rfls") (by kst_same) (PInit.blank hsc hi hbl hx hdx (sign_32 (by assumption)))
    · rename IntsAre _ _ => hi2
      dsimp only [TPost]
      refine TEnd.intro (⟨_, _, _, _, _, _, ⟨bump sc.cnt sc.b, 0, sc.n + 1, sc.nt + 1⟩⟩ : LS) (by assumption) (by assumption) (by k_mem) (by walk_at "M all") ?ho (by walk_at "M rfls") (by kst_same) (PInit.tab hsc hi2 (bump_ext (by assumption)) hbl ?h1 ?h2 (sign_9 (by assumption)))
      case ho => (repeat' (first | exact List.forall_mem_nil _ | refine List.forall_mem_cons.mpr ⟨?_, ?_⟩ | assumption | k_ne))
      case h1 => omega
      case h2 => omega
    · rename IntsAre _ _ => hi2
      dsimp only [TPost]
      refine TEnd.intro (⟨lc, _, _, _, _, _, ⟨bump sc.cnt sc.b, 0, sc.n + 1, sc.nt + 1⟩⟩ : LS) (by assumption) (by assumption) (by k_mem) (by walk_at "M all") (by (repeat' (first | exact List.forall_mem_nil _ | refine List.forall_mem_cons.mpr ⟨?_, ?_⟩ | assumption | k_ne))) (by walk_at "M rfls") (by kst_same) (PInit.tab hsc hi2 (bump_in (by assumption)) hbl hx hdx (sign_9 (by assumption)))
    · try dsimp only
      try k_unfold
      refine TPost.brkI (⟨lc, vs, e, _, _, tt, sc⟩ : LS) F9 N9 (by k_mem) (by walk_at "M all") hoff (by walk_at "M rfls") (by kst_same) (DInit.brk hk hsc hi hbl hx hdx (sign_n32 (by assumption)) (sign_n9 (by assumption)))
  · clear lF lN
    rintro ⟨lc, vs, e, tb, tn, tt, sc⟩ u h tk ⟨hsc, hi, hx, hdx⟩ F9 N9
    dsimp only [kstB] at F9 N9 hi hsc hx hdx
    have kMark9 : KstMark := KstMark.mark trivial
    have hpl : (ws.cps.toList.takeWhile blankB).length ≤ 50 := by
      have e2 : ws.cps.toList.length ≤ 50 := by rw [Array.length_toList]; exact hl
      exact Nat.le_trans (List.takeWhile_prefix (p := blankB) (l := ws.cps.toList)).length_le e2
    obtain ⟨f1, f2, f3, f4, f5⟩ := scan_facts (ws.cps.toList.takeWhile blankB)
    rw [← hsc] at f1 f2 f3 f4 f5
    k_unfold; dsimp only
    with_reducible show wpAny _ _ _ _ _ _
    try k_fold
    repeat' (first | (k_unfold; (try dsimp only)) | (k_end; wrow_close) | (first | ((with_reducible show wpAny _ _ (call (Value.type _) _) _ _ _); first | with_reducible (k_here; (with_reducible show wpAny _ _ (call (Value.type _) [Value.ref _]) _ _ _); k_dflt (refine' kde_tupleOf ?k1 ?k2 ?k3 ?k4 ?k5 ?_; (case k1 => k_asm); (case k2 => k_asm); (case k3 => exact News.isList (by k_asm) (by k_mem)); (case k4 => (rw [List.size_toArray, IntsAre.length (by assumption)]; omega)); (case k5 => exact rfl); k_whole); intro zzD' zzh' zzF' zzN' zzl1; (try k_lt zzl1); (try k_sweep))) | walk1) | (dsimp only; (first | ((with_reducible show wpAny _ _ (call (Value.type _) _) _ _ _); first | with_reducible (k_here; (with_reducible show wpAny _ _ (call (Value.type _) [Value.ref _]) _ _ _); k_dflt (refine' kde_tupleOf ?k1 ?k2 ?k3 ?k4 ?k5 ?_; (case k1 => k_asm); (case k2 => k_asm); (case k3 => exact News.isList (by k_asm) (by k_mem)); (case k4 => (rw [List.size_toArray, IntsAre.length (by assumption)]; omega)); (case k5 => exact rfl); k_whole); intro zzD' zzh' zzF' zzN' zzl1; (try k_lt zzl1); (try k_sweep))) | walk1)) | (leave1; walk_say "STEP leave1"; try dsimp only) | fail "no step")
    refine hret _ _ _ _ _ _ _ _ _ _ _ _ _ _ _ _ _ _ _ _ _ _ (init_end S (by assumption) (by assumption) hsc hi (by walk_at "M all") rfl rfl rfl rfl ?_ ?_ ?_) <;> omega : ∀ (prog : Program) (w : World) (s : Shared) (base : Heap) (g : Heap) (fr : List Env) (gd : Option (List Code)) (p : Program) (loose : List Str) (mean : ExcName → Option Value) (mg : Str → Option Value) (mb : Str → Option Value) (x : Addr) (dx : Addr) (ws : Str) (tw : Tok) (R : Result → Shared → Prop), init_spec_P prog w s base g fr gd p loose mean mg mb x dx ws tw R) _ _ _ _ _ _ _ _ _ _ _ _ _ _ _ _ _
theorem init_spec (hne : dx < x)
    (S : Std (AT 700 3000 fr gd) base fr g (Mine.hd.heap_1 w.params) p loose mean mg mb s.heap [(x, instObj 138 dx), (dx, dictOf [] 0)])
    (hl : ws.length ≤ 50)
    (hret : ∀ (tn tc : Addr) (h1 h2 h3 h4 h5 : Int) (t1 t2 t3 t4 t5 u1 u2 u3 u6 : Tok) (e1 e2 e3 : Nat) (vs : List Value) (h' : Heap) (tk' : Nat), WsNew s.heap h' x dx tn tc h1 h2 h3 h4 h5 t1 t2 t3 t4 t5 u1 u2 u3 u6 e1 e2 e3 vs ws →
      R (.ok (.ret .none)) { s with heap := h', toks := tk' }) :
    codeAny (model prog w) (AT 700 3000 fr gd) (.call (.ref 93) ⟨[.ref x, .str ws tw], []⟩) R s :=
  (show init_spec_P prog w s base g fr gd p loose mean mg mb x dx ws tw R from close1 (R := init_spec_R) _ init_spec_core (prog, w, s, base, g, fr, gd, p, loose, mean, mg, mb, x, dx, ws, tw, R)) hne S hl hret
end

section
theorem sepCol : True := by
  w_top off
  trivial
local macro_rules | `(tactic| walk_at "M pad") => `(tactic| skip)
set_option maxRecDepth 100000
theorem fill_me21 : PySem.Challenge.rw_mr0234_01 = PySem.Challenge.rw_mr0234_01 ∧ Mine.hd.heap_1 = Mine.hd.heap_1 := by
  k_fill
  exact ⟨rfl, rfl⟩
theorem mem0L {a : Addr × Obj} {l r : List (Addr × Obj)} (h : a ∈ l) : List.Mem a (l ++ r) := List.mem_append_left _ h
theorem mem0R {a : Addr × Obj} {l r : List (Addr × Obj)} (h : a ∈ r) : List.Mem a (l ++ r) := List.mem_append_right _ h
theorem mem0V {a : Addr × Obj} {l : List (Addr × Obj)} (h : a ∈ l) : List.Mem a l := h
set_option hygiene false in
local macro_rules | `(tactic| k_mem) => `(tactic| first | (refine mem0L ?_; k_mem) | (refine mem0R ?_; k_mem) | (refine mem0V ?_; ktr_member))
set_option hygiene false in
local macro_rules | `(tactic| walk_at "exec For Name Name cons nil") => `(tactic| (k_here; (rename Fr _ _ _ _ => lF'); (with_unfolding_all refine' For_invVF lF' ?k1 ?k2 ?_; (case k1 | k2 => exact rfl); k_whole)))
local macro_rules | `(tactic| walk_at "M sub0") => `(tactic| first | exact fun _ h => h | exact fun _ h => List.mem_append_right _ h | exact fun _ h => .tail _ (List.mem_append_right _ h) | exact fun _ h => List.mem_append_left _ h)
variable {prog : Program} {w : World} {s : Shared} {base g : Heap} {fr : List Env} {gd : Option (List Code)}
  {p : Program} {loose : List Str} {mean : ExcName → Option Value} {mg mb : Str → Option Value}
/-- one sign's column -/
noncomputable def colStep (size : Int) (c : Int) (x : Nat) : Int := if x = 32 then c + 1 else c - c.fmod size + size
noncomputable def colL (size : Int) (l : List Nat) : Int := l.foldl (colStep size) 0
theorem colL_snoc (size : Int) (l : List Nat) (x : Nat) : colL size (l ++ [x]) = colStep size (colL size l) x := by simp [colL]
structure CS where
  vs : List Value
  e : Nat
noncomputable def PCol (l : List Nat) (pre : List Int) (c : CS) : Prop := IntsAre c.vs (pre.map fun size => colL size l)
theorem pick1 {h₀ h : Heap} {L : Addr} {m : Str → Option Value} (F : Fr h₀ L h m) (x : Str) {a : Int} {R : Prop} (hx : ∃ t, m x = some (.int a t)) (k : ∀ t, m x = some (.int a t) → R) : R :=
  let ⟨t, e⟩ := hx; k t e
theorem pickN {h₀ h : Heap} {L a : Addr} {o : Obj} {r : List (Addr × Obj)} {R : Prop} (_ : News h₀ L h ((a, o) :: r)) (k : ∀ a', a' = a → R) : R := k a rfl
theorem same20 {z a b : Str} (h : [a, b].contains z = false) : z ≠ a ∧ z ≠ b := by
  simpa using h
theorem TPost.nextI {σ : Type} {h₀ : Heap} {x : Str} {Q : Flow → Shared → Prop} {L : Addr} {Led : σ → List (Addr × Obj)} {ps : σ → List (Str × Value)} {stored : List Str} {m₀ : Str → Option Value} {P : List Nat → σ → Prop} {D : σ → Prop} {pre : List Nat} {I : Addr} {oI : Obj} {s₁ : Shared} (c : σ) {h' : Heap} {tk : Nat} {m' : Str → Option Value} {news' : List (Addr × Obj)}
    (F : Fr h₀ L h' m') (N : News h₀ L h' news') (hI : (I, oI) ∈ news') (hl : ∀ p ∈ Led c, p ∈ news') (hne : ∀ p ∈ Led c, p.1 ≠ I) (hk : ∀ p ∈ ps c, m' p.1 = some p.2)
    (hr : ∀ z, z ≠ x → (∀ p ∈ ps c, z ≠ p.1) → stored.contains z = false → m' z = m₀ z) (hp : P pre c) : TPost h₀ L Led ps x stored m₀ P D pre I oI s₁ Q .next { s₁ with heap := h', toks := tk } :=
  ⟨c, h', tk, m', news', rfl, F, N, hI, hl, hne, hk, hr, hp⟩
/-- the statement of col_spec over its data -/
noncomputable def col_spec_P (prog : Program) (w : World) (s : Shared) (base : Heap) (g : Heap) (fr : List Env) (gd : Option (List Code)) (p : Program) (loose : List Str) (mean : ExcName → Option Value) (mg : Str → Option Value) (mb : Str → Option Value) (Q : Value → Shared → Prop) (E : Value → Shared → Prop) (lead : Str) (t : Tok) : Prop :=
  ∀ (S : Std (AT 700 3000 fr gd) base fr g (Mine.hd.heap_1 w.params) p loose mean mg mb s.heap []) (hl : lead.length ≤ 50) (hret : ∀ (l : Addr) (vs : List Value) (e : Nat) (h' : Heap) (tk' : Nat), s.heap.StaysIn h' → s.heap.get? l = none → h'.get? l = some (W.listOf vs.toArray e) → IntsAre vs ((rangeKs 1 10).map fun size => colL size lead.cps.toList) → Q (.ref l) { s with heap := h', toks := tk' }), wpAny (model prog w) (AT 700 3000 fr gd) (call (.ref 175) [.str lead t]) Q E s
noncomputable def col_spec_R (p : Program × World × Shared × Heap × Heap × (List Env) × (Option (List Code)) × Program × (List Str) × (ExcName → Option Value) × (Str → Option Value) × (Str → Option Value) × (Value → Shared → Prop) × (Value → Shared → Prop) × Str × Tok) : Prop := col_spec_P p.1 p.2.1 p.2.2.1 p.2.2.2.1 p.2.2.2.2.1 p.2.2.2.2.2.1 p.2.2.2.2.2.2.1 p.2.2.2.2.2.2.2.1 p.2.2.2.2.2.2.2.2.1 p.2.2.2.2.2.2.2.2.2.1 p.2.2.2.2.2.2.2.2.2.2.1 p.2.2.2.2.2.2.2.2.2.2.2.1 p.2.2.2.2.2.2.2.2.2.2.2.2.1 p.2.2.2.2.2.2.2.2.2.2.2.2.2.1 p.2.2.2.2.2.2.2.2.2.2.2.2.2.2.1 p.2.2.2.2.2.2.2.2.2.2.2.2.2.2.2
noncomputable def col_spec_c : Program × World × Shared × Heap × Heap × (List Env) × (Option (List Code)) × Program × (List Str) × (ExcName → Option Value) × (Str → Option Value) × (Str → Option Value) × (Value → Shared → Prop) × (Value → Shared → Prop) × Str × Tok := pick (neP inferInstance (neP neW (neP neS (neP inferInstance (neP inferInstance (neP inferInstance (neP inferInstance (neP inferInstance (neP inferInstance (neP inferInstance (neP inferInstance (neP inferInstance (neP inferInstance (neP inferInstance (neP inferInstance inferInstance))))))))))))))) col_spec_R
set_option maxHeartbeats 1500000 in
set_option pp.deepTerms false in
set_option pp.deepTerms.threshold 6 in
set_option pp.maxSteps 1500 in
theorem col_spec_core : col_spec_R col_spec_c := ((by
  intro prog w s base g fr gd p loose mean mg mb Q E lead t S hl hret
  refine wpAny_call ?_
  k_dflt (refine' enterC ?kS ?k6 ?k7 ?k8 ?k9 ?kB ?_ ?c2 ?c3 ?c4 ?c5; (case kS => assumption); (case k6 => k_is); (case k7 => k_is); (case k8 => exact Nat.le_of_ble_eq_true rfl); (case k9 => exact BindsTo.of_eq rfl); (case c5 => decide); (case kB => exact locs rfl); (case c2 => exact rfl); (case c3 => exact rfl); (case c4 => exact rfl); k_whole; intro zzL' zzh' zzB' zzX' zzT' zzF' zzN'; (try dsimp only); (try k_fold))
  repeat' (first | (k_unfold; (try dsimp only)) | (k_end; wrow_close) | ((fail_if_success (with_reducible show wpAny _ _ (pyIter _) _ _ _)); walk1) | ((fail_if_success (with_reducible show wpAny _ _ (pyIter _) _ _ _));dsimp only; walk1) | (leave1; walk_say "STEP leave1"; try dsimp only) | fail "no step")
  rename Fr _ _ _ _ => lF
  rename News _ _ _ _ => lN
  rename IsRange _ _ _ _ _ _ _ _ => rgX
  refine pickN lN ?_
  rintro lc rfl
  refine' kst_range (n := 10) (fun c : CS => [(lc, W.listOf c.vs.toArray c.e)]) (fun _ => []) (fun _ => True) [Str.ofString "sign", Str.ofString "column"] (PCol lead.cps.toList) ⟨[], _⟩ rfl rgX rfl rfl lF (cb_drop lN ?kN) trivial (List.forall_mem_nil _) IntsAre.nil ?_ ?_
  case kN => walk_at "M all"
  · clear lF lN
    intro c1 pre k t u h tk own hk hlt hoff _ hP F9 N9
    obtain ⟨vs1, e1⟩ := c1
    unfold PCol at hP
    dsimp only [kstB] at F9 N9 hP
    have kMark9 : KstMark := KstMark.mark trivial
    with_reducible show wpAny _ _ _ _ _ _
    k_fold
    repeat' (first | (k_unfold; (try dsimp only)) | (k_end; wrow_close) | ((fail_if_success (with_reducible show wpAny _ _ (pyIter _) _ _ _)); walk1) | ((fail_if_success (with_reducible show wpAny _ _ (pyIter _) _ _ _));dsimp only; walk1) | (leave1; walk_say "STEP leave1"; try dsimp only) | fail "no step")
    clear F9 N9
    rename Fr _ _ _ _ => lF
    rename News _ _ _ _ => lN
    refine pick1 lF (Str.ofString "column") ⟨_, rfl⟩ ?_
    intro t0 ht0
    refine' text_loop (fun c : Int × Tok => [(lc, W.listOf vs1.toArray e1)] ++ own) (fun c => [(Str.ofString "column", .int c.1 c.2)]) [] (fun pr c => c.1 = colL k pr) (fun c => c.1 = colL k lead.cps.toList) (0, t0) rfl lF lN rfl ?kk rfl ?_ (fun c h => h) ?_
    case kk => exact List.forall_mem_cons.mpr ⟨ht0, List.forall_mem_nil _⟩
    · clear lF lN
      rintro ⟨cv, ct⟩ pre2 post x t2 u2 h2 tk2 I oI hk2 hc hoff2 F9 N9
      dsimp only [kstB] at F9 N9 hc
      have kMark9 : KstMark := KstMark.mark trivial
      with_reducible show wpAny _ _ _ _ _ _
      k_fold
      k_steps
      · rename Fr _ _ _ _ => F8
        rename News _ _ _ _ => N8
        refine TPost.nextI ((cv + 1, _) : Int × Tok) F8 N8 (.head _) (by exact fun _ h => .tail _ h) hoff2 (by exact List.forall_mem_cons.mpr ⟨rfl, List.forall_mem_nil _⟩) (by kst_same) ?_
        rw [colL_snoc, ← hc]
        exact (if_pos (sign_32 (by assumption))).symm
      · rename Fr _ _ _ _ => F8
        rename News _ _ _ _ => N8
        refine TPost.nextI ((cv - cv.fmod k + k, _) : Int × Tok) F8 N8 (.head _) (by exact fun _ h => .tail _ h) hoff2 (by exact List.forall_mem_cons.mpr ⟨rfl, List.forall_mem_nil _⟩) (by kst_same) ?_
        rw [colL_snoc, ← hc]
        exact (if_neg (sign_n32 (by assumption))).symm
    · clear lF lN
      rintro ⟨cv, ct⟩ u2 h2 tk2 hc F9 N9
      dsimp only [kstB] at F9 N9 hc
      have kMark9 : KstMark := KstMark.mark trivial
      k_steps
      rename Fr _ _ _ _ => F8
      rename News _ _ _ _ => N8
      refine kst_end (⟨vs1 ++ [Value.int cv ct], e1 + 1⟩ : CS) F8 N8 ?ka (fun _ h => .tail _ h) rfl trivial (List.forall_mem_nil _) ?kb ?kc
      case ka => 
        refine List.forall_mem_cons.mpr ⟨?_, List.forall_mem_nil _⟩
        rw [List.push_toArray]
        exact .head _
      case kb =>
        intro z h1 _ h3
        have h4 := same20 h3
        simp only [if_neg h1, if_neg h4.1, if_neg h4.2, h3, Bool.false_eq_true, if_false]
        rfl
      case kc =>
        unfold PCol
        rw [List.map_append, List.map_singleton, ← hc]
        exact IntsAre.append hP (.cons _ _ .nil)
  · clear lF lN
    intro c1 u h tk _ hP F9 N9
    obtain ⟨vs1, e1⟩ := c1
    unfold PCol at hP
    dsimp only [kstB] at F9 N9 hP
    k_steps
    change Q (Value.ref _) _
    refine hret _ vs1 e1 _ _ (S.keeps F9 N9 (List.forall_mem_nil _)) ?_ (N9.get (.head _)) hP
    cases z : s.heap.get? _ with
    | none => rfl
    | some o =>
      rcases S.sup _ _ z with q | q
      · rw [(N9 _ (.head _)).2.2] at q; cases q
      · cases q) : ∀ (prog : Program) (w : World) (s : Shared) (base : Heap) (g : Heap) (fr : List Env) (gd : Option (List Code)) (p : Program) (loose : List Str) (mean : ExcName → Option Value) (mg : Str → Option Value) (mb : Str → Option Value) (Q : Value → Shared → Prop) (E : Value → Shared → Prop) (lead : Str) (t : Tok), col_spec_P prog w s base g fr gd p loose mean mg mb Q E lead t) _ _ _ _ _ _ _ _ _ _ _ _ _ _ _ _
theorem col_spec {Q E : Value → Shared → Prop} {lead : Str} {t : Tok}
    (S : Std (AT 700 3000 fr gd) base fr g (Mine.hd.heap_1 w.params) p loose mean mg mb s.heap []) (hl : lead.length ≤ 50)
    (hret : ∀ (l : Addr) (vs : List Value) (e : Nat) (h' : Heap) (tk' : Nat), s.heap.StaysIn h' → s.heap.get? l = none → h'.get? l = some (W.listOf vs.toArray e) → IntsAre vs ((rangeKs 1 10).map fun size => colL size lead.cps.toList) → Q (.ref l) { s with heap := h', toks := tk' }) :
    wpAny (model prog w) (AT 700 3000 fr gd) (call (.ref 175) [.str lead t]) Q E s :=
  (show col_spec_P prog w s base g fr gd p loose mean mg mb Q E lead t from close1 (R := col_spec_R) _ col_spec_core (prog, w, s, base, g, fr, gd, p, loose, mean, mg, mb, Q, E, lead, t)) S hl hret
end

section
set_option maxRecDepth 100000
/-- a loop's state whose ledger may grow -/
noncomputable def GS {σ : Type} (Led : σ → List (Addr × Obj)) (ps : σ → List (Str × Value)) (x : Str) (stored : List Str) (m₀ : Str → Option Value) (P : Nat → σ → Prop) (i : Nat) (m : Str → Option Value) (nx : List (Addr × Obj)) : Prop :=
  ∃ c : σ, nx = Led c ∧ (∀ p ∈ ps c, m p.1 = some p.2) ∧ (∀ z, z ≠ x → (∀ p ∈ ps c, z ≠ p.1) → stored.contains z = false → m z = m₀ z) ∧ P i c
section
variable {prog : Program} {w : World} {A : Around} {E : Value → Shared → Prop} {s : Shared} {env : Env} {h₀ : Heap} {x : Str} {body : List Stmt} {Q : Flow → Shared → Prop}
theorem g_end {σ : Type} {Led : σ → List (Addr × Obj)} {ps : σ → List (Str × Value)} {stored : List Str} {m₀ : Str → Option Value} {P : Nat → σ → Prop} {i : Nat} (c : σ) {L : Addr} {m' : Str → Option Value} {own news' : List (Addr × Obj)} {s₁ : Shared} {h' : Heap} {tk : Nat}
    (F : Fr h₀ L h' m') (N : News h₀ L h' news') (hn : ∀ p ∈ Led c, p ∈ news') (ho : ∀ p ∈ own, p ∈ news') (ha : ∀ p ∈ own, ∀ q ∈ Led c, p.1 ≠ q.1) (hk : ∀ p ∈ ps c, m' p.1 = some p.2) (hr : ∀ z, z ≠ x → (∀ p ∈ ps c, z ≠ p.1) → stored.contains z = false → m' z = m₀ z) (hp : P i c) :
    InvEndG h₀ L (GS Led ps x stored m₀ P i) own s₁ { s₁ with heap := h', toks := tk } :=
  InvEndG.intro F N ⟨c, rfl, hk, hr, hp⟩ (fun p hp b hb => by obtain ⟨q, hq, rfl⟩ := List.mem_map.mp hb; exact ha p hp q hq) hn ho
theorem g_range {σ : Type} {r : Addr} {a₀ b₀ : Int} {t₀ u₀ v₀ : Tok} {n : Nat} {m₀ : Str → Option Value} {news : List (Addr × Obj)} (Led : σ → List (Addr × Obj)) (ps : σ → List (Str × Value)) (stored : List Str) (P : Nat → σ → Prop) (c₀ : σ)
    (hh : A.handled = none) (hr : IsRange s.heap r a₀ b₀ 1 t₀ u₀ v₀) (hsmall : Builtin.Range.small a₀ b₀ 1 = true) (hsz : Builtin.Range.rangeSize a₀ b₀ 1 = (n : Int)) (F : Fr h₀ env.locals s.heap m₀) (N : News h₀ env.locals s.heap news) (hn : ∀ p ∈ Led c₀, p ∈ news) (hk : ∀ p ∈ ps c₀, m₀ p.1 = some p.2) (hp : P 0 c₀)
    (turn : ∀ (c : σ) (i : Nat) (k : Int) t (u : Str → Option Value) h tk own, k = a₀ + (i : Int) → i < n → (∀ p ∈ own, ∀ q ∈ Led c, p.1 ≠ q.1) → P i c →
      Fr h₀ env.locals h (fun y => if y = x then some (.int k t) else kstB (fun z => if stored.contains z then u z else m₀ z) (ps c) y) → News h₀ env.locals h (Led c ++ own) →
      wpAny (model prog w) A (execs body env) (InvPostG h₀ env.locals (GS Led ps x stored m₀ P (i + 1)) own { s with heap := h, toks := tk } Q) E { s with heap := h, toks := tk })
    (done : ∀ (c : σ) (u : Str → Option Value) h tk, P n c → Fr h₀ env.locals h (fun y => if y = x then u y else kstB (fun z => if stored.contains z then u z else m₀ z) (ps c) y) → News h₀ env.locals h (Led c) → Q .next { s with heap := h, toks := tk }) :
    wpAny (model prog w) A (pyIter (.ref r)) (fun it s₂ => LoopAtV prog w A h₀ env x body Q E it s₂) E s := by
  refine wpAny_pyIter_range hr hsmall ?_
  have W : Walks prog w A s.heap.objs.size [s.heap.objs.size] [s.heap.objs.size] n (fun i v => i < n ∧ ∃ t, v = .int (a₀ + i * 1) t)
      (fun i h => IsRangeIter h s.heap.objs.size (a₀ + (i : Nat) * 1) ((n : Int) - (i : Nat)) 1) := (Walks.range hh _ a₀ 1 n).bound
  refine kdr_loop (fun i m nx => GS Led ps x stored m₀ P i m nx) W (fun _ h => h) (fun _ h => h) ?_ ?_ ?_ ?_ (by show IsRangeIter _ _ _ _ _; rw [hsz]; simpa using Heap.get?_push_size _ rfl) (F.push _) (fun p hp => ⟨Heap.get?_push_of_some _ (N p (hn p hp)).1, (N p (hn p hp)).2⟩) ⟨c₀, rfl, hk, fun _ _ _ _ => rfl, hp⟩ ?_ ?_
  · intro i h hi b hb
    rw [List.mem_singleton.mp hb]
    exact ⟨_, hi⟩
  · intro hm
    exact absurd F.ns.lt ((List.mem_singleton.mp hm) ▸ Nat.lt_irrefl _)
  · intro b hb
    rw [List.mem_singleton.mp hb]
    exact next_is_new F
  · intro p hp hI
    exact absurd (Heap.lt_size (N p (hn p hp)).1) ((List.mem_singleton.mp hI) ▸ Nat.lt_irrefl _)
  · rintro i v m₁ nx h tk own hi ⟨_, t, rfl⟩ hoff ⟨c, rfl, h1, h2, hp'⟩ F₁ N₁
    have e1 : a₀ + (i : Int) * 1 = a₀ + (i : Int) := by omega
    rw [e1] at F₁
    exact turn c i _ t m₁ h tk own rfl hi (fun p hp q hq => hoff p hp q.1 (List.mem_map.mpr ⟨q, hq, rfl⟩)) hp' (kst_fr h1 h2 F₁) N₁
  · rintro m₁ nx h tk ⟨c, rfl, h1, h2, hp'⟩ F₁ N₁
    exact done c m₁ h tk hp' (kst_frOut h1 h2 F₁) N₁
theorem g_list {σ : Type} {l : Addr} {vs : List Value} {nn : Nat} {m₀ : Str → Option Value} {news : List (Addr × Obj)} (Led : σ → List (Addr × Obj)) (ps : σ → List (Str × Value)) (stored : List Str) (P : Nat → σ → Prop) (c₀ : σ)
    (hh : A.handled = none) (hl : ∀ c, (l, listOf vs.toArray nn) ∈ Led c) (F : Fr h₀ env.locals s.heap m₀) (N : News h₀ env.locals s.heap news) (hn : ∀ p ∈ Led c₀, p ∈ news) (hk : ∀ p ∈ ps c₀, m₀ p.1 = some p.2) (hp : P 0 c₀)
    (turn : ∀ (c : σ) (i : Nat) v (u : Str → Option Value) h tk own, vs[i]? = some v → (∀ p ∈ own, ∀ q ∈ Led c, p.1 ≠ q.1) → P i c →
      Fr h₀ env.locals h (fun y => if y = x then some v else kstB (fun z => if stored.contains z then u z else m₀ z) (ps c) y) → News h₀ env.locals h (Led c ++ own) →
      wpAny (model prog w) A (execs body env) (InvPostG h₀ env.locals (GS Led ps x stored m₀ P (i + 1)) own { s with heap := h, toks := tk } Q) E { s with heap := h, toks := tk })
    (done : ∀ (c : σ) (u : Str → Option Value) h tk, P vs.length c → Fr h₀ env.locals h (fun y => if y = x then u y else kstB (fun z => if stored.contains z then u z else m₀ z) (ps c) y) → News h₀ env.locals h (Led c) → Q .next { s with heap := h, toks := tk }) :
    wpAny (model prog w) A (pyIter (.ref l)) (fun it s₂ => LoopAtV prog w A h₀ env x body Q E it s₂) E s := by
  refine kdl_iter (news := Led c₀) (fun i m nx => GS Led ps x stored m₀ P i m nx) hh (hl c₀) F (fun p hp => N p (hn p hp)) ⟨c₀, rfl, hk, fun _ _ _ _ => rfl, hp⟩ ?_ ?_
  · rintro i v m₁ nx h tk own hv hoff _ ⟨c, rfl, h1, h2, hp'⟩ F₁ N₁
    refine wpAny_mono (turn c i v m₁ h tk own hv (fun p hp q hq => hoff p hp q.1 (List.mem_map.mpr ⟨q, hq, rfl⟩)) hp' (kst_fr h1 h2 F₁) N₁) (fun f s₂ p => ?_) fun _ _ x => x
    have up : InvEndG h₀ env.locals (GS Led ps x stored m₀ P (i + 1)) own { s with heap := h, toks := tk } s₂ →
        InvEndG h₀ env.locals (fun m' nx => (l, listOf vs.toArray nn) ∈ nx ∧ GS Led ps x stored m₀ P (i + 1) m' nx) own { s with heap := h, toks := tk } s₂ := by
      rintro ⟨h', tk', m', news', nx', e', F', N', hn', ho', ha, hS⟩
      refine ⟨h', tk', m', news', nx', e', F', N', hn', ho', ha, ?_, hS⟩
      obtain ⟨c', rfl, _⟩ := hS
      exact hl c'
    cases f with
    | ret v => exact p
    | brk => exact p
    | next => exact up p
    | cont => exact up p
  · rintro m₁ nx h tk ⟨c, rfl, h1, h2, hp'⟩ F₁ N₁
    exact done c m₁ h tk hp' (kst_frOut h1 h2 F₁) N₁
end
section
variable {prog : Program} {w : World} {A : Around} {E : Value → Shared → Prop} {s : Shared} {h₀ : Heap} {L l : Addr} {m : Str → Option Value} {news rest : List (Addr × Obj)} {vs : List Value} {e : Nat} {x : Value} {Q : Value → Shared → Prop}
/-- append, the rest of the ledger as one wants it -/
theorem app_lst (F : Fr h₀ L s.heap m) (N : News h₀ L s.heap news) (hm : (l, W.listOf vs.toArray e) ∈ news) (hr : ∀ p ∈ rest, p ∈ news) (hne : ∀ p ∈ rest, p.1 ≠ l) (hz : vs.length ≤ 1000)
    (h : ∀ h', Fr h₀ L h' m → News h₀ L h' ((l, W.listOf (vs ++ [x]).toArray (e + 1)) :: rest) → Q .none { s with heap := h' }) : wpAny (model prog w) A (call (.builtin "list.append") [.ref l, x]) Q E s := by
  refine append_K F (cb_drop (news := (l, W.listOf vs.toArray e) :: rest) N fun q hq => ?_) (Upd.head hne) (fun h' F' N' => h h' F' ?_) (by rw [List.size_toArray, sizeLine_eq]; omega)
  · rcases List.mem_cons.mp hq with rfl | hq
    · exact hm
    · exact hr q hq
  · rw [List.push_toArray] at N'
    exact N'
end
section
variable {prog : Program} {w : World} {A₀ : Around} {s : Shared} {base h₀ : Heap} {outer : List Env} {env : Env} {L : Addr} {m : Str → Option Value} {news : List (Addr × Obj)} {gd : Option (List Code)} {dp un : Nat}
  {p : Program} {loose : List Str} {mean : ExcName → Option Value} {mg mb : Str → Option Value} {Q E : Value → Shared → Prop} {lead : Str} {t : Tok}
/-- the columns of a lead at the ten tab sizes -/
noncomputable def colsL (lead : Str) : List Int := (rangeKs 1 10).map fun size => colL size lead.cps.toList
theorem col_use (B : Below A₀ base outer h₀) (F : Fr h₀ L s.heap m) (X : (Mine.hd.heap_1 w.params).In h₀) (T : Top p loose mean mg mb h₀) (N : News h₀ L s.heap news) (hl : lead.length ≤ 50)
    (hd : dp ≤ 700) (hu : un ≤ 3000) (hf : env.frame = some L) (hke : env.scope.kind = .function)
    (h : ∀ l vs e h' tk', Fr h₀ L h' m → News h₀ L h' ((l, W.listOf vs.toArray e) :: news) → (∀ q ∈ news, q.1 ≠ l) → IntsAre vs (colsL lead) → s.heap.StaysIn h' → Q (.ref l) { s with heap := h', toks := tk' }) :
    wpAny (model prog w) { handled := none, depth := dp, frames := some (env :: outer), guards := gd, units := un } (call (.ref 175) [.str lead t]) Q E s := by
  refine depth_le (A' := AT 700 3000 (env :: outer) gd) (col_spec (std_of (led := []) B F X T N (List.forall_mem_nil _) rfl hf hke) hl fun l vs e h' tk' k hn hl' hi => ?_) rfl hd rfl rfl hu
  refine h l vs e h' tk' (fr_stay F k) (fun q hq => ?_) (fun q hq z => ?_) hi k
  · rcases List.mem_cons.mp hq with rfl | hq
    · refine ⟨hl', fun z => ?_, kts_none F.keep hn⟩
      obtain ⟨oL, es, ep, hL, _⟩ := F.ns
      rw [show (l, W.listOf vs.toArray e).1 = l from rfl] at z
      rw [← z, hn] at hL; cases hL
    · exact news_stay N k q hq
  · have := (N q hq).1
    rw [z, hn] at this; cases this
end
end

section
set_option maxRecDepth 100000
/-- a tree without calls whose writes leave each object's dict where it is -/
noncomputable def DK {α : Type} : Sem α → Prop
  | .pure _ => True
  | .raise _ => True
  | .unsupported _ => True
  | .rule _ k => ∀ x, DK (k x)
  | .at _ k => ∀ x, DK (k x)
  | .load _ _ k => ∀ x, DK (k x)
  | .update _ _ f k => (∀ o, (f o).dict = o.dict ∧ (f o).isFreed = o.isFreed) ∧ ∀ x, DK (k x)
  | .alloc _ k => ∀ x, DK (k x)
  | .stack k => ∀ x, DK (k x)
  | .ask k => ∀ x, DK (k x)
  | .point _ k => ∀ x, DK (k x)
  | .register _ _ => True
  | _ => False
noncomputable def DictSame (h h' : Heap) : Prop := ∀ b o, h.get? b = some o → ∃ o', h'.get? b = some o' ∧ o'.dict = o.dict
theorem DictSame.refl (h : Heap) : DictSame h h := fun _ o e => ⟨o, e, rfl⟩
theorem DictSame.trans {h₁ h₂ h₃ : Heap} (x : DictSame h₁ h₂) (y : DictSame h₂ h₃) : DictSame h₁ h₃ := fun b o e =>
  let ⟨o', e', d'⟩ := x b o e; let ⟨o'', e'', d''⟩ := y b o' e'; ⟨o'', e'', d''.trans d'⟩
theorem DictSame.push (h : Heap) (o : Obj) : DictSame h (h.push o) := fun _ o' e => ⟨o', Heap.get?_push_of_some _ e, rfl⟩
theorem get?_unfreed {h : Heap} {b : Addr} {o : Obj} (e : h.get? b = some o) : o.isFreed = false := (Heap.get?_some_iff.mp e).2
theorem DictSame.update {h : Heap} {a : Addr} {f : Obj → Obj} (hf : ∀ o, (f o).dict = o.dict ∧ (f o).isFreed = o.isFreed) : DictSame h (h.update a f) := fun b o e => by
  by_cases q : a = b
  · subst q
    exact ⟨f o, Heap.get?_update_self f e ((hf o).2.trans (get?_unfreed e)), (hf o).1⟩
  · exact ⟨o, (Heap.get?_update_other h f q).trans e, rfl⟩
theorem DK.wp {α : Type} {M : Model} {Γ : Ctx} {Q : α → Pos → Shared → Prop} {E : Value → Pos → Shared → Prop} (t : Sem α) : ∀ (p : Pos) (s : Shared) (h₀ : Heap), DK t → DictSame h₀ s.heap → Sem.wp M Γ t Q E p s →
    Sem.wp M Γ t (fun a p s' => Q a p s' ∧ DictSame h₀ s'.heap) (fun e p s' => E e p s' ∧ DictSame h₀ s'.heap) p s := by
  induction t with
  | pure a => intro p s h₀ _ d h; exact ⟨h, d⟩
  | raise e => intro p s h₀ _ d h; exact ⟨h, d⟩
  | unsupported => intro p s h₀ _ _ h; exact h
  | register => intro p s h₀ _ _ h; exact h
  | rule _ k ih | «at» _ k ih | stack k ih | ask k ih | point _ k ih => intro p s h₀ dk d h; exact ih _ _ _ _ (dk _) d h
  | load a _ k ih => intro p s h₀ dk d h; obtain ⟨o, ho, h⟩ := h; exact ⟨o, ho, ih _ _ _ _ (dk _) d h⟩
  | update a _ f k ih => intro p s h₀ dk d h; exact ⟨h.1, ih _ _ _ _ (dk.2 _) (d.trans (DictSame.update dk.1)) h.2⟩
  | alloc o k ih => intro p s h₀ dk d h; exact ih _ _ _ _ (dk _) (d.trans (DictSame.push _ _)) h
  | _ => intro p s h₀ dk _ _; exact dk.elim
theorem DK.any {α : Type} {M : Model} {A : Around} {Q : α → Shared → Prop} {E : Value → Shared → Prop} {s : Shared} {t : Sem α} (dk : DK t) (h : wpAny M A t Q E s) :
    wpAny M A t (fun a s' => Q a s' ∧ DictSame s.heap s'.heap) (fun e s' => E e s' ∧ DictSame s.heap s'.heap) s :=
  fun Γ p hΓ => DK.wp t p s s.heap dk (.refl _) (h Γ p hΓ)
theorem DK.bind {α β : Type} {m : Sem α} {f : α → Sem β} (h1 : DK m) (h2 : ∀ a, DK (f a)) : DK (m >>= f) := by
  show DK (m.bind f)
  induction m with
  | pure a => exact h2 a
  | raise e => trivial
  | unsupported => trivial
  | register => trivial
  | rule _ k ih | «at» _ k ih | stack k ih | ask k ih | point _ k ih | load _ _ k ih | alloc _ k ih => exact fun x => ih x (h1 x)
  | update _ _ g k ih => exact ⟨h1.1, fun x => ih x (h1.2 x)⟩
  | _ => exact h1.elim
theorem DK.pure {α : Type} {a : α} : DK (Pure.pure a : Sem α) := trivial
theorem DK.ite {α : Type} {c : Prop} [Decidable c] {a b : Sem α} (h1 : DK a) (h2 : DK b) : DK (if c then a else b) := by split <;> assumption
theorem DK.load {a : Addr} : DK (PySem.load a) := fun _ => trivial
set_option hygiene false in
local macro_rules | `(tactic| walk_at "M dk") => `(tactic| (repeat' (first | exact True.intro | assumption | exact DK.pure | exact DK.load | (refine DK.bind ?_ ?_) | (intro _) | (refine DK.ite ?_ ?_) | split)))
theorem dk_unsup {α : Type} {w : String} : DK (PySem.unsupported w : Sem α) := trivial
theorem dk_stack : DK PySem.stack := fun _ => trivial
theorem dk_fieldsOf (v : Value) : DK (fieldsOf v) := by unfold fieldsOf; walk_at "M dk"
theorem dk_field (v : Value) (i : Nat) : DK (field v i) := by
  unfold field
  refine DK.bind (dk_fieldsOf v) fun a => ?_
  walk_at "M dk"
theorem freed_mapFields (f : Array Value → Array Value) (o : Obj) : (Obj.mapFields f o).dict = o.dict ∧ (Obj.mapFields f o).isFreed = o.isFreed := by
  obtain ⟨c, d, dt, sl⟩ := o
  cases dt <;> exact ⟨rfl, rfl⟩
theorem dk_setField (v : Value) (i : Nat) (x : Value) : DK (setField v i x) := by
  unfold setField updateField
  split
  · refine DK.bind DK.load fun o => ?_
    split
    · split
      · exact ⟨fun o => freed_mapFields _ o, fun _ => trivial⟩
      · trivial
    · trivial
  · trivial
theorem dk_setFlight (e : Value) (fr : Option Addr) : DK (setFlight e fr) := by
  unfold setFlight
  refine DK.bind (dk_field _ _) fun tb => ?_
  split
  · exact dk_setField _ _ _
  · trivial
theorem dk_newObj (c : Value) (d : Data) (di : Option Addr) : DK (newObj c d di) := by
  unfold newObj newObjAsIs classHasDel
  walk_at "M dk"
theorem dk_entryPlaceOf (f : Addr) (b : Bool) : DK (entryPlaceOf f b) := by
  unfold entryPlaceOf
  refine DK.bind dk_stack fun st => ?_
  walk_at "M dk"
theorem dk_readyFrames : ∀ l : List Env, DK (readyFrames l)
  | [] => trivial
  | env :: outer => by
    unfold readyFrames
    have ih := dk_readyFrames outer
    split
    · refine DK.bind DK.load fun o => ?_
      split
      · trivial
      · refine DK.bind ?_ fun b => DK.bind ?_ fun bk => DK.bind ?_ fun _ => ih
        · unfold behindIsImport
          split
          · trivial
          · split
            · trivial
            · exact DK.bind (dk_field _ _) fun _ => trivial
        · unfold keptBack
          split
          · split
            · trivial
            · unfold underTheClaimsCaller
              exact DK.bind (DK.bind dk_stack fun _ => trivial) fun _ => trivial
          · trivial
        · exact ⟨fun o => ⟨rfl, by obtain ⟨c, d, dt, sl⟩ := o; cases dt <;> rfl⟩, fun _ => trivial⟩
    · trivial
theorem dk_frameOf (env : Env) : DK (PySem.frameOf env) := by
  unfold PySem.frameOf frameEnvs
  refine DK.bind (DK.bind dk_stack fun _ => trivial) fun st => DK.bind ?_ fun x => ?_
  · unfold frameObject
    split
    · trivial
    · exact DK.bind (dk_readyFrames _) fun _ => trivial
  · walk_at "M dk"
theorem dk_noteFrame (e : Value) (env : Env) : DK (noteFrame e env) := by
  unfold noteFrame EntryCells.newEntry newFields
  split
  · refine DK.bind (dk_field _ _) fun head => ?_
    have key : ∀ f : Addr, DK (do
        let a ← PySem.frameOf env
        let b ← entryPlaceOf f (head != Value.none)
        let c ← newObj (Value.type "traceback") (Data.fields ([head, a, Value.none, rawInt f, Value.none] ++ if b.isEmpty = true then List.replicate 6 Value.none else b).toArray)
        setField e 1 c) := fun f => DK.bind (dk_frameOf _) fun _ => DK.bind (dk_entryPlaceOf _ _) fun _ => DK.bind (dk_newObj _ _ _) fun _ => dk_setField _ _ _
    dsimp only
    split
    · refine DK.bind (dk_field _ _) fun x => ?_
      split
      · trivial
      · exact DK.bind (dk_setField _ _ _) fun _ => key _
    · exact key _
  · trivial
theorem dk_leaving (env : Env) (e : Value) : DK (leaving env e) := by
  unfold leaving
  exact DK.bind (dk_noteFrame _ _) fun _ => dk_setFlight _ _
end

section
set_option maxRecDepth 100000
section
variable {prog : Program} {w : World} {A : Around} {E : Value → Shared → Prop} {h : Heap} {g : Array GenState} {d : Drawn} {t : Nat} {os : OsState}
variable {nm q : Str} {C N : Addr} {bs bm : List Value} {hdct : Bool} {sn : List Str} {sub : List Value} {ab : Bool} {col : Option Bool} {dd : Option Addr} {k0 k1 k2 k3 k5 : Option Value} {B newId initId : String}
noncomputable abbrev excO (C t : Addr) (dx : Option Addr) : Obj := { cls := .ref C, dict := dx, data := .fields #[.ref t, .none, .none, .none, .bool false, .none] }
theorem type_call_init (F : ExcBaseFacts B newId initId bm) {mN : Str → Option Value} {rest : List Value} {fI : Addr} {oI : Obj} {Q : Fin → Shared → Prop}
    (hC : h.get? C = some (excClassObj nm q C N bs bm hdct sn sub ab col dd k0 k1 k2 k3 k5 newId)) (hn : h.Ns N mN) (hni : mN "__init__" = some (.ref fI)) (hI : h.get? fI = some oI) (hIc : oI.cls = .type "function")
    (hq : ∀ h' e t', (∀ b o, h.get? b = some o → h'.get? b = some o) → h.objs.size ≤ t' → t' < e → h'.get? e = some (excO C t' none) → h'.get? t' = some { cls := .type "tuple", data := .seq rest.toArray } → h'.objs.size = e + 1 →
      wpAny (model prog w) A (call (.ref fI) (.ref e :: rest)) (fun r s' => r = .none ∧ Q (.done (.ret (.ref e))) s') E ⟨h', g, d, t, os⟩) (hrest : rest.length ≤ sizeLine) :
    wpAny (model prog w) A (Builtin.«type.__call__» ⟨.ref C :: rest, []⟩) Q E ⟨h, g, d, t, os⟩ := by
  repeat (first | with_reducible refine wpAny_loadPart_at hC ?_ | with_reducible refine wpAny_madeBy_exc hC ?_ | wp_step)
  refine codeAny_call_builtin_code (Code.quiet_builtin _ F.quiet) (wpAny_check_new_sub F hC ?_)
  refine codeAny_exc_new_sub F hC ?_ hrest
  show wpAny _ _ _ _ _ _
  have up : ∀ b o, h.get? b = some o → ((h.push { cls := .type "tuple", data := .seq rest.toArray }).push { cls := .ref C, data := .fields #[.ref h.objs.size, .none, .none, .none, .bool false, .none] }).get? b = some o := fun b o e => Heap.get?_push_of_some _ (Heap.get?_push_of_some _ e)
  have hC₁ := up _ _ hC
  have hI₁ := up _ _ hI
  have hn₁ : ((h.push { cls := .type "tuple", data := .seq rest.toArray }).push { cls := .ref C, data := .fields #[.ref h.objs.size, .none, .none, .none, .bool false, .none] }).Ns N mN :=
    let ⟨o, es, ep, e, r⟩ := hn; ⟨o, es, ep, up _ _ e, r⟩
  have hget : ((h.push { cls := .type "tuple", data := .seq rest.toArray }).push
      { cls := .ref C, data := .fields #[.ref h.objs.size, .none, .none, .none, .bool false, .none] }).get? (h.objs.size + 1) = some
      { cls := .ref C, data := .fields #[.ref h.objs.size, .none, .none, .none, .bool false, .none] } := by heap_get
  have hcC : (Value.ref C :: bm).contains (.ref C) = true := by simp
  unfold isInstance
  repeat (first | with_reducible refine wpAny_loadPart_at hget ?_ | (with_reducible refine wpAny_isSubtype_exc hC₁ ?_; rw [hcC]) | wp_step)
  show wpAny _ _ (typeLookup (.ref C) _) _ _ _
  refine wpAny_typeLookup_exc hC₁ hn₁ F.mroIs F.init.lookup ?_
  rw [hni]
  refine wpAny_holding ?_
  unfold bindSpecial
  refine wpAny_bind (wpAny_bind (wpAny_typeOf (T := "function") ⟨oI, hI₁, hIc⟩ ?_))
  rw [if_pos (by decide)]
  refine wpAny_pure ?_
  dsimp only
  refine wpAny_bind ?_
  show wpAny _ _ (call (.ref fI) (.ref (h.objs.size + 1) :: rest)) _ _ _
  refine wpAny_mono (hq _ (h.objs.size + 1) h.objs.size up (Nat.le_refl _) (Nat.lt_succ_self _) hget ?_ (by simp only [Heap.size_push])) (fun r s' hr => ?_) fun _ _ x => x
  · exact Heap.get?_push_of_some _ (Heap.get?_push_size _ rfl)
  · obtain ⟨rfl, hr⟩ := hr
    refine wpAny_pure ?_
    dsimp only
    rw [if_neg (by decide)]
    exact wpAny_pure hr
theorem call_init (F : ExcBaseFacts B newId initId bm) {mN : Str → Option Value} {rest : List Value} {fI : Addr} {oI : Obj} {Q : Value → Shared → Prop}
    (hC : h.get? C = some (excClassObj nm q C N bs bm hdct sn sub ab col dd k0 k1 k2 k3 k5 newId)) (hn : h.Ns N mN) (hni : mN "__init__" = some (.ref fI)) (hI : h.get? fI = some oI) (hIc : oI.cls = .type "function")
    (hq : ∀ h' e t', (∀ b o, h.get? b = some o → h'.get? b = some o) → h.objs.size ≤ t' → t' < e → h'.get? e = some (excO C t' none) → h'.get? t' = some { cls := .type "tuple", data := .seq rest.toArray } → h'.objs.size = e + 1 →
      wpAny (model prog w) (A.under (.builtin "type.__call__" ⟨.ref C :: rest, []⟩)) (call (.ref fI) (.ref e :: rest)) (fun r s' => r = .none ∧ Q (.ref e) s') E ⟨h', g, d, t, os⟩) (hrest : rest.length ≤ sizeLine) :
    wpAny (model prog w) A (call (.ref C) rest) Q E ⟨h, g, d, t, os⟩ := by
  have f1 := tc_lookup
  have f2 := tc_bind (.ref C)
  have hT : (⟨h, g, d, t, os⟩ : Shared).TypeIs (.ref C) "type" := ⟨_, hC, rfl⟩
  refine wpAny_call (codeAny_of_tree ?_)
  show wpAny _ _ (callAny (.ref C) _) _ _ _
  repeat (any_goals (first | assumption | with_reducible refine wpAny_loadPart_at hC ?_ | wp_step))
  refine ⟨rfl, ?_⟩
  exact codeAny_call_builtin_at (Code.quiet_builtin _ (by decide +kernel)) entry_typeCall (wpAny_check_type_call_sub hC (type_call_init F hC hn hni hI hIc hq hrest))
end

section
variable {prog : Program} {w : World} {A : Around} {E : Value → Shared → Prop} {s : Shared}
variable {nm q : Str} {C N : Addr} {bs : List Value} {sn : List Str} {sub : List Value} {ab : Bool} {col : Option Bool} {dd : Option Addr} {k0 k1 k2 k3 k5 : Option Value} {newId : String} {mN : Str → Option Value}
open PySem.Builtin.ObjectAttr PySem.Builtin
/-- the statement of set_exc_first over its data -/
noncomputable def set_exc_first_P (prog : Program) (w : World) (A : Around) (E : Value → Shared → Prop) (nm : Str) (q : Str) (C : Addr) (N : Addr) (bs : List Value) (sn : List Str) (sub : List Value) (ab : Bool) (col : Option Bool) (dd : Option Addr) (k0 : Option Value) (k1 : Option Value) (k2 : Option Value) (k3 : Option Value) (k5 : Option Value) (newId : String) (mN : Str → Option Value) (h : Heap) (tk : Nat) (bm : List Value) (B : String) (sa : String) (owner : String) (e : Addr) (t : Addr) (name : Str) (v : Value) (Q : Unit → Shared → Prop) : Prop :=
  ∀ (g : Array GenState) (d : Drawn) (os : OsState) (SF : StoreFacts B bm sa owner) (hx : h.get? e = some (excO C t none)) (hC : h.get? C = some (excClassObj nm q C N bs bm true sn sub ab col dd k0 k1 k2 k3 k5 newId)) (hn : h.Ns N mN) (hns : mN "__setattr__" = none) (hna : mN name = none) (hB : typeLookup (.type B) name = pure none) (hq : ∀ h' tk', h'.get? e = some (excO C t (some h.objs.size)) → h'.Ns1 h.objs.size (fun y => if y = name then some v else none) → (∀ b o, b ≠ e → h.get? b = some o → h'.get? b = some o) → Q () ⟨h', g, d, tk', os⟩), wpAny (model prog w) A (setAttr (.ref e) name v) Q E ⟨h, g, d, tk, os⟩
noncomputable def set_exc_first_R (p : Program × World × Around × (Value → Shared → Prop) × Str × Str × Addr × Addr × (List Value) × (List Str) × (List Value) × Bool × (Option Bool) × (Option Addr) × (Option Value) × (Option Value) × (Option Value) × (Option Value) × (Option Value) × String × (Str → Option Value) × Heap × Nat × (List Value) × String × String × String × Addr × Addr × Str × Value × (Unit → Shared → Prop)) : Prop := set_exc_first_P p.1 p.2.1 p.2.2.1 p.2.2.2.1 p.2.2.2.2.1 p.2.2.2.2.2.1 p.2.2.2.2.2.2.1 p.2.2.2.2.2.2.2.1 p.2.2.2.2.2.2.2.2.1 p.2.2.2.2.2.2.2.2.2.1 p.2.2.2.2.2.2.2.2.2.2.1 p.2.2.2.2.2.2.2.2.2.2.2.1 p.2.2.2.2.2.2.2.2.2.2.2.2.1 p.2.2.2.2.2.2.2.2.2.2.2.2.2.1 p.2.2.2.2.2.2.2.2.2.2.2.2.2.2.1 p.2.2.2.2.2.2.2.2.2.2.2.2.2.2.2.1 p.2.2.2.2.2.2.2.2.2.2.2.2.2.2.2.2.1 p.2.2.2.2.2.2.2.2.2.2.2.2.2.2.2.2.2.1 p.2.2.2.2.2.2.2.2.2.2.2.2.2.2.2.2.2.2.1 p.2.2.2.2.2.2.2.2.2.2.2.2.2.2.2.2.2.2.2.1 p.2.2.2.2.2.2.2.2.2.2.2.2.2.2.2.2.2.2.2.2.1 p.2.2.2.2.2.2.2.2.2.2.2.2.2.2.2.2.2.2.2.2.2.1 p.2.2.2.2.2.2.2.2.2.2.2.2.2.2.2.2.2.2.2.2.2.2.1 p.2.2.2.2.2.2.2.2.2.2.2.2.2.2.2.2.2.2.2.2.2.2.2.1 p.2.2.2.2.2.2.2.2.2.2.2.2.2.2.2.2.2.2.2.2.2.2.2.2.1 p.2.2.2.2.2.2.2.2.2.2.2.2.2.2.2.2.2.2.2.2.2.2.2.2.2.1 p.2.2.2.2.2.2.2.2.2.2.2.2.2.2.2.2.2.2.2.2.2.2.2.2.2.2.1 p.2.2.2.2.2.2.2.2.2.2.2.2.2.2.2.2.2.2.2.2.2.2.2.2.2.2.2.1 p.2.2.2.2.2.2.2.2.2.2.2.2.2.2.2.2.2.2.2.2.2.2.2.2.2.2.2.2.1 p.2.2.2.2.2.2.2.2.2.2.2.2.2.2.2.2.2.2.2.2.2.2.2.2.2.2.2.2.2.1 p.2.2.2.2.2.2.2.2.2.2.2.2.2.2.2.2.2.2.2.2.2.2.2.2.2.2.2.2.2.2.1 p.2.2.2.2.2.2.2.2.2.2.2.2.2.2.2.2.2.2.2.2.2.2.2.2.2.2.2.2.2.2.2
noncomputable def set_exc_first_c : Program × World × Around × (Value → Shared → Prop) × Str × Str × Addr × Addr × (List Value) × (List Str) × (List Value) × Bool × (Option Bool) × (Option Addr) × (Option Value) × (Option Value) × (Option Value) × (Option Value) × (Option Value) × String × (Str → Option Value) × Heap × Nat × (List Value) × String × String × String × Addr × Addr × Str × Value × (Unit → Shared → Prop) := pick (neP inferInstance (neP neW (neP neA (neP inferInstance (neP inferInstance (neP inferInstance (neP inferInstance (neP inferInstance (neP inferInstance (neP inferInstance (neP inferInstance (neP inferInstance (neP inferInstance (neP inferInstance (neP inferInstance (neP inferInstance (neP inferInstance (neP inferInstance (neP inferInstance (neP inferInstance (neP inferInstance (neP inferInstance (neP inferInstance (neP inferInstance (neP inferInstance (neP inferInstance (neP inferInstance (neP inferInstance (neP inferInstance (neP inferInstance (neP inferInstance inferInstance))))))))))))))))))))))))))))))) set_exc_first_R
set_option maxHeartbeats 2000000 in
theorem set_exc_first_core : set_exc_first_R set_exc_first_c := ((by
  intro prog w A E nm q C N bs sn sub ab col dd k0 k1 k2 k3 k5 newId mN h tk bm B sa owner e t name v Q g d os SF hx hC hn hns hna hB hq
  have f3 := SF.slot.bind (.ref e)
  have hpass := SF.passes (.ref e)
  unfold setAttr callSpecial? specialOf
  repeat (any_goals (first | assumption | (with_reducible refine wpAny_loadPart_at hx ?_) | (with_reducible refine wpAny_typeLookup_exc hC hn SF.mro SF.slot.lookup ?_; rw [hns]) | wp_step))
  refine codeAny_call_builtin SF.slot.plain SF.entry (wpAny_check_sa SF hC hx rfl ?_)
  have hxs : e ≠ h.objs.size := Nat.ne_of_lt (Heap.lt_size hx)
  have hx₁ : (h.push { cls := .type "dict", data := .dict #[] }).get? e = some (excO C t none) := Heap.get?_push_of_some _ hx
  have hgd : ((h.push { cls := .type "dict", data := .dict #[] }).update e fun o => { cls := o.cls, dict := some h.objs.size, data := o.data, slots := o.slots }).get? h.objs.size
          = some { cls := .type "dict", data := .dict #[] } :=
        (Heap.get?_update_ne _ _ _ _ hxs.symm).trans (Heap.get?_push_at rfl rfl)
  have hnd : ((h.push { cls := .type "dict", data := .dict #[] }).update e fun o => { cls := o.cls, dict := some h.objs.size, data := o.data, slots := o.slots }).Ns h.objs.size (fun _ => none) :=
        ⟨_, #[], _, hgd, rfl, fun e he => absurd he (by simp), fun _ => rfl⟩
  unfold Builtin.«object.__setattr__»
  iterate 45 (first | rw [refuse_eq] | (rw [refuseLoop_ref, hpass]) | (with_reducible refine wpAny_loadPart_at hx ?_) | with_reducible refine wpAny_mroOf_exc hC ?_ | (with_reducible refine wpAny_typeLookup_exc hC hn SF.mro hB ?_; rw [hna]) | wp_step)
  refine wpAny_alloc' ?_
  refine wpAny_bind (wpAny_update' hx₁ ?_)
  refine wpAny_pure ?_
  show wpAny _ _ (storeInDict h.objs.size (.str name _) name v) _ _ _
  unfold storeInDict newKeyGuard
  refine wpAny_bind (wpAny_pure (wpAny_bind (wpAny_nsSet1 (Heap.Ns1.of_empty hnd) fun h' hn' hs => ?_)))
  obtain ⟨oD, esD, epD, hoD, hdD, hcD⟩ := hn'.count (Within.cons name v Within.nil)
  refine wpAny_bind (wpAny_lookBehind hoD (by rw [hdD]; exact pastItsLine_dict (Nat.le_trans hcD (by rw [List.length_cons, List.length_nil, sizeLine_eq]; omega))) ?_)
  refine wpAny_pure ?_
  refine wpAny_pure ?_
  refine wpAny_pure ?_
  refine hq h' _ ?_ hn' (fun b ob hbx hb => ?_)
  · exact (hs.2 e hxs).trans (Heap.get?_update_self _ hx₁ rfl)
  · exact (hs.2 b (Nat.ne_of_lt (Heap.lt_size hb))).trans ((Heap.get?_update_ne _ _ _ _ hbx).trans (Heap.get?_push_of_some _ hb))) : ∀ (prog : Program) (w : World) (A : Around) (E : Value → Shared → Prop) (nm : Str) (q : Str) (C : Addr) (N : Addr) (bs : List Value) (sn : List Str) (sub : List Value) (ab : Bool) (col : Option Bool) (dd : Option Addr) (k0 : Option Value) (k1 : Option Value) (k2 : Option Value) (k3 : Option Value) (k5 : Option Value) (newId : String) (mN : Str → Option Value) (h : Heap) (tk : Nat) (bm : List Value) (B : String) (sa : String) (owner : String) (e : Addr) (t : Addr) (name : Str) (v : Value) (Q : Unit → Shared → Prop), set_exc_first_P prog w A E nm q C N bs sn sub ab col dd k0 k1 k2 k3 k5 newId mN h tk bm B sa owner e t name v Q) _ _ _ _ _ _ _ _ _ _ _ _ _ _ _ _ _ _ _ _ _ _ _ _ _ _ _ _ _ _ _ _
theorem set_exc_first {h : Heap} {g : Array GenState} {d : Drawn} {tk : Nat} {os : OsState} {bm : List Value} {B sa owner : String} {e t : Addr} {name : Str} {v : Value} {Q : Unit → Shared → Prop} (SF : StoreFacts B bm sa owner) (hx : h.get? e = some (excO C t none))
    (hC : h.get? C = some (excClassObj nm q C N bs bm true sn sub ab col dd k0 k1 k2 k3 k5 newId)) (hn : h.Ns N mN) (hns : mN "__setattr__" = none) (hna : mN name = none)
    (hB : typeLookup (.type B) name = pure none)
    (hq : ∀ h' tk', h'.get? e = some (excO C t (some h.objs.size)) → h'.Ns1 h.objs.size (fun y => if y = name then some v else none) → (∀ b o, b ≠ e → h.get? b = some o → h'.get? b = some o) → Q () ⟨h', g, d, tk', os⟩) :
    wpAny (model prog w) A (setAttr (.ref e) name v) Q E ⟨h, g, d, tk, os⟩ :=
  (show set_exc_first_P prog w A E nm q C N bs sn sub ab col dd k0 k1 k2 k3 k5 newId mN h tk bm B sa owner e t name v Q from close1 (R := set_exc_first_R) _ set_exc_first_core (prog, w, A, E, nm, q, C, N, bs, sn, sub, ab, col, dd, k0, k1, k2, k3, k5, newId, mN, h, tk, bm, B, sa, owner, e, t, name, v, Q)) g d os SF hx hC hn hns hna hB hq

end
end

section
set_option maxRecDepth 100000
namespace MF
theorem owner_map : Manifest.owners.lookup (String.ofList ['p', 'a', 'm'].reverse) = some Manifest.sig_map := by kernel_rfl
theorem slot_map_next : Slot "map" "__next__" "map.__next__" :=
  .of (owner := "map") (n := "__next__") (by rw [typeLookup_type, builtinLookup_eq_fast]; kernel_rfl) (by decide +kernel) (by decide +kernel) (by decide +kernel)
    (by first | exact .inl (by decide +kernel) | exact .inr (by decide +kernel)) (by rw [isSubtype_type]; kernel_rfl)
theorem entry_map_next : entryFor table "map.__next__" = some Builtin.«map.__next__» := entryFor_of_tree (by kernel_rfl)
theorem args_map_next_1 (a : Value) : argsOk "map.__next__" ⟨[a], []⟩ := by
  unfold argsOk; rw [signature?_of (id := "map.__next__") (n := ['_', '_', 't', 'x', 'e', 'n', '_', '_']) (o := ['p', 'a', 'm']) (by kernel_rfl) owner_map]; kernel_rfl
theorem slot_map_iter : Slot "map" "__iter__" "map.__iter__" :=
  .of (owner := "map") (n := "__iter__") (by rw [typeLookup_type, builtinLookup_eq_fast]; kernel_rfl) (by decide +kernel) (by decide +kernel) (by decide +kernel)
    (by first | exact .inl (by decide +kernel) | exact .inr (by decide +kernel)) (by rw [isSubtype_type]; kernel_rfl)
theorem args_map_iter_1 (a : Value) : argsOk "map.__iter__" ⟨[a], []⟩ := by
  unfold argsOk; rw [signature?_of (id := "map.__iter__") (n := ['_', '_', 'r', 'e', 't', 'i', '_', '_']) (o := ['p', 'a', 'm']) (by kernel_rfl) owner_map]; kernel_rfl
theorem entry_map_iter : entryFor table "map.__iter__" = some Builtin.«dict_keyiterator.__iter__» :=
  entryFor_alias (id' := "dict_keyiterator.__iter__") (by kernel_rfl) (by first | rfl | decide +kernel | (unfold String.splitOn; simp +decide [String.splitOnAux])) (by decide +kernel) (by kernel_rfl)
theorem slot_map_init : Slot "map" "__init__" "object.__init__" :=
  .of (owner := "object") (n := "__init__") (by rw [typeLookup_type, builtinLookup_eq_fast]; kernel_rfl) (by decide +kernel) (by decide +kernel) (by decide +kernel)
    (by first | exact .inl (by decide +kernel) | exact .inr (by decide +kernel)) (by rw [isSubtype_type]; kernel_rfl)
theorem mro_map : mroOf (.type "map") = pure [.type "map", .type "object"] := by rw [mroOf_type]; kernel_rfl
theorem lookup_map_new : typeLookup (.type "map") "__new__" = pure (some (.builtin "map.__new__")) := by rw [typeLookup_type, builtinLookup_eq_fast]; kernel_rfl
theorem called_map : TypeCalled "map" "map.__new__" "object.__init__" :=
  ⟨by decide +kernel, by decide +kernel, ⟨_, _, mro_map⟩, madeBy_type mro_map lookup_map_new (by decide +kernel), by decide +kernel, by rw [isSubtype_type]; kernel_rfl, slot_map_init⟩
theorem typeCall_map_2 (a b : Value) : checkTypeCall "map" ⟨[a, b], []⟩ = pure () := by kernel_rfl
theorem newCall_map_2 (a b : Value) : checkBuiltinCall "map.__new__" ⟨[.type "map", a, b], []⟩ = pure () := by kernel_rfl
theorem entry_map_new : entryFor table "map.__new__" = some Builtin.«map.__new__» := entryFor_of_tree (by kernel_rfl)
theorem sub_map : isSubtype (.type "map") (.type "map") = pure true := by rw [isSubtype_type]; kernel_rfl
end MF

noncomputable abbrev mapH1 (h : Heap) (l : Addr) : Heap := h.push { cls := .type "list_iterator", data := .fields #[.ref l, .int 0 0] }
noncomputable abbrev mapH2 (h : Heap) (l : Addr) : Heap := (mapH1 h l).push { cls := .type "tuple", data := .seq #[.ref h.objs.size] }
noncomputable abbrev mapObj (TI : Addr) (f : Value) : Obj := { cls := .type "map", dict := none, data := .fields #[.ref TI, f], slots := #[] }
noncomputable abbrev mapH3 (h : Heap) (l : Addr) (f : Value) : Heap := (mapH2 h l).push (mapObj (mapH1 h l).objs.size f)

theorem meets_map_new (f : Value) (l : Addr) (xs : Array Value) :
    Meets (Builtin.«map.__new__» ⟨[.type "map", f, .ref l], []⟩) (fun _ R s => s.heap.IsList l xs ∧
      R (.ok (.ret (.ref (mapH2 s.heap l).objs.size))) { s with heap := mapH3 s.heap l f }) :=
  .of_wp fun prog w A R s h => by
    obtain ⟨hp, g, d, tk, os⟩ := s; obtain ⟨hl1, h⟩ := h
    have hsub := MF.sub_map
    have hL1 : Heap.IsList (Shared.heap ⟨hp, g, d, tk, os⟩) l xs := hl1
    wp_walk using wpAny_pyIter_list hL1
    exact ⟨_, rfl, h⟩
end

section
set_option maxRecDepth 100000
structure MapAt (h : Heap) (z TI it l : Addr) (i : Nat) (f : Value) (xs : Array Value) : Prop where
  hz : h.get? z = some (mapObj TI f)
  hTI : h.get? TI = some { cls := .type "tuple", data := .seq #[.ref it] }
  hit : h.IsListIter it l i
  hl : h.IsList l xs
  n1 : z ≠ it
  n2 : TI ≠ it
  n3 : l ≠ it
theorem MapAt.step {h h' : Heap} {z TI it l : Addr} {i : Nat} {f : Value} {xs : Array Value} (M : MapAt h z TI it l i f xs) (hit : h'.IsListIter it l (i + 1)) (k : Heap.ExtBut it h h') : MapAt h' z TI it l (i + 1) f xs :=
  ⟨k _ _ M.n1 M.hz, k _ _ M.n2 M.hTI, hit, M.hl.extBut k M.n3, M.n1, M.n2, M.n3⟩
section
variable {prog : Program} {w : World} {A : Around} {E : Value → Shared → Prop} {s : Shared}

theorem call_map {f : Value} {l : Addr} {xs : Array Value} {Q : Value → Shared → Prop} (hl : s.heap.IsList l xs)
    (h : ∀ z TI it h', MapAt h' z TI it l 0 f xs → s.heap.StaysIn h' → s.heap.objs.size ≤ it → Q (.ref z) { s with heap := h' }) :
    wpAny (model prog w) A (call (.type "map") [f, .ref l]) Q E s := by
  have hlt : l < s.heap.objs.size := by obtain ⟨o, e, _⟩ := hl; exact Heap.lt_size e
  refine callType_new MF.called_map (by decide) (MF.typeCall_map_2 _ _) (MF.newCall_map_2 _ _) (fun obj => F.args_object_init_3 obj _ _) MF.entry_map_new
    (meets_map_new f l xs) ⟨hl, ?_⟩
  have z1 : (mapH1 s.heap l).objs.size = s.heap.objs.size + 1 := Heap.size_push ..
  have z2 : (mapH2 s.heap l).objs.size = s.heap.objs.size + 2 := by rw [Heap.size_push, z1]
  have g3 : (mapH3 s.heap l f).get? (mapH2 s.heap l).objs.size = some _ := Heap.get?_push_size _ rfl
  have g2 : (mapH3 s.heap l f).get? (mapH1 s.heap l).objs.size = some _ := Heap.get?_push_of_some _ (Heap.get?_push_size _ rfl)
  have g1 : (mapH3 s.heap l f).get? s.heap.objs.size = some _ := Heap.get?_push_of_some _ (Heap.get?_push_of_some _ (Heap.get?_push_size _ rfl))
  have k : s.heap.StaysIn (mapH3 s.heap l f) := fun b o e => Heap.get?_push_of_some _ (Heap.get?_push_of_some _ (Heap.get?_push_of_some _ e))
  refine ⟨⟨_, g3, rfl⟩, h _ _ _ _ ⟨g3, g2, ⟨_, g1, rfl, rfl⟩, hl.at fun o e => k _ _ e, ?_, ?_, Nat.ne_of_lt hlt⟩ k (Nat.le_refl _)⟩
  · rw [z2]; exact Nat.ne_of_gt (by omega)
  · rw [z1]; exact Nat.ne_of_gt (by omega)

theorem map_next {z TI it l : Addr} {i : Nat} {f x : Value} {xs : Array Value} {Q : Value → Shared → Prop} (M : MapAt s.heap z TI it l i f xs) (hx : xs[i]? = some x)
    (hc : ∀ h', MapAt h' z TI it l (i + 1) f xs → Heap.SameBut it s.heap h' → wpAny (model prog w) A (call f [x]) (fun v s' => Q v s') E { s with heap := h' }) :
    wpAny (model prog w) A (Builtin.«map.__next__» ⟨[.ref z], []⟩) (fun fin s' => ∃ v, fin = .done (.ret v) ∧ Q v s') E s := by
  show wpAny _ _ (field (.ref z) 0 >>= _) _ _ _
  refine wpAny_bind (wpAny_field M.hz rfl (x := .ref TI) rfl ?_)
  refine wpAny_bind (wpAny_seqItems M.hTI rfl ?_)
  dsimp only
  refine wpAny_bind ?_
  simp only [List.forIn_toArray, List.forIn_cons, List.forIn_nil]
  refine wpAny_bind (wpAny_bind (wpAny_holding (wpAny_nextOf_list_item M.hit M.hl hx fun h' hit' hs' => wpAny_pure (wpAny_pure ?_))))
  have M' := M.step hit' hs'.extBut
  refine wpAny_bind (wpAny_field M'.hz rfl (x := f) rfl ?_)
  refine wpAny_bind (wpAny_holding ?_)
  show wpAny _ _ (call f [x]) _ _ _
  refine wpAny_mono (hc h' M' hs') (fun v s' hv => ?_) fun _ _ e => e
  exact wpAny_bind (wpAny_letGo (wpAny_pure ⟨v, rfl, hv⟩))

theorem map_end {z TI it l : Addr} {i : Nat} {f : Value} {xs : Array Value} {Q : Fin → Shared → Prop} (hh : A.handled = none) (M : MapAt s.heap z TI it l i f xs) (hx : xs[i]? = none)
    (hE : ∀ h' e, Heap.ExtBut it s.heap h' → (∃ o, h'.get? e = some o ∧ o.cls = .type "StopIteration") → E (.ref e) { s with heap := h' }) :
    wpAny (model prog w) A (Builtin.«map.__next__» ⟨[.ref z], []⟩) Q E s := by
  show wpAny _ _ (field (.ref z) 0 >>= _) _ _ _
  refine wpAny_bind (wpAny_field M.hz rfl (x := .ref TI) rfl ?_)
  refine wpAny_bind (wpAny_seqItems M.hTI rfl ?_)
  dsimp only
  refine wpAny_bind ?_
  simp only [List.forIn_toArray, List.forIn_cons, List.forIn_nil]
  exact wpAny_bind (wpAny_bind (wpAny_holding (wpAny_nextOf_list_end hh M.hit M.hl hx hE)))

theorem next_map_item {z TI it l : Addr} {i : Nat} {x : Str} {t : Tok} {n : Int} {xs : Array Value} {Q : Option Value → Shared → Prop} (M : MapAt s.heap z TI it l i (.type "int") xs) (hx : xs[i]? = some (.str x t))
    (hn : PySem.intText? x = some n) (hl : x.length ≤ 640) (hQ : ∀ h' t tk, MapAt h' z TI it l (i + 1) (.type "int") xs → Heap.SameBut it s.heap h' → Q (some (.int n t)) { s with heap := h', toks := tk }) :
    wpAny (model prog w) A (pyNext (.ref z)) Q E s := by
  have hT : s.TypeIs (.ref z) "map" := ⟨_, M.hz, rfl⟩
  unfold pyNext
  exact wpAny_bind (wpAny_attempt (wpAny_callSpecial?_slot (name := Str.ofString "__next__") hT MF.slot_map_next
    (wpAny_call_entry MF.slot_map_next hT MF.entry_map_next
      (map_next M hx fun h' M' hs => KIN.call_text hn hl (wpAny_pure (hQ _ _ _ M' hs))) (MF.args_map_next_1 _))))
theorem next_map_end {z TI it l : Addr} {i : Nat} {xs : Array Value} {Q : Option Value → Shared → Prop} (hh : A.handled = none) (M : MapAt s.heap z TI it l i (.type "int") xs) (hx : xs[i]? = none)
    (hQ : ∀ h', Heap.ExtBut it s.heap h' → Q none { s with heap := h' }) : wpAny (model prog w) A (pyNext (.ref z)) Q E s := by
  have hT : s.TypeIs (.ref z) "map" := ⟨_, M.hz, rfl⟩
  unfold pyNext
  refine wpAny_bind (wpAny_attempt (wpAny_callSpecial?_slot (name := Str.ofString "__next__") hT MF.slot_map_next
    (wpAny_call_entry MF.slot_map_next hT MF.entry_map_next (map_end hh M hx fun h' e hk he => ?_) (MF.args_map_next_1 _))))
  obtain ⟨o, ho, hc⟩ := he
  refine wpAny_bind (wpAny_isInstance (T := "StopIteration") (b := true) ⟨o, ho, hc⟩ isSubtype_stop ?_)
  exact wpAny_pure (hQ _ hk)
theorem iter_map {z TI it l : Addr} {i : Nat} {f : Value} {xs : Array Value} {Q : Value → Shared → Prop} (M : MapAt s.heap z TI it l i f xs) (h : Q (.ref z) s) : wpAny (model prog w) A (pyIter (.ref z)) Q E s := by
  have hT : s.TypeIs (.ref z) "map" := ⟨_, M.hz, rfl⟩
  refine wpAny_pyIter_slot hT MF.slot_map_iter (wpAny_call_entry MF.slot_map_iter hT MF.entry_map_iter ?_ (MF.args_map_iter_1 _))
  show wpAny _ _ (ret (.ref z)) _ _ s
  exact wpAny_pure ⟨_, rfl, "map", _, hT, MF.slot_map_next.lookup, h⟩

/-- two texts that read as numbers -/
theorem unpack_two {z TI it l : Addr} {x y : Str} {t u : Tok} {n k : Int} {Q : List Value → Shared → Prop} (hh : A.handled = none) (M : MapAt s.heap z TI it l 0 (.type "int") #[.str x t, .str y u])
    (hx : PySem.intText? x = some n) (hxl : x.length ≤ 640) (hy : PySem.intText? y = some k) (hyl : y.length ≤ 640)
    (hQ : ∀ h' t' u' tk, Heap.ExtBut it s.heap h' → Q [.int n t', .int k u'] { s with heap := h', toks := tk }) : wpAny (model prog w) A (unpackItems (.ref z) 2 none) Q E s := by
  have hT : s.TypeIs (.ref z) "map" := ⟨_, M.hz, rfl⟩
  unfold unpackItems
  refine wpAny_bind ?_
  unfold notIterableAtAll
  refine wpAny_bind (wpAny_specialOf hT MF.slot_map_iter.lookup ?_)
  refine wpAny_pure ?_
  simp only [Bool.false_eq_true, if_false]
  refine wpAny_bind (wpAny_holding (iter_map M ?_))
  refine wpAny_bind (wpAny_holding ?_)
  unfold draw
  refine wpAny_bind (next_map_item M rfl hx hxl fun h1 t1 k1 M1 s1 => ?_)
  dsimp only
  refine wpAny_bind (wpAny_holding ?_)
  unfold draw
  refine wpAny_bind (next_map_item M1 rfl hy hyl fun h2 t2 k2 M2 s2 => ?_)
  dsimp only
  refine wpAny_bind (wpAny_holding ?_)
  unfold draw
  refine wpAny_pure (wpAny_pure (wpAny_pure ?_))
  rw [if_neg (by simp)]
  refine wpAny_bind (wpAny_holding (next_map_end hh M2 rfl fun h3 e3 => ?_))
  simp only [Option.isSome_none, Bool.false_eq_true, if_false]
  exact wpAny_pure (hQ h3 _ _ _ fun b o hb e => e3 b o hb (s2.extBut b o hb (s1.extBut b o hb e)))

theorem unpack_few {z TI it l : Addr} {x : Str} {t : Tok} {n : Int} {Q : List Value → Shared → Prop} (hh : A.handled = none) (M : MapAt s.heap z TI it l 0 (.type "int") #[.str x t])
    (hx : PySem.intText? x = some n) (hxl : x.length ≤ 640)
    (hE : ∀ h₁ h' e tk, Heap.ExtBut it s.heap h₁ → Heap.NewExc h₁ h' e "ValueError" → E (.ref e) { s with heap := h', toks := tk }) : wpAny (model prog w) A (unpackItems (.ref z) 2 none) Q E s := by
  have hT : s.TypeIs (.ref z) "map" := ⟨_, M.hz, rfl⟩
  unfold unpackItems
  refine wpAny_bind ?_
  unfold notIterableAtAll
  refine wpAny_bind (wpAny_specialOf hT MF.slot_map_iter.lookup ?_)
  refine wpAny_pure ?_
  simp only [Bool.false_eq_true, if_false]
  refine wpAny_bind (wpAny_holding (iter_map M ?_))
  refine wpAny_bind (wpAny_holding ?_)
  unfold draw
  refine wpAny_bind (next_map_item M rfl hx hxl fun h1 t1 k1 M1 s1 => ?_)
  dsimp only
  refine wpAny_bind (wpAny_holding ?_)
  unfold draw
  refine wpAny_bind (next_map_end hh M1 rfl fun h2 e2 => ?_)
  dsimp only
  refine wpAny_pure (wpAny_pure ?_)
  rw [if_pos (by simp)]
  refine wpAny_bind (wpAny_rule ?_)
  refine wpAny_bind ?_
  have key : ∀ h' tk e, Heap.NewExc h2 h' e "ValueError" → E (.ref e) { s with heap := h', toks := tk } := fun h' tk e he => hE h2 h' e tk (fun b o hb q => e2 b o hb (s1.extBut b o hb q)) he
  exact wpAny_raiseErrorMade plainExc_ValueError hh key (by
    show (Str.ofString (toString "not enough values to unpack (expected " ++ toString (2 : Nat) ++ toString ", got " ++ toString (1 : Nat) ++ toString ")")).length ≤ sizeLine
    decide +kernel)
theorem unpack_many {z TI it l : Addr} {x y c : Str} {t u v : Tok} {n k j : Int} {Q : List Value → Shared → Prop} (hh : A.handled = none) (M : MapAt s.heap z TI it l 0 (.type "int") #[.str x t, .str y u, .str c v])
    (hx : PySem.intText? x = some n) (hxl : x.length ≤ 640) (hy : PySem.intText? y = some k) (hyl : y.length ≤ 640) (hc : PySem.intText? c = some j) (hcl : c.length ≤ 640)
    (hE : ∀ h₁ h' e tk, Heap.ExtBut it s.heap h₁ → Heap.NewExc h₁ h' e "ValueError" → E (.ref e) { s with heap := h', toks := tk }) : wpAny (model prog w) A (unpackItems (.ref z) 2 none) Q E s := by
  have hT : s.TypeIs (.ref z) "map" := ⟨_, M.hz, rfl⟩
  unfold unpackItems
  refine wpAny_bind ?_
  unfold notIterableAtAll
  refine wpAny_bind (wpAny_specialOf hT MF.slot_map_iter.lookup ?_)
  refine wpAny_pure ?_
  simp only [Bool.false_eq_true, if_false]
  refine wpAny_bind (wpAny_holding (iter_map M ?_))
  refine wpAny_bind (wpAny_holding ?_)
  unfold draw
  refine wpAny_bind (next_map_item M rfl hx hxl fun h1 t1 k1 M1 s1 => ?_)
  dsimp only
  refine wpAny_bind (wpAny_holding ?_)
  unfold draw
  refine wpAny_bind (next_map_item M1 rfl hy hyl fun h2 t2 k2 M2 s2 => ?_)
  dsimp only
  refine wpAny_bind (wpAny_holding ?_)
  unfold draw
  refine wpAny_pure (wpAny_pure (wpAny_pure ?_))
  rw [if_neg (by simp)]
  refine wpAny_bind (wpAny_holding (next_map_item M2 rfl hc hcl fun h3 t3 k3 M3 s3 => ?_))
  simp only [Option.isSome_some, if_true]
  refine wpAny_bind (wpAny_rule ?_)
  refine wpAny_bind ?_
  have key : ∀ h' tk e, Heap.NewExc h3 h' e "ValueError" → E (.ref e) { s with heap := h', toks := tk } := fun h' tk e he => hE h3 h' e tk (fun b o hb q => s3.extBut b o hb (s2.extBut b o hb (s1.extBut b o hb q))) he
  exact wpAny_raiseErrorMade plainExc_ValueError hh key (by decide +kernel)
end
end

section
theorem sepT5 : True := by
  w_top off
  trivial
set_option maxRecDepth 100000
theorem fill_me5 : PySem.Challenge.rw_mr0234_01 = PySem.Challenge.rw_mr0234_01 ∧ Mine.hd.heap_1 = Mine.hd.heap_1 := by
  k_fill
  exact ⟨rfl, rfl⟩

variable {prog : Program} {w : World} {s : Shared} {base g : Heap} {fr : List Env} {gd : Option (List Code)}
  {p : Program} {loose : List Str} {mean : ExcName → Option Value} {mg mb : Str → Option Value}

noncomputable def partS : List Str := ["", " ", "\t", "   "]
/-- the lead that a number draws -/
noncomputable def leadI (v : Int) : Str := partS.getD (v.fmod 4).toNat Str.empty ++ partS.getD ((v.fdiv 4).fmod 4).toNat Str.empty ++ partS.getD ((v.fdiv 16).fmod 4).toNat Str.empty
theorem ret_str {Q : Value → Shared → Prop} {a c : Str} {t : Tok} {h' : Heap} {tk : Nat} (hret : ∀ (t : Tok) (h' : Heap) (tk' : Nat), s.heap.StaysIn h' → Q (.str a t) { s with heap := h', toks := tk' })
    (k : s.heap.StaysIn h') (e : c = a) : Q (.str c t) { s with heap := h', toks := tk } := by
  subst e; exact hret _ _ _ k
set_option maxHeartbeats 4000000 in
set_option pp.deepTerms false in
set_option pp.deepTerms.threshold 6 in
set_option pp.maxSteps 1500 in
theorem lead_spec {Q E : Value → Shared → Prop} {v : Int} {t : Tok}
    (S : Std (AT 700 3000 fr gd) base fr g (Mine.hd.heap_1 w.params) p loose mean mg mb s.heap [])
    (hret : ∀ (t : Tok) (h' : Heap) (tk' : Nat), s.heap.StaysIn h' → Q (.str (leadI v) t) { s with heap := h', toks := tk' }) :
    wpAny (model prog w) (AT 700 3000 fr gd) (call (.ref 149) [.int v t]) Q E s := by
  k_with "table" => skip
  refine wpAny_call ?_
  k_dflt (refine' enterC ?kS ?k6 ?k7 ?k8 ?k9 ?kB ?_ ?c2 ?c3 ?c4 ?c5; (case kS => assumption); (case k6 => k_is); (case k7 => k_is); (case k8 => exact Nat.le_of_ble_eq_true rfl); (case k9 => exact BindsTo.of_eq rfl); (case c5 => decide); (case kB => exact locs rfl); (case c2 => exact rfl); (case c3 => exact rfl); (case c4 => exact rfl); k_whole; intro zzL' zzh' zzB' zzX' zzT' zzF' zzN'; (try dsimp only); (try k_fold))
  k_steps
  change Q (Value.str _ _) _
  exact ret_str (s := s) hret (S.keeps (by assumption) (by assumption) (List.forall_mem_nil _)) rfl


theorem assign_two {A : Around} {E : Value → Shared → Prop} {elts : List Expr} {k : Nat} {pos : Pos} {env : Env} {v : Value} {n : Nat} {Q : Unit → Shared → Prop} (hn : (assignEach elts env).length = n) (hs : (assignEach elts env).findIdx? (·.1) = none)
    (h : wpAny (model prog w) A (unpackItems v n none) (fun items s' => wpAny (model prog w) A (assignInOrder ((assignEach elts env).map (·.2)) items) Q E s') E s) :
    wpAny (model prog w) A (assign (.Tuple elts k pos) env v) Q E s := by
  show wpAny _ _ (do standAt pos; unpack v (assignEach elts env)) _ _ _
  refine wpAny_bind (wpAny_standAt ?_)
  unfold unpack
  rw [hn, hs]
  exact wpAny_bind (wpAny_holding h)
theorem stays_but {h h' : Heap} {it : Addr} (hi : h.objs.size ≤ it) {h₁ : Heap} (k : h.StaysIn h₁) (x : Heap.ExtBut it h₁ h') : h.StaysIn h' :=
  fun b o e => x b o (fun q => absurd (Heap.lt_size e) (Nat.not_lt.mpr (q ▸ hi))) (k b o e)
/-- a tuple of two numbers, new in h' -/
noncomputable def PairNew (h h' : Heap) (T : Addr) (a b : Int) : Prop := h.get? T = none ∧ ∃ t u e, h'.get? T = some (tupO [.int a t, .int b u] e)
end

section
open PySem PySem.W PyProof.Rows PySem.Calls PySem.Builtin.ObjectAttr
set_option maxRecDepth 100000
namespace FF
theorem slot_fn_setattr : Slot "function" "__setattr__" "object.__setattr__" :=
  .of (owner := "object") (n := "__setattr__") (by rw [typeLookup_type, builtinLookup_eq_fast]; kernel_rfl) (by decide +kernel) (by decide +kernel) (by decide +kernel)
    (by first | exact .inl (by decide +kernel) | exact .inr (by decide +kernel)) (by rw [isSubtype_type]; kernel_rfl)
theorem entry_osa : entryFor table "object.__setattr__" = some Builtin.«object.__setattr__» := entryFor_of_tree (by kernel_rfl)
theorem look_span : typeLookup (.type "function") (Str.ofString "span") = pure none := by rw [typeLookup_type, builtinLookup_eq_fast]; kernel_rfl
theorem look_search : typeLookup (.type "function") (Str.ofString "search") = pure none := by rw [typeLookup_type, builtinLookup_eq_fast]; kernel_rfl
theorem mro_fn : mroOf (.type "function") = pure [.type "function", .type "object"] := by rw [mroOf_type]; kernel_rfl
theorem own_fn : classOwn (.type "function") (Str.ofString "__setattr__") = pure none := by kernel_rfl
theorem slot_fn_ga : Slot "function" "__getattribute__" "object.__getattribute__" :=
  .of (owner := "object") (n := "__getattribute__") (by rw [typeLookup_type, builtinLookup_eq_fast]; kernel_rfl) (by decide +kernel) (by decide +kernel) (by decide +kernel)
    (by first | exact .inl (by decide +kernel) | exact .inr (by decide +kernel)) (by rw [isSubtype_type]; kernel_rfl)
theorem entry_oga : entryFor table "object.__getattribute__" = some Builtin.«object.__getattribute__» := entryFor_of_tree (by kernel_rfl)
theorem look_ga : typeLookup (.type "function") (Str.ofString "__getattr__") = pure none := by rw [typeLookup_type, builtinLookup_eq_fast]; kernel_rfl
theorem args_oga (a b : Value) : argsOk "object.__getattribute__" ⟨[a, b], []⟩ := by unfold argsOk; kernel_rfl
theorem can_oga : (Manifest.canonical "object.__getattribute__" != "object.__getattribute__") = false := by decide +kernel
end FF
section
variable {prog : Program} {w : World} {A : Around} {E : Value → Shared → Prop} {s : Shared}
theorem FF.passes (self : Value) : refuseLoop self "__setattr__" [.type "function", .type "object"] = pure () := by kernel_rfl
theorem set_fn {f : Addr} {fd : FuncData} {sl : Array (Option Value)} {name : Str} {v : Value} {Q : Unit → Shared → Prop} (ho : s.heap.get? f = some ⟨.type "function", none, .func fd, sl⟩)
    (hlk : typeLookup (.type "function") name = pure none)
    (h : ∀ h' tk d hsh t, h'.get? f = some ⟨.type "function", some d, .func fd, sl⟩ → h'.get? d = some (dictOf [⟨hsh, .str name t, v⟩] 1) → (∀ b o, b ≠ f → s.heap.get? b = some o → h'.get? b = some o) → d = s.heap.objs.size → Q () { s with heap := h', toks := tk }) :
    wpAny (model prog w) A (setAttr (.ref f) name v) Q E s := by
  have hT : s.TypeIs (.ref f) "function" := ⟨_, ho, rfl⟩
  have SF := PySem.F.store_object
  unfold setAttr
  refine wpAny_bind (wpAny_mkText ?_)
  refine wpAny_bind (wpAny_callSpecial?_slot (name := Str.ofString "__setattr__") (T := "function") (s := { s with toks := s.toks + 1 }) hT FF.slot_fn_setattr ?_)
  have ht1 : Shared.TypeIs { s with toks := s.toks + 1 } (.ref f) "function" := hT
  refine wpAny_call_entry FF.slot_fn_setattr ht1 FF.entry_osa ?_ (SF.args _ _ _)
  rw [osa_eq, refuse_eq]
  refine wpAny_bind (wpAny_bind (wpAny_typeOf ht1 ?_))
  rw [FF.mro_fn]
  refine wpAny_bind (wpAny_pure ?_)
  rw [FF.passes]
  refine wpAny_pure ?_
  refine wpAny_bind (wpAny_typeOf ht1 ?_)
  rw [hlk]
  refine wpAny_bind (wpAny_pure (wpAny_bind (wpAny_pure ?_)))
  dsimp only
  refine wpAny_bind (wpAny_of_eq (a := ()) rfl ?_)
  show wpAny _ _ (ownDictForStores (.ref f) >>= _) _ _ _
  refine wpAny_bind ?_
  show wpAny _ _ (instanceDict f true) _ _ _
  unfold instanceDict
  refine wpAny_bind (wpAny_loadPart ho ?_)
  dsimp only
  rw [if_neg (by decide +kernel)]
  refine wpAny_bind (wpAny_alloc ?_)
  have ho1 : (s.heap.push { cls := .type "dict", data := .dict #[] }).get? f = some ⟨.type "function", none, .func fd, sl⟩ := Heap.get?_push_of_some _ ho
  have hd1 : (s.heap.push { cls := .type "dict", data := .dict #[] }).get? s.heap.objs.size = some { cls := .type "dict", data := .dict #[] } := Heap.get?_push_size _ rfl
  have hne : f ≠ s.heap.objs.size := Nat.ne_of_lt (Heap.lt_size ho)
  refine wpAny_bind (wpAny_update ho1 ?_)
  have ho2 := Heap.get?_update_self (fun o : Obj => { o with dict := some s.heap.objs.size }) ho1 rfl
  have hd2 : ((s.heap.push { cls := .type "dict", data := .dict #[] }).update f (fun o : Obj => { o with dict := some s.heap.objs.size })).get? s.heap.objs.size = some { cls := .type "dict", data := .dict #[] } := (Heap.get?_update_other _ _ hne).trans hd1
  refine wpAny_of_eq (a := some s.heap.objs.size) rfl ?_
  dsimp only
  unfold storeInDict
  refine wpAny_bind (wpAny_of_eq (a := ()) rfl ?_)
  refine wpAny_bind ?_
  unfold nsSet
  refine wpAny_bind (wpAny_bind (wpAny_askSetting (wpAny_pure (wpAny_bind (wpAny_mkText (wpAny_bind (wpAny_loadPart hd2 ?_)))))))
  dsimp only
  rw [aRefKeyMayBeTheName_at, if_neg (by simp)]
  refine wpAny_updatePart hd2 ?_
  generalize hH : (if name.cps.isEmpty = true then 0 else reduceHash ((model prog w).w.params.strHash name.cps)) = hsh
  have ep : Obj.putName name hsh (.str name (s.toks + 1)) v ({ cls := .type "dict", data := .dict #[] } : Obj) = dictOf [⟨hsh, .str name (s.toks + 1), v⟩] 1 := putName_dict name hsh (.str name (s.toks + 1)) v [] 0
  have hd3 := Heap.get?_update_self (Obj.putName name hsh (.str name (s.toks + 1)) v) hd2 (by rw [ep]; rfl)
  rw [ep] at hd3
  refine wpAny_bind (wpAny_lookBehind hd3 (pastItsLine_dict (by simp [sizeLine_eq])) (wpAny_pure ⟨_, rfl, wpAny_pure ?_⟩))
  refine h _ _ _ _ _ ((Heap.get?_update_other _ _ (Ne.symm hne)).trans ho2) hd3 (fun b o hb e => ?_) rfl
  have hbd : s.heap.objs.size ≠ b := Nat.ne_of_gt (Heap.lt_size e)
  rw [Heap.get?_update_other _ _ hbd, Heap.get?_update_other _ _ (Ne.symm hb)]
  exact Heap.get?_push_of_some _ e

theorem getAttr_fn {f d : Addr} {fd : FuncData} {sl : Array (Option Value)} {name : Str} {v : Value} {hsh : Int} {t : Tok} {n : Nat} {Q : Value → Shared → Prop} (ho : s.heap.get? f = some ⟨.type "function", some d, .func fd, sl⟩)
    (hd : s.heap.get? d = some (dictOf [⟨hsh, .str name t, v⟩] n)) (hlk : typeLookup (.type "function") name = pure none) (hv : handedOut v = pure v)
    (h : Q v { s with toks := s.toks + 1 }) : wpAny (model prog w) A (getAttr (.ref f) name) Q E s := by
  have hT : s.TypeIs (.ref f) "function" := ⟨_, ho, rfl⟩
  have ht1 : Shared.TypeIs { s with toks := s.toks + 1 } (.ref f) "function" := hT
  unfold getAttr getAttrBy
  refine wpAny_bind (wpAny_mkText (wpAny_holding (wpAny_bind (wpAny_typeOf ht1 ?_))))
  rw [FF.slot_fn_ga.lookup]
  refine wpAny_bind (wpAny_pure ?_)
  dsimp only
  rw [if_neg (by decide +kernel)]
  unfold getAttrByItsOwn
  refine wpAny_bind (wpAny_of_eq (a := none) rfl ?_)
  refine wpAny_bind (wpAny_attempt (wpAny_holding ?_))
  show wpAny _ _ (boundAndCalled (.builtin "object.__getattribute__") (.ref f) (.str name s.toks)) _ _ _
  unfold boundAndCalled
  refine wpAny_bind (wpAny_of_eq (FF.slot_fn_ga.bind _) ?_)
  dsimp only
  refine wpAny_call_entry FF.slot_fn_ga ht1 FF.entry_oga ?_ (FF.args_oga _ _)
  unfold Builtin.«object.__getattribute__»
  refine wpAny_bind (wpAny_of_eq (a := (Value.ref f, [Value.str name s.toks])) rfl ?_)
  dsimp only
  refine wpAny_bind (wpAny_of_eq (a := name) rfl ?_)
  refine wpAny_bind (wpAny_typeOf ht1 ?_)
  refine wpAny_bind ?_
  unfold find
  rw [hlk]
  refine wpAny_bind (wpAny_pure (wpAny_bind (wpAny_of_eq (a := none) rfl (wpAny_bind (wpAny_of_eq (a := none) rfl ?_)))))
  dsimp only
  unfold ownThenClass
  refine wpAny_bind ?_
  show wpAny _ _ (Builtin.ObjectAttr.ownDict f >>= fun d => inDict name d) _ _ _
  refine wpAny_bind ?_
  unfold Builtin.ObjectAttr.ownDict
  refine wpAny_bind (wpAny_loadPart ho ?_)
  dsimp only
  unfold instanceDict
  refine wpAny_bind (wpAny_loadPart ho ?_)
  dsimp only
  refine wpAny_pure ?_
  show wpAny _ _ (nsGet d name) _ _ _
  unfold nsGet
  refine wpAny_bind (wpAny_loadPart hd ?_)
  have e : nsLook name (dictOf [⟨hsh, .str name t, v⟩] n) = pure (some v) := by
    rw [nsLook_eq]
    simp [nsLookByArray, Value.isStr]
  rw [e]
  refine wpAny_pure ?_
  dsimp only
  refine wpAny_bind (wpAny_rule (wpAny_pure ?_))
  dsimp only
  refine wpAny_pure ⟨_, rfl, ?_⟩
  rw [hv]
  exact wpAny_pure h
theorem getMethod_fn {f d : Addr} {fd : FuncData} {sl : Array (Option Value)} {name : Str} {v : Value} {hsh : Int} {t : Tok} {n : Nat} {pl : Sem Bool} {Q : Value × List Value → Shared → Prop} (ho : s.heap.get? f = some ⟨.type "function", some d, .func fd, sl⟩)
    (hd : s.heap.get? d = some (dictOf [⟨hsh, .str name t, v⟩] n)) (hlk : typeLookup (.type "function") name = pure none) (hv : handedOut v = pure v)
    (h : Q (v, []) { s with toks := s.toks + 1 }) : wpAny (model prog w) A (getMethod (.ref f) name pl) Q E s := by
  have hT : s.TypeIs (.ref f) "function" := ⟨_, ho, rfl⟩
  unfold getMethod
  refine wpAny_bind (wpAny_specialOf hT FF.slot_fn_ga.lookup ?_)
  dsimp only
  rw [if_neg (by rw [FF.can_oga]; decide)]
  refine wpAny_bind (wpAny_specialOf hT FF.look_ga ?_)
  rw [if_neg (by decide)]
  refine wpAny_bind (wpAny_specialOf hT hlk ?_)
  dsimp only
  exact wpAny_bind (getAttr_fn ho hd hlk hv (wpAny_pure h))

section
variable {h₀ : Heap} {L f : Addr} {m : Str → Option Value} {news : List (Addr × Obj)} {gl : Obj → List (Addr × Obj)} {fd : FuncData} {sl : Array (Option Value)} {name : Str} {v : Value}
theorem set_fnK {Q : Unit → Shared → Prop} (F : Fr h₀ L s.heap m) (N : News h₀ L s.heap news) (U : UpdF f ⟨.type "function", none, .func fd, sl⟩ news gl) (hlk : typeLookup (.type "function") name = pure none)
    (h : ∀ d hsh t h' tk, Fr h₀ L h' m → News h₀ L h' ((d, dictOf [⟨hsh, .str name t, v⟩] 1) :: gl ⟨.type "function", some d, .func fd, sl⟩) → (∀ p ∈ news, p.1 < d) → Q () { s with heap := h', toks := tk }) :
    wpAny (model prog w) A (setAttr (.ref f) name v) Q E s := by
  obtain ⟨own, rest, rfl, hg, h1, h2⟩ := U.split
  have hmem := N (f, _) (List.mem_append_right _ (.head _))
  refine set_fn hmem.1 hlk fun h' tk d hsh t e1 e2 k ed => ?_
  have hlt : ∀ p ∈ own ++ (f, _) :: rest, p.1 < d := fun p hp => ed ▸ Heap.lt_size (N p hp).1
  have hLf : L ≠ f := Ne.symm hmem.2.1
  have hLlt : L < s.heap.objs.size := F.ns.lt
  have old : ∀ b o, h₀.get? b = some o → h'.get? b = some o := fun b o e => k b o (fun q => by rw [q, hmem.2.2] at e; cases e) (F.keep b o e)
  refine h d hsh t h' tk ⟨?_, old, F.above⟩ ?_ hlt
  · obtain ⟨oL, es, ep, hL, r⟩ := F.ns
    exact ⟨oL, es, ep, k _ _ hLf hL, r⟩
  · rw [hg]
    intro q hq
    rcases List.mem_cons.mp hq with rfl | hq
    · refine ⟨e2, ed ▸ Nat.ne_of_gt hLlt, ?_⟩
      cases z : h₀.get? d with
      | none => rfl
      | some o => exact absurd (Heap.lt_size (F.keep _ _ z)) (by rw [ed]; exact Nat.lt_irrefl _)
    · rcases List.mem_append.mp hq with hq | hq
      · have := N q (List.mem_append_left _ hq)
        exact ⟨k _ _ (h1 q hq) this.1, this.2⟩
      · rcases List.mem_cons.mp hq with rfl | hq
        · exact ⟨e1, hmem.2⟩
        · have := N q (List.mem_append_right _ (.tail _ hq))
          exact ⟨k _ _ (h2 q hq) this.1, this.2⟩
end
end
end

section
set_option maxRecDepth 100000
theorem fill_me6 : PySem.Challenge.rw_mr0234_01 = PySem.Challenge.rw_mr0234_01 ∧ Mine.hd.heap_1 = Mine.hd.heap_1 := by
  k_fill
  exact ⟨rfl, rfl⟩
theorem enterCC {prog : Program} {w : World} {A : Around} {s : Shared} {base g : Heap} {fr : List Env} {K : Frag} {led : List (Addr × Obj)}
  {p : Program} {loose : List Str} {mean : ExcName → Option Value} {mg mb : Str → Option Value} {R : Result → Shared → Prop} {name qual : Str} {params : Arguments} {body : List Stmt} {scope : Scope} {dV kV doc pm cdv ct oc : Value} {an od : Option Addr} {osl : Array (Option Value)} {f : Addr} {args : Args} {binds : List (Str × Value)}
    (S : Std A base fr g K p loose mean mg mb s.heap led)
    (ho : K.lookup f = some ⟨oc, od, .func (fnOf name qual params body scope dV kV doc pm an cdv ct), osl⟩) (hcd : codeIn K cdv qual = true) (hroom : A.depth < recursionLimit)
    (hbind : BindsTo s (fnOf name qual params body scope dV kV doc pm an cdv ct) args binds) (hkind : (binds.all fun y => scope.names.lookup y.1 == some .local || scope.names.lookup y.1 == some .cell) = true)
    (hnd : ((cellsFrom 0 scope.names []).map (·.1)).Nodup)
    (h : ∀ L' h₁ tk cells, Below A base fr g → K.In g → Top p loose mean mg mb g → Fr g L' h₁ (bindL (envOfC qual scope L' f cdv).kindOf binds fun _ => none) → News g L' h₁ (cells ++ led) →
      CellsAre (bindC (envOfC qual scope L' f cdv).kindOf binds fun _ => none) (cellsFrom (L' + 1) scope.names []) cells → (∀ p ∈ led, p.1 < L') →
      wpAny (model prog w) (A.deeper (envOfC qual scope L' f cdv)) (execs body (envOfC qual scope L' f cdv))
        (fun fl s' => R (.ok (.ret (match fl with | .ret v => v | _ => .none))) s')
        (fun e s' => wpAny (model prog w) (A.deeper (envOfC qual scope L' f cdv)) (leaving (envOfC qual scope L' f cdv) e) (fun _ s'' => R (.error e) s'') (fun e' s'' => R (.error e') s'') s')
        { s with heap := h₁, toks := tk })
    (hco : scope.isCoroutine = false) (hgen : scope.isGenerator = false) (hk : scope.kind = .function) : codeAny (model prog w) A (.call (.ref f) args) R s := by
  have X : K.In s.heap := fun a o e => S.sub _ _ (S.X a o e)
  refine codeAny_call_function hroom (X _ _ ho) rfl hco hgen rfl (codeRec_of X hcd) (hbind _ _ _ _ ?_)
  refine wpAny_newFunctionEnv_cells hk (kindsX hkind _) fun env' he s' x => ?_
  subst he
  refine ⟨(S.T.nolimit.keeps S.sub).keeps x.toInCall.keep, codeAny_func ?_⟩
  obtain ⟨h₁, tk, rfl, _⟩ := x.done
  have hk₁ := x.toInCall.keep
  obtain ⟨cells, NC, Y⟩ := Cl.news (h₀ := s.heap) (Nat.le_refl _) fun n c hm => ⟨x.cell n c (lookup_of_mem_nodup (cellsFrom_names scope.names 0 (s.heap.objs.size + 1) [] [] rfl ▸ hnd) hm), x.above n c hm⟩
  refine h s.heap.objs.size h₁ tk cells S.B S.X S.T ⟨x.toInCall.ns, fun b o e => hk₁ b o (S.sub b o e), Nat.le_of_eq S.size⟩ (fun q hq => ?_) Y fun q hq => Heap.lt_size (S.N q hq).1
  rcases List.mem_append.mp hq with hq | hq
  · refine ⟨(NC q hq).1, (NC q hq).2.1, ?_⟩
    cases z : g.get? q.1 with
    | none => rfl
    | some o => have := S.sub _ _ z; rw [(NC q hq).2.2] at this; cases this
  · exact ⟨hk₁ _ _ (S.N q hq).1, Nat.ne_of_lt (Heap.lt_size (S.N q hq).1), (S.N q hq).2⟩
end

section
theorem sepHit : True := by
  w_top off
  trivial
local macro_rules | `(tactic| walk_at "M pad") => `(tactic| skip)
set_option maxRecDepth 100000
/-- all but the table of _law_hit stays -/
noncomputable def ButT (h h' : Heap) : Prop := ∀ b o, b ≠ 151 → h.get? b = some o → h'.get? b = some o
theorem ButT.of {h h' : Heap} (k : h.StaysIn h') : ButT h h' := fun b o _ e => k b o e
theorem ButT.trans {h₁ h₂ h₃ : Heap} (x : ButT h₁ h₂) (y : ButT h₂ h₃) : ButT h₁ h₃ := fun b o n e => y b o n (x b o n e)
/-- a function object that gives back the pair of two numbers -/
noncomputable def SpanFn (w : World) (h : Heap) (fs : Addr) (a b : Int) : Prop :=
  ∀ (prog : Program) (A : Around) (s : Shared) (Q E : Value → Shared → Prop), ButT h s.heap → s.heap.NoLimit → A.depth < recursionLimit →
    (∀ T h' tk', s.heap.StaysIn h' → PairNew s.heap h' T a b → Q (.ref T) { s with heap := h', toks := tk' }) → wpAny (model prog w) A (call (.ref fs) []) Q E s
theorem SpanFn.keeps {w : World} {h h' : Heap} {fs : Addr} {a b : Int} (S : SpanFn w h fs a b) (k : ButT h h') : SpanFn w h' fs a b :=
  fun prog A s Q E k' => S prog A s Q E (k.trans k')
theorem codeRec_but {h h' : Heap} {a : Addr} {q : Str} (hr : h.CodeRec (.ref a) q) (n : a ≠ 151) (k : ButT h h') : h'.CodeRec (.ref a) q := by
  obtain ⟨c, oc, vs, t, e, ho, hd, hv⟩ := hr
  cases e
  exact ⟨a, oc, vs, t, rfl, k _ _ n ho, hd, hv⟩
theorem lam_pair {w : World} {h : Heap} {fs c1 c2 c' : Addr} {a b : Int} {t u : Tok} {name qual x1 x2 : Str} {params : Arguments} {scope : Scope} {cl : List (Str × Addr)} {pm ctv : Value} {p1 p2 pos : Pos} {k : Nat} {o1 o2 : Obj}
    (ho : h.get? fs = some (kla_obj name qual params (.Tuple [.Name x1 p1, .Name x2 p2] k pos) scope cl pm c' ctv)) (hcd : h.CodeRec (.ref c') qual)
    (e1 : cl.lookup x1 = some c1) (e2 : cl.lookup x2 = some c2)
    (h1 : h.get? c1 = some o1) (d1 : o1.data = .cell (some (.int a t))) (h2 : h.get? c2 = some o2) (d2 : o2.data = .cell (some (.int b u)))
    (hb : bindArgs (kla_fn name qual params (.Tuple [.Name x1 p1, .Name x2 p2] k pos) scope cl pm (.ref c') ctv) ⟨[], []⟩ = pure [])
    (hco : scope.isCoroutine = false) (hgen : scope.isGenerator = false) (hk : scope.kind = .function) (hcell : ∀ x ∈ scope.names, x.2 ≠ .cell)
    (k1 : ∀ L, (envX qual scope L fs (.ref c') cl).kindOf x1 = some .free) (k2 : ∀ L, (envX qual scope L fs (.ref c') cl).kindOf x2 = some .free)
    (b1 : (x1 == ("__debug__" : Str)) = false) (b2 : (x2 == ("__debug__" : Str)) = false) (n1' : (x1 == ("__classdict__" : Str)) = false) (n2' : (x2 == ("__classdict__" : Str)) = false) (n1 : fs ≠ 151) (m1 : c1 ≠ 151) (m2 : c2 ≠ 151) (mc : c' ≠ 151) : SpanFn w h fs a b := by
  intro prog A s Q E ks hlim hroom hret
  refine wpAny_call (kla_callFunE hroom (ks _ _ n1 ho) rfl hco hgen rfl (codeRec_but hcd mc ks) ?_)
  rw [hb]
  refine wpAny_pure (wpAny_newFunctionEnv hcell (fun x hx => nomatch hx) (fun h₁ hns hsb => ⟨hlim.fresh _ hsb, ?_⟩) hk)
  show codeAny _ _ (.expr _ (envX qual scope s.heap.objs.size fs (.ref c') cl)) _ _
  have hk₁ : ∀ b o, s.heap.get? b = some o → h₁.get? b = some o := fun b o e => hsb.extBut b o (Nat.ne_of_lt (Heap.lt_size e)) (Heap.get?_push_of_some _ e)
  refine kla_codeExpr (Tuple_ ?_)
  refine spliced_more (wpAny_Name (wpAny_loadName_free hk (k1 _) e1 ⟨o1, hk₁ _ _ (ks _ _ m1 h1), d1⟩ ?_ n1') b1)
  refine spliced_more (wpAny_Name (wpAny_loadName_free hk (k2 _) e2 ⟨o2, hk₁ _ _ (ks _ _ m2 h2), d2⟩ ?_ n2') b2)
  refine spliced_none ?_
  refine wpAny_newObj_type ?_ (by show (2 : Nat) ≤ sizeLine; rw [sizeLine_eq]; omega)
  refine hret _ _ _ (fun b o e => Heap.get?_push_of_some _ (hk₁ b o e)) ⟨?_, _, _, _, Heap.get?_push_size _ rfl⟩
  exact Heap.get?_none_of_le (by have := hsb.1; rw [Heap.size_push] at this; rw [this]; omega)
theorem fill_me7 : PySem.Challenge.rw_mr0234_01 = PySem.Challenge.rw_mr0234_01 ∧ Mine.hd.heap_1 = Mine.hd.heap_1 := by
  k_fill
  exact ⟨rfl, rfl⟩

theorem Std.keepsBut {A : Around} {K : Frag} {base g h h' : Heap} {fr : List Env} {p : Program} {loose : List Str} {mean : ExcName → Option Value} {mg mb : Str → Option Value} {L x : Addr} {m : Str → Option Value} {o : Obj} (S : Std A base fr g K p loose mean mg mb h [(x, o)]) (F : Fr g L h' m) :
    ∀ b o, b ≠ x → h.get? b = some o → h'.get? b = some o := fun b o' hb e => by
  rcases S.sup b o' e with q | q
  · exact F.keep b o' q
  · rw [(Prod.mk.inj (List.mem_singleton.mp q)).1] at hb; exact absurd rfl hb
theorem Std.freshN {A : Around} {K : Frag} {base g h h' : Heap} {fr : List Env} {p : Program} {loose : List Str} {mean : ExcName → Option Value} {mg mb : Str → Option Value} {L a : Addr} {o : Obj} {led news : List (Addr × Obj)} (S : Std A base fr g K p loose mean mg mb h led) (N : News g L h' news)
    (hm : (a, o) ∈ news) (hne : ∀ q ∈ led, q.1 ≠ a) : h.get? a = none := by
  cases q : h.get? a with
  | none => rfl
  | some o' =>
    rcases S.sup a o' q with z | z
    · rw [(N _ hm).2.2] at z; cases z
    · exact absurd rfl (hne _ z)
theorem Std.freshC {A : Around} {K : Frag} {base g h h' : Heap} {fr : List Env} {p : Program} {loose : List Str} {mean : ExcName → Option Value} {mg mb : Str → Option Value} {L : Addr} {o : Obj} {news : List (Addr × Obj)} (S : Std A base fr g K p loose mean mg mb h [(151, o)]) (N : News g L h' news) :
    ∀ q ∈ news, q.1 ≠ 151 → h'.get? q.1 = some q.2 ∧ h.get? q.1 = none := fun q hq hn => ⟨(N q hq).1, S.freshN N (a := q.1) (o := q.2) hq fun z hz => by rw [List.mem_singleton.mp hz]; exact Ne.symm hn⟩
/-- what _law_hit gives back -/
noncomputable def HitAt (w : World) (h : Heap) (f : Addr) (a b : Int) : Prop :=
  ∃ d fs fd sl hsh t n, h.get? f = some ⟨.type "function", some d, .func fd, sl⟩ ∧ h.get? d = some (dictOf [⟨hsh, .str (Str.ofString "span") t, .ref fs⟩] n) ∧ FnAt fs h ∧ SpanFn w h fs a b
/-- the same, told of the objects of a chunk -/
noncomputable def HitC (w : World) (ch : List (Addr × Obj)) (f : Addr) (a b : Int) : Prop := ∀ h : Heap, (∀ q ∈ ch, q.1 ≠ 151 → h.get? q.1 = some q.2) → HitAt w h f a b
theorem HitC.mono {w : World} {ch ch' : List (Addr × Obj)} {f : Addr} {a b : Int} (H : HitC w ch f a b) (k : ∀ q ∈ ch, q ∈ ch') : HitC w ch' f a b := fun h x => H h fun q hq => x q (k q hq)
/-- a code object of one of the two lambdas -/
noncomputable def CodeO (o : Obj) : Prop := ∃ vs t, o.data = .fields vs ∧ vs[1]? = some (.str (Str.ofString "_law_hit.<locals>.<lambda>") t)
theorem CodeO.rec' {h : Heap} {a : Addr} {o : Obj} (c : CodeO o) (e : h.get? a = some o) : h.CodeRec (.ref a) (Str.ofString "_law_hit.<locals>.<lambda>") :=
  let ⟨vs, t, d, v⟩ := c; ⟨a, o, vs, t, rfl, e, d, v⟩
theorem codeRec_via {h h' : Heap} {a : Addr} {o : Obj} {q : Str} (hc : h'.CodeRec (.ref a) q) (hg : h'.get? a = some o) (hh : h.get? a = some o) : h.CodeRec (.ref a) q := by
  obtain ⟨c, o', vs, t, e', ho, d, v⟩ := hc
  cases e'
  rw [hg] at ho
  cases ho
  exact ⟨a, _, vs, t, rfl, hh, d, v⟩
noncomputable abbrev tab2 (a1 a2 : Addr) : Array Value := #[rawInt 103, rawInt 10, .ref a1] ++ #[rawInt 104, rawInt 15, .ref a2]

variable {prog : Program} {w : World} {s : Shared} {base g : Heap} {fr : List Env} {gd : Option (List Code)}
  {p : Program} {loose : List Str} {mean : ExcName → Option Value} {mg mb : Str → Option Value}
set_option maxHeartbeats 4000000 in
set_option pp.deepTerms false in
set_option pp.deepTerms.threshold 6 in
set_option pp.maxSteps 1500 in
theorem hit_first {Q E : Value → Shared → Prop} {a b : Int} {t u : Tok}
    (S : Std (AT 700 3000 fr gd) base fr g (Mine.hd.heap_1 w.params) p loose mean mg mb s.heap [(151, tabObj #[])])
    (C : CodeHd g 155 151)
    (hret : ∀ (f a1 a2 : Addr) (ch : List (Addr × Obj)) (h' : Heap) (tk' : Nat), ButT s.heap h' → h'.get? 151 = some (tabObj (tab2 a1 a2)) → h'.CodeRec (.ref a1) (Str.ofString "_law_hit.<locals>.<lambda>") → h'.CodeRec (.ref a2) (Str.ofString "_law_hit.<locals>.<lambda>") →
      s.heap.get? a1 = none → s.heap.get? a2 = none → (∀ q ∈ ch, q.1 ≠ 151 → h'.get? q.1 = some q.2 ∧ s.heap.get? q.1 = none) → HitC w ch f a b → s.heap.get? f = none → Q (.ref f) { s with heap := h', toks := tk' }) :
    wpAny (model prog w) (AT 700 3000 fr gd) (call (.ref 156) [.int a t, .int b u]) Q E s := by
  refine wpAny_call ?_
  k_dflt (refine' enterCC ?kS ?k6 ?k7 ?k8 ?k9 ?kB ?kD ?_ ?c2 ?c3 ?c4; (case kS => assumption); (case k6 => k_is); (case k7 => k_is); (case k8 => exact Nat.le_of_ble_eq_true rfl); (case k9 => exact BindsTo.of_eq rfl); (case kB => exact rfl); (case kD => decide +kernel); (case c2 => exact rfl); (case c3 => exact rfl); (case c4 => exact rfl); k_whole; intro zzL' zzh' zztk' zzcells' zzB' zzX' zzT' zzF' zzN' zzY' zzl1; (try k_lt zzl1); k_cells zzY'; (try simp only [List.cons_append, List.nil_append] at zzN'); (try dsimp only); (try k_fold))
  repeat' (first | (k_unfold; (try dsimp only)) | (k_end; wrow_close) | (first | ((with_reducible show wpAny _ _ (setAttr (Value.ref _) _ _) _ _ _); first | with_reducible (k_here; k_dflt (refine' set_fnK ?F ?N ?U ?l ?_; (case F => k_asm); (case N => k_asm); (case U => k_updF); (case l => first | exact FF.look_span | exact FF.look_search); k_whole); intro zzd' zzhsh' zzt' zzh' zztk' zzF' zzN' zzl1; (try dsimp only at zzN'); (try k_lt zzl1); (try k_sweep))) | walk1) | (dsimp only; (first | ((with_reducible show wpAny _ _ (setAttr (Value.ref _) _ _) _ _ _); first | with_reducible (k_here; k_dflt (refine' set_fnK ?F ?N ?U ?l ?_; (case F => k_asm); (case N => k_asm); (case U => k_updF); (case l => first | exact FF.look_span | exact FF.look_search); k_whole); intro zzd' zzhsh' zzt' zzh' zztk' zzF' zzN' zzl1; (try dsimp only at zzN'); (try k_lt zzl1); (try k_sweep))) | walk1)) | (leave1; walk_say "STEP leave1"; try dsimp only) | fail "no step")
  change Q (Value.ref _) _
  rename News _ _ _ _ => N9
  rename Fr _ _ _ _ => F9
  refine' hret _ _ _ _ _ _ ?ka ?kb ?kc ?kc2 ?kf ?kf2 (S.freshC N9) ?kd ?ke
  case kb => exact N9.get (by k_mem)
  case kd =>
    intro h hh
    refine ⟨_, _, _, _, _, _, _, hh (_, _) (by k_mem) (by k_ne), hh (_, _) (.head _) (by k_ne), ⟨_, _, _, _, hh (_, _) (by k_mem) (by k_ne)⟩, ?_⟩
    exact lam_pair (hh (_, _) (by k_mem) (by k_ne)) (codeRec_via (codeRec_news N9 (by k_mem) (by assumption) (by assumption)) (N9.get (by k_mem)) (hh (_, _) (by k_mem) (by k_ne))) (by exact rfl) (by exact rfl) (hh (_, _) (by k_mem) (by k_ne)) (by k_dflt k_asm) (hh (_, _) (by k_mem) (by k_ne)) (by k_dflt k_asm) rfl rfl rfl rfl (by decide) (fun _ => rfl) (fun _ => rfl) (by decide) (by decide) (by decide) (by decide) (by k_ne) (by k_ne) (by k_ne) (by k_ne)
  case kc => exact codeRec_news N9 (by k_mem) (by assumption) (by assumption)
  case kc2 => exact codeRec_news N9 (by k_mem) (by assumption) (by assumption)
  case kf => exact S.freshN N9 (by k_mem) (by intro q hq; rw [List.mem_singleton.mp hq]; k_ne)
  case kf2 => exact S.freshN N9 (by k_mem) (by intro q hq; rw [List.mem_singleton.mp hq]; k_ne)
  case ka => exact S.keepsBut F9
  case ke => exact S.freshN N9 (by k_mem) (by intro q hq; rw [List.mem_singleton.mp hq]; k_ne)

set_option maxHeartbeats 4000000 in
set_option pp.deepTerms false in
set_option pp.deepTerms.threshold 6 in
set_option pp.maxSteps 1500 in
theorem hit_again {Q E : Value → Shared → Prop} {a b : Int} {t u : Tok} {a1 a2 : Addr}
    (S : Std (AT 700 3000 fr gd) base fr g (Mine.hd.heap_1 w.params) p loose mean mg mb s.heap [(151, tabObj (tab2 a1 a2))])
    (C : CodeHd g 155 151) {o2 : Obj} (h2 : CodeO o2) (hn2 : a2 ≠ 151)
    (hret : ∀ (f : Addr) (ch : List (Addr × Obj)) (h' : Heap) (tk' : Nat), s.heap.StaysIn h' → (∀ q ∈ ch, q.1 ≠ 151 → h'.get? q.1 = some q.2 ∧ s.heap.get? q.1 = none) → HitC w ((a2, o2) :: ch) f a b → s.heap.get? f = none → Q (.ref f) { s with heap := h', toks := tk' }) :
    wpAny (model prog w) (AT 700 3000 fr gd) (call (.ref 156) [.int a t, .int b u]) Q E s := by
  refine wpAny_call ?_
  k_dflt (refine' enterCC ?kS ?k6 ?k7 ?k8 ?k9 ?kB ?kD ?_ ?c2 ?c3 ?c4; (case kS => assumption); (case k6 => k_is); (case k7 => k_is); (case k8 => exact Nat.le_of_ble_eq_true rfl); (case k9 => exact BindsTo.of_eq rfl); (case kB => exact rfl); (case kD => decide +kernel); (case c2 => exact rfl); (case c3 => exact rfl); (case c4 => exact rfl); k_whole; intro zzL' zzh' zztk' zzcells' zzB' zzX' zzT' zzF' zzN' zzY' zzl1; (try k_lt zzl1); k_cells zzY'; (try simp only [List.cons_append, List.nil_append] at zzN'); (try dsimp only); (try k_fold))
  repeat' (first | (k_unfold; (try dsimp only)) | (k_end; wrow_close) | (first | ((with_reducible show wpAny _ _ (setAttr (Value.ref _) _ _) _ _ _); first | with_reducible (k_here; k_dflt (refine' set_fnK ?F ?N ?U ?l ?_; (case F => k_asm); (case N => k_asm); (case U => k_updF); (case l => first | exact FF.look_span | exact FF.look_search); k_whole); intro zzd' zzhsh' zzt' zzh' zztk' zzF' zzN' zzl1; (try dsimp only at zzN'); (try k_lt zzl1); (try k_sweep))) | walk1) | (dsimp only; (first | ((with_reducible show wpAny _ _ (setAttr (Value.ref _) _ _) _ _ _); first | with_reducible (k_here; k_dflt (refine' set_fnK ?F ?N ?U ?l ?_; (case F => k_asm); (case N => k_asm); (case U => k_updF); (case l => first | exact FF.look_span | exact FF.look_search); k_whole); intro zzd' zzhsh' zzt' zzh' zztk' zzF' zzN' zzl1; (try dsimp only at zzN'); (try k_lt zzl1); (try k_sweep))) | walk1)) | (leave1; walk_say "STEP leave1"; try dsimp only) | fail "no step")
  change Q (Value.ref _) _
  rename News _ _ _ _ => N9
  rename Fr _ _ _ _ => F9
  refine' hret _ _ _ _ ?ka (S.freshC N9) ?kd ?ke
  case kd =>
    intro h hh
    refine ⟨_, _, _, _, _, _, _, hh (_, _) (.tail _ (by k_mem)) (by k_ne), hh (_, _) (.tail _ (.head _)) (by k_ne), ⟨_, _, _, _, hh (_, _) (.tail _ (by k_mem)) (by k_ne)⟩, ?_⟩
    exact lam_pair (hh (_, _) (.tail _ (by k_mem)) (by k_ne)) (h2.rec' (hh (_, _) (.head _) hn2)) (by exact rfl) (by exact rfl) (hh (_, _) (.tail _ (by k_mem)) (by k_ne)) (by k_dflt k_asm) (hh (_, _) (.tail _ (by k_mem)) (by k_ne)) (by k_dflt k_asm) rfl rfl rfl rfl (by decide) (fun _ => rfl) (fun _ => rfl) (by decide) (by decide) (by decide) (by decide) (by k_ne) (by k_ne) (by k_ne) hn2
  case ka => exact S.keeps F9 N9 (fun q hq => by rw [List.mem_singleton.mp hq]; k_mem)
  case ke => exact S.freshN N9 (by k_mem) (by intro q hq; rw [List.mem_singleton.mp hq]; k_ne)
end

section
theorem sepNag2 : True := by
  w_top off
  trivial
set_option maxRecDepth 100000
theorem fill_me8 : PySem.Challenge.rw_mr0234_01 = PySem.Challenge.rw_mr0234_01 ∧ Mine.hd.heap_1 = Mine.hd.heap_1 := by
  k_fill
  exact ⟨rfl, rfl⟩
theorem ns_some_of {K : Frag} {h : Heap} {N : Addr} {mg : Str → Option Value} {n : Str} {v : Value} (X : K.In h) (G : h.Ns N mg) (e : nsIn K N n = some (some v)) : mg n = some v := by
  obtain ⟨o, es, ep, ho, hd, _, hf⟩ := G
  unfold nsIn at e
  split at e
  · rename_i c d es' n' sl q
    have := X _ _ q
    rw [ho] at this
    cases this
    cases hd
    split at e
    · rename_i he
      cases e
      rw [← hf]
      unfold nsFind findBy
      rw [← Array.find?_toList, he]
      rfl
    · split at e <;> cases e
  · cases e
noncomputable def excMro : List Value := [.type "Exception", .type "BaseException", .type "object"]
/-- the class NannyNag as it stands in the top -/
structure NagCls (h : Heap) : Prop where
  cls : ∃ nm q bs sn sub ab col dd k0 k1 k2 k3 k5, h.get? 73 = some (excClassObj nm q 73 72 bs excMro true sn sub ab col dd k0 k1 k2 k3 k5 "Exception.__new__")
  ns : h.Ns 72 (h.nsMap 72)
  init : h.nsMap 72 "__init__" = some (.ref 49)
  set : h.nsMap 72 "__setattr__" = none
  ln : h.nsMap 72 "lineno" = none
  ms : h.nsMap 72 "msg" = none
  li : h.nsMap 72 "line" = none
theorem nagCls_mk {K : Frag} {h : Heap} {nm q : Str} {bs : List Value} {sn : List Str} {sub : List Value} {ab : Bool} {col : Option Bool} {dd : Option Addr} {k0 k1 k2 k3 k5 : Option Value} (X : K.In h) (ok : nsOkIn K 72 = true) (e : K.lookup 73 = some (excClassObj nm q 73 72 bs [.type "Exception", .type "BaseException", .type "object"] true sn sub ab col dd k0 k1 k2 k3 k5 "Exception.__new__"))
    (a : nsIn K 72 "__init__" = some (some (.ref 49))) (b : nsIn K 72 "__setattr__" = some none) (c : nsIn K 72 "lineno" = some none) (d : nsIn K 72 "msg" = some none) (f : nsIn K 72 "line" = some none) : NagCls h :=
  have G : h.Ns 72 (h.nsMap 72) := .of_isNs (isNs_of_in X ok)
  ⟨⟨_, _, _, _, _, _, _, _, _, _, _, _, _, X _ _ e⟩, G, ns_some_of X G a, nsMap_none_of_in X ok b, nsMap_none_of_in X ok c, nsMap_none_of_in X ok d, nsMap_none_of_in X ok f⟩
theorem nagCls {w : World} {h : Heap} (X : (Mine.hd.heap_1 w.params).In h) : NagCls h := by
  refine' nagCls_mk X ?ok ?kx ?ka ?kb ?kc ?kd ?ke
  case ok => kernel_rfl!
  case ka => k_is
  case kb => k_is
  case kc => k_is
  case kd => k_is
  case ke => k_is
  case kx => unfold excClassObj; k_is
/-- a dict object that maps texts as mA says -/
noncomputable def DObj (o : Obj) (mA : Str → Option Value) : Prop := ∃ es ep, o.data = .dict es ep ∧ StrKeys es ∧ UniqKeys es ∧ ∀ name, nsFind es name = mA name
theorem ns1_obj {h : Heap} {d : Addr} {mA : Str → Option Value} (x : h.Ns1 d mA) : ∃ o, h.get? d = some o ∧ DObj o mA := let ⟨o, es, ep, e, r⟩ := x; ⟨o, e, es, ep, r⟩
theorem DObj.ns1 {h : Heap} {d : Addr} {o : Obj} {mA : Str → Option Value} (x : DObj o mA) (e : h.get? d = some o) : h.Ns1 d mA := let ⟨es, ep, r⟩ := x; ⟨o, es, ep, e, r⟩
theorem DObj.congr {o : Obj} {mA mB : Str → Option Value} (x : DObj o mA) (e : ∀ y, mA y = mB y) : DObj o mB := let ⟨es, ep, a, b, c, d⟩ := x; ⟨es, ep, a, b, c, fun y => (d y).trans (e y)⟩
section
variable {prog : Program} {w : World} {A : Around} {E : Value → Shared → Prop} {s : Shared} {g : Heap} {L e t d : Addr} {od : Obj} {m : Str → Option Value} {name : Str} {v : Value} {Q : Unit → Shared → Prop}
theorem set_nag1 (F : Fr g L s.heap m) (N : News g L s.heap [(e, excO 73 t none)]) (C : NagCls g) (hna : g.nsMap 72 name = none) (hB : typeLookup (.type "Exception") name = pure none)
    (h : ∀ d od h' tk, Fr g L h' m → News g L h' [(d, od), (e, excO 73 t (some d))] → DObj od (fun y => if y = name then some v else none) → Q () { s with heap := h', toks := tk }) :
    wpAny (model prog w) A (setAttr (.ref e) name v) Q E s := by
  obtain ⟨nm, q, bs, sn, sub, ab, col, dd, k0, k1, k2, k3, k5, hC⟩ := C.cls
  have he := N _ (.head _)
  refine set_exc_first PySem.F.store_Exception he.1 (F.keep _ _ hC) (C.ns.keeps F.keep) C.set hna hB fun h' tk' e1 n1 k => ?_
  obtain ⟨od, e2, D⟩ := ns1_obj n1
  have hLlt : L < s.heap.objs.size := F.ns.lt
  have old : ∀ b o, g.get? b = some o → h'.get? b = some o := fun b o e' => k b o (fun q => by rw [q, he.2.2] at e'; cases e') (F.keep b o e')
  refine h s.heap.objs.size od h' tk' ⟨?_, old, F.above⟩ (fun q hq => ?_) D
  · obtain ⟨oL, es, ep, hL, r⟩ := F.ns
    exact ⟨oL, es, ep, k _ _ (Ne.symm he.2.1) hL, r⟩
  · rcases List.mem_cons.mp hq with rfl | hq
    · refine ⟨e2, Nat.ne_of_gt hLlt, ?_⟩
      cases z : g.get? s.heap.objs.size with
      | none => rfl
      | some o => exact absurd (Heap.lt_size (F.keep _ _ z)) (Nat.lt_irrefl _)
    · rw [List.mem_singleton.mp hq]
      exact ⟨e1, he.2⟩
/-- the statement of set_nag2 over its data -/
noncomputable def set_nag2_P (prog : Program) (w : World) (A : Around) (E : Value → Shared → Prop) (s : Shared) (g : Heap) (L : Addr) (e : Addr) (t : Addr) (d : Addr) (od : Obj) (m : Str → Option Value) (name : Str) (v : Value) (Q : Unit → Shared → Prop) (mA : Str → Option Value) (ns : List Str) : Prop :=
  ∀ (F : Fr g L s.heap m) (N : News g L s.heap [(d, od), (e, excO 73 t (some d))]) (D : DObj od mA) (C : NagCls g) (hna : g.nsMap 72 name = none) (hB : typeLookup (.type "Exception") name = pure none) (hw : Within mA ns) (hsz : ns.length ≤ sizeLine) (h : ∀ od h' tk, Fr g L h' m → News g L h' [(d, od), (e, excO 73 t (some d))] → DObj od (fun y => if y = name then some v else mA y) → Q () { s with heap := h', toks := tk }), wpAny (model prog w) A (setAttr (.ref e) name v) Q E s
noncomputable def set_nag2_R (p : Program × World × Around × (Value → Shared → Prop) × Shared × Heap × Addr × Addr × Addr × Addr × Obj × (Str → Option Value) × Str × Value × (Unit → Shared → Prop) × (Str → Option Value) × (List Str)) : Prop := set_nag2_P p.1 p.2.1 p.2.2.1 p.2.2.2.1 p.2.2.2.2.1 p.2.2.2.2.2.1 p.2.2.2.2.2.2.1 p.2.2.2.2.2.2.2.1 p.2.2.2.2.2.2.2.2.1 p.2.2.2.2.2.2.2.2.2.1 p.2.2.2.2.2.2.2.2.2.2.1 p.2.2.2.2.2.2.2.2.2.2.2.1 p.2.2.2.2.2.2.2.2.2.2.2.2.1 p.2.2.2.2.2.2.2.2.2.2.2.2.2.1 p.2.2.2.2.2.2.2.2.2.2.2.2.2.2.1 p.2.2.2.2.2.2.2.2.2.2.2.2.2.2.2.1 p.2.2.2.2.2.2.2.2.2.2.2.2.2.2.2.2
noncomputable def set_nag2_c : Program × World × Around × (Value → Shared → Prop) × Shared × Heap × Addr × Addr × Addr × Addr × Obj × (Str → Option Value) × Str × Value × (Unit → Shared → Prop) × (Str → Option Value) × (List Str) := pick (neP inferInstance (neP neW (neP neA (neP inferInstance (neP neS (neP inferInstance (neP inferInstance (neP inferInstance (neP inferInstance (neP inferInstance (neP inferInstance (neP inferInstance (neP inferInstance (neP inferInstance (neP inferInstance (neP inferInstance inferInstance)))))))))))))))) set_nag2_R
theorem set_nag2_core : set_nag2_R set_nag2_c := ((by
  intro prog w A E s g L e t d od m name v Q mA ns F N D C hna hB hw hsz h
  obtain ⟨nm, q, bs, sn, sub, ab, col, dd, k0, k1, k2, k3, k5, hC⟩ := C.cls
  have he := N (e, _) (.tail _ (.head _))
  have hd := N (d, _) (.head _)
  have hde : d ≠ e := fun q => by
    have h1 := hd.1
    have h2 := he.1
    simp only [q] at h1 h2
    rw [h1] at h2
    cases h2
    obtain ⟨es, ep, z, _⟩ := D
    cases z
  have heC : e ≠ 73 := fun q => by have := he.2.2; simp only [q, hC] at this; cases this
  refine store_attr PySem.F.store_Exception (F.keep _ _ hC) (C.ns.keeps F.keep) C.set hna hB heC ⟨_, he.1, rfl, (fun c z => by cases z), .inr ⟨d, rfl, hde, D.ns1 hd.1⟩⟩ (fun h' tk' I k sm => ?_) hw hsz
  have k' : ∀ b o, b ≠ e → b ≠ d → s.heap.get? b = some o → h'.get? b = some o := fun b o n1 n2 e' => k b o n1 (fun o₀ dx q1 q2 => by
    have := he.1.symm.trans q1
    cases this
    cases q2
    exact n2) e'
  obtain ⟨o₁, h1, c1, d1, s1, dx1⟩ := sm _ he.1
  have ho₁ : o₁ = excO 73 t (some d) := by
    obtain ⟨oc, odi, odt, osl⟩ := o₁
    have := dx1 d rfl
    simp only at c1 d1 s1 this
    subst c1 d1 s1 this
    rfl
  subst ho₁
  obtain ⟨o₂, h2, _, _, z⟩ := I
  rw [h1] at h2
  cases h2
  rcases z with ⟨z, _⟩ | ⟨d', z, _, n⟩
  · cases z
  cases z
  obtain ⟨od', e2, D'⟩ := ns1_obj n
  have old : ∀ b o, g.get? b = some o → h'.get? b = some o := fun b o e' => k' b o (fun q => by rw [q, he.2.2] at e'; cases e') (fun q => by rw [q, hd.2.2] at e'; cases e') (F.keep b o e')
  refine h od' h' tk' ⟨?_, old, F.above⟩ (fun q hq => ?_) D'
  · obtain ⟨oL, es, ep, hL, r⟩ := F.ns
    exact ⟨oL, es, ep, k' _ _ (Ne.symm he.2.1) (Ne.symm hd.2.1) hL, r⟩
  · rcases List.mem_cons.mp hq with rfl | hq
    · exact ⟨e2, hd.2⟩
    · rw [List.mem_singleton.mp hq]
      exact ⟨h1, he.2⟩) : ∀ (prog : Program) (w : World) (A : Around) (E : Value → Shared → Prop) (s : Shared) (g : Heap) (L : Addr) (e : Addr) (t : Addr) (d : Addr) (od : Obj) (m : Str → Option Value) (name : Str) (v : Value) (Q : Unit → Shared → Prop) (mA : Str → Option Value) (ns : List Str), set_nag2_P prog w A E s g L e t d od m name v Q mA ns) _ _ _ _ _ _ _ _ _ _ _ _ _ _ _ _ _
theorem set_nag2 {mA : Str → Option Value} {ns : List Str} (F : Fr g L s.heap m) (N : News g L s.heap [(d, od), (e, excO 73 t (some d))]) (D : DObj od mA) (C : NagCls g) (hna : g.nsMap 72 name = none) (hB : typeLookup (.type "Exception") name = pure none)
    (hw : Within mA ns) (hsz : ns.length ≤ sizeLine)
    (h : ∀ od h' tk, Fr g L h' m → News g L h' [(d, od), (e, excO 73 t (some d))] → DObj od (fun y => if y = name then some v else mA y) → Q () { s with heap := h', toks := tk }) :
    wpAny (model prog w) A (setAttr (.ref e) name v) Q E s :=
  (show set_nag2_P prog w A E s g L e t d od m name v Q mA ns from close1 (R := set_nag2_R) _ set_nag2_core (prog, w, A, E, s, g, L, e, t, d, od, m, name, v, Q, mA, ns)) F N D C hna hB hw hsz h

end
theorem nb_lineno : typeLookup (.type "Exception") "lineno" = pure none := by kernel_rfl!
theorem nb_msg : typeLookup (.type "Exception") "msg" = pure none := by kernel_rfl!
theorem nb_line : typeLookup (.type "Exception") "line" = pure none := by kernel_rfl!

variable {prog : Program} {w : World} {s : Shared} {base g : Heap} {fr : List Env} {gd : Option (List Code)}
  {p : Program} {loose : List Str} {mean : ExcName → Option Value} {mg mb : Str → Option Value}
/-- what a NannyNag's dict says -/
noncomputable def nagM (v1 v2 v3 : Value) (y : Str) : Option Value := if y = "line" then some v3 else if y = "msg" then some v2 else if y = "lineno" then some v1 else none
set_option maxHeartbeats 4000000 in
set_option pp.deepTerms false in
set_option pp.deepTerms.threshold 6 in
set_option pp.maxSteps 1500 in
theorem nagInit {Q E : Value → Shared → Prop} {e t : Addr} {v1 v2 v3 : Value}
    (S : Std (AT 700 3000 fr gd) base fr g (Mine.hd.heap_1 w.params) p loose mean mg mb s.heap [(e, excO 73 t none)])
    (hret : ∀ (d : Addr) (od : Obj) (h' : Heap) (tk' : Nat), (∀ b o, b ≠ e → s.heap.get? b = some o → h'.get? b = some o) → h'.get? e = some (excO 73 t (some d)) → h'.get? d = some od → DObj od (nagM v1 v2 v3) → s.heap.get? d = none → Q .none { s with heap := h', toks := tk' }) :
    wpAny (model prog w) (AT 700 3000 fr gd) (call (.ref 49) [.ref e, v1, v2, v3]) Q E s := by
  refine wpAny_call ?_
  k_dflt (refine' enterC ?kS ?k6 ?k7 ?k8 ?k9 ?kB ?_ ?c2 ?c3 ?c4 ?c5; (case kS => assumption); (case k6 => k_is); (case k7 => k_is); (case k8 => exact Nat.le_of_ble_eq_true rfl); (case k9 => exact BindsTo.of_eq rfl); (case c5 => decide); (case kB => exact locs rfl); (case c2 => exact rfl); (case c3 => exact rfl); (case c4 => exact rfl); k_whole; intro zzL' zzh' zzB' zzX' zzT' zzF' zzN'; (try dsimp only); (try k_fold))
  k_steps
  rename Fr _ _ _ _ => F1
  rename News _ _ _ _ => N0
  have N1 := cb_drop (news := [(e, excO 73 t none)]) N0 (fun q hq => .tail _ hq)
  have C := nagCls S.X
  refine set_nag1 F1 N1 C C.ln nb_lineno fun d1 o1 h1 tk1 F2 N2 D2 => ?_
  clear F1 N1
  k_steps
  refine set_nag2 F2 N2 D2 C C.ms nb_msg (Within.cons _ _ Within.nil) (by rw [sizeLine_eq]; decide) fun o2 h2 tk2 F3 N3 D3 => ?_
  clear F2 N2 D2
  k_steps
  refine set_nag2 F3 N3 D3 C C.li nb_line (Within.cons _ _ (Within.cons _ _ Within.nil)) (by rw [sizeLine_eq]; decide) fun o3 h3 tk3 F4 N4 D4 => ?_
  clear F3 N3 D3
  k_steps
  change Q Value.none _
  have he := N4 (e, _) (.tail _ (.head _))
  have hd := N4 (d1, _) (.head _)
  refine hret d1 o3 _ _ (S.keepsBut F4) he.1 hd.1 (D4.congr fun y => rfl) (S.freshN N4 (.head _) fun q hq => ?_)
  rw [List.mem_singleton.mp hq]
  intro q
  have h1 := hd.1
  have h2 := he.1
  simp only [← q] at h1 h2
  rw [h1] at h2
  cases h2
  obtain ⟨es, ep, z, _⟩ := D4
  cases z
end

section
open PySem PySem.W PyProof.Rows PySem.Calls PySem.Spec
set_option maxRecDepth 100000
/-- an exception that flies, with where its dict lies -/
noncomputable def Flew (base G : Heap) (l : List Env) (e : Addr) (cls : Value) (dx : Option Addr) (news : List (Addr × Obj)) (h : Heap) : Prop :=
  RaisedSN base G l e cls news h ∧ ∃ o, h.get? e = some o ∧ o.dict = dx
section
variable {M : Model} {A : Around} {E : Value → Shared → Prop} {s : Shared} {Q : Unit → Shared → Prop}
theorem with_dict {t : Sem Unit} {P : Heap → Prop} (dk : DK t) (h : ∀ Q : Unit → Shared → Prop, (∀ h', P h' → Q () { s with heap := h' }) → wpAny M A t Q E s) (k : ∀ h', P h' → DictSame s.heap h' → Q () { s with heap := h' }) : wpAny M A t Q E s := by
  refine wpAny_mono (DK.any dk (h (fun _ s' => ∃ h', s' = { s with heap := h' } ∧ P h') fun h' p => ⟨h', rfl, p⟩)) (fun _ s' z => ?_) fun _ _ x => x.1
  obtain ⟨⟨h', rfl, p⟩, d⟩ := z
  exact k h' p d
end
section
variable {M : Model} {A : Around} {E : Value → Shared → Prop} {s' : Shared} {base g g₂ : Heap} {outer : List Env} {env : Env} {L e : Addr} {m : Str → Option Value} {Q : Unit → Shared → Prop} {news : List (Addr × Obj)} {cls : Value} {dx : Option Addr}
theorem fly_mem {b : Addr} (hf : env.frame = some L) (hm : b ∈ (env :: outer).filterMap (·.frame)) : b = L ∨ b ∈ outer.filterMap (·.frame) := by
  obtain ⟨env', he, hf'⟩ := List.mem_filterMap.mp hm
  rcases List.mem_cons.mp he with rfl | he
  · exact .inl (Option.some.inj (hf'.symm.trans hf))
  · exact .inr (List.mem_filterMap.mpr ⟨env', he, hf'⟩)
theorem fly_on (K : Below A base outer g) (F : Fr g L g₂ m) (R : Flew base g₂ (env :: outer) e cls dx news s'.heap) (hsm : g₂.UpToSlots s'.heap) (hf : env.frame = some L)
    (hQ : ∀ h', Flew base g outer e cls dx news h' → g.UpToSlots h' → Q () { s' with heap := h' }) : wpAny M (A.deeper env) (leaving env (.ref e)) Q E s' := by
  obtain ⟨⟨B, a0, hB, hBG, hl, hfl⟩, o, ho, hdx⟩ := R
  refine with_dict (P := fun h' => Heap.FlyingW B outer e cls a0 h' ∧ s'.heap.UpToSlots h') (dk_leaving _ _) (fun Q k => wpAny_leaves_onW (Around.frames_deeper K.stack) hf hfl fun h' x1 x2 => k h' ⟨x1, x2⟩) fun h' x ds => ?_
  refine hQ h' ⟨⟨B, a0, hB, fun b o q nm => hBG b o (F.keep b o q) (fun hm => ?_), fun q hq => ⟨(hl q hq).1, kts_none F.keep (hl q hq).2.1, (hl q hq).2.2⟩, x.1⟩, ?_⟩ ((Heap.UpToSlots.of_keeps F.keep).trans (hsm.trans x.2))
  · rcases fly_mem hf hm with z | z
    · rw [z, kts_self F] at q
      cases q
    · exact nm z
  · obtain ⟨o', e', d'⟩ := ds _ _ ho
    exact ⟨o', e', d'.trans hdx⟩
theorem fly_first {oe : Obj} {a0 : Value} (K : Below A base outer g) (F : Fr g L s'.heap m) (N : News g L s'.heap ((e, oe) :: news)) (hne : ∀ q ∈ news, q.1 ≠ e) (hd : oe.data = .fields #[a0, .none, .none, .none, .bool false, .none])
    (hf : env.frame = some L) (hk : env.scope.kind = .function)
    (hQ : ∀ h', Flew base g outer e oe.cls oe.dict news h' → g.UpToSlots h' → Q () { s' with heap := h' }) : wpAny M (A.deeper env) (leaving env (.ref e)) Q E s' := by
  have K' := pushX K F hf hk
  have he := N _ (.head _)
  dsimp only at he
  let as := e :: (env :: outer).filterMap (·.frame)
  have eframe : e ∉ (env :: outer).filterMap (·.frame) := fun hm => by
    rcases fly_mem hf hm with z | z
    · exact he.2.1 z
    · obtain ⟨o, ho, _⟩ := (K.frames.mem z).2
      rw [he.2.2] at ho; cases ho
  have hin : ∀ env' ∈ (env :: outer), ∀ b, env'.frame = some b → b ∈ as := fun env' h b hb => .tail _ (List.mem_filterMap.mpr ⟨env', h, hb⟩)
  have st : base.StaysIn (hideAll s'.heap as) := fun b o q => hideAll_get _ (K'.stays b o q) fun hm => by
    rcases List.mem_cons.mp hm with z | hm
    · have := K.stays b o q
      rw [z, he.2.2] at this; cases this
    · rw [(K'.frames.mem hm).1] at q; cases q
  have sg : ∀ b o, g.get? b = some o → b ∉ outer.filterMap (·.frame) → (hideAll s'.heap as).get? b = some o := fun b o q nm => hideAll_get _ (F.keep b o q) fun hm => by
    rcases List.mem_cons.mp hm with z | hm
    · rw [z, he.2.2] at q; cases q
    rcases fly_mem hf hm with z | z
    · rw [z, kts_self F] at q
      cases q
    · exact nm z
  have hl : ∀ q ∈ news, (hideAll s'.heap as).get? q.1 = some q.2 ∧ g.get? q.1 = none ∧ base.get? q.1 = none := fun q hq => by
    have Nq := N q (.tail _ hq)
    refine ⟨hideAll_get _ Nq.1 fun hm => ?_, Nq.2.2, fresh_of_stays K.stays Nq.2.2⟩
    rcases List.mem_cons.mp hm with z | hm
    · exact hne q hq z
    rcases fly_mem hf hm with z | z
    · exact Nq.2.1 z
    · obtain ⟨o, ho, _⟩ := (K.frames.mem z).2
      rw [Nq.2.2] at ho; cases ho
  have hen : (hideAll s'.heap as).get? e = none := hideAll_none _ (.head _)
  refine with_dict (P := fun h' => Heap.LeftW (hideAll s'.heap as) (env :: outer) e oe.cls a0 s'.heap h') (dk_leaving _ _)
    (fun Q k => wpAny_leaving_firstW K'.stack (funFrames_hide K'.frames hin) hf he.1 (fun b o hb => of_hideAll _ hb) hen hd rfl rfl k) fun h' x ds => ?_
  obtain ⟨k1, ⟨_, _, k2⟩, k3, k4⟩ := x
  refine hQ h' ⟨⟨_, a0, st, sg, hl, k1, hen, k2, k3⟩, ds _ _ he.1⟩ ((Heap.UpToSlots.of_keeps F.keep).trans k4)
/-- the same, from a built-in exception just made -/
theorem fly_new {h : Heap} {X : String} (K : Below A base outer g) (hx : Heap.NewExc h s'.heap e X) (F : Fr g L h m) (N : News g L h news)
    (hf : env.frame = some L) (hk : env.scope.kind = .function)
    (hQ : ∀ h' dx, Flew base g outer e (.type X) dx news h' → g.UpToSlots h' → Q () { s' with heap := h' }) : wpAny M (A.deeper env) (leaving env (.ref e)) Q E s' := by
  obtain ⟨ob, tp, he, hcls, hd⟩ := hx.there
  have hLn : L ≠ e := fun q => by
    obtain ⟨oL, es, ep, hL, _⟩ := F.ns
    rw [q, hx.new] at hL; cases hL
  have hne : ∀ q ∈ news, q.1 ≠ e := fun q hq z => by have := (N q hq).1; rw [z, hx.new] at this; cases this
  refine fly_first (a0 := tp) K (fr_stay F hx.keeps) (oe := ob) (fun q hq => ?_) hne hd hf hk fun h' R u => hQ h' _ (by rw [← hcls]; exact R) u
  rcases List.mem_cons.mp hq with rfl | hq
  · exact ⟨he, Ne.symm hLn, kts_none F.keep hx.new⟩
  · exact ⟨hx.keeps _ _ (N q hq).1, (N q hq).2⟩
end
end

section
open PySem PySem.W PyProof.Rows PySem.Calls PySem.Spec
set_option maxRecDepth 100000
section
variable {M : Model} {A : Around} {E : Value → Shared → Prop} {env : Env} {s : Shared}
set_option maxHeartbeats 1000000 in
theorem raise_nag {x : Sem Value} {Q : Flow → Shared → Prop} (hh : A.handled = none)
    (h : wpAny M A x (fun v s₁ => ∃ e t d, v = .ref e ∧ NagCls s₁.heap ∧ s₁.heap.get? e = some (excO 73 t d) ∧ E (.ref e) s₁) E s) :
    wpAny M A (raiseStmt env (some x) none) Q E s := by
  have hcB : (Value.ref 73 :: excMro).contains (.type "BaseException") = true := by decide
  unfold raiseStmt
  refine wpAny_bind (wpAny_mono h (fun v s₁ h₁ => ?_) fun _ _ x => x)
  obtain ⟨e, t, d, rfl, C, he, hE⟩ := h₁
  obtain ⟨nm, q, bs, sn, sub, ab, col, dd, k0, k1, k2, k3, k5, hC⟩ := C.cls
  obtain ⟨hp, g, d, tk, os⟩ := s₁
  repeat (first | with_reducible refine wpAny_loadPart_at he ?_ | with_reducible refine wpAny_loadPart_at hC ?_ | (with_reducible refine wpAny_isSubtype_exc hC ?_; rw [hcB]) | wp_step)
  exact wpAny_raiseNew_none hh hE
end
theorem NagCls.keeps {h h' : Heap} (C : NagCls h) (k : h.StaysIn h') : NagCls h' := by
  have e : h'.nsMap 72 = h.nsMap 72 := by
    obtain ⟨o, es, ep, ho, hd, _⟩ := C.ns
    unfold Heap.nsMap
    rw [ho, k _ _ ho]
  obtain ⟨⟨nm, q, bs, sn, sub, ab, col, dd, k0, k1, k2, k3, k5, hC⟩, b, c, d, f, g, i⟩ := C
  refine ⟨⟨nm, q, bs, sn, sub, ab, col, dd, k0, k1, k2, k3, k5, k _ _ hC⟩, ?_, ?_, ?_, ?_, ?_, ?_⟩ <;> rw [e]
  · exact b.keeps k
  all_goals assumption
theorem fn_at {K : Frag} {h : Heap} {a : Addr} {od : Option Addr} {dt : Data} {sl : Array (Option Value)} (X : K.In h) (e : K.lookup a = some ⟨.type "function", od, dt, sl⟩) : ∃ o, h.get? a = some o ∧ o.cls = .type "function" := ⟨_, X _ _ e, rfl⟩
theorem fill_me9 : PySem.Challenge.rw_mr0234_01 = PySem.Challenge.rw_mr0234_01 ∧ Mine.hd.heap_1 = Mine.hd.heap_1 := by
  k_fill
  exact ⟨rfl, rfl⟩
theorem fn49 {w : World} {h : Heap} (X : (Mine.hd.heap_1 w.params).In h) : ∃ o, h.get? 49 = some o ∧ o.cls = .type "function" := by
  refine' fn_at X ?kx
  case kx => k_is
section
variable {prog : Program} {w : World} {A₀ : Around} {s : Shared} {base h₀ : Heap} {outer : List Env} {env : Env} {L : Addr} {m : Str → Option Value} {news : List (Addr × Obj)} {gd : Option (List Code)} {dp un : Nat}
  {p : Program} {loose : List Str} {mean : ExcName → Option Value} {mg mb : Str → Option Value} {Q E : Value → Shared → Prop} {v1 v2 v3 : Value}
theorem nag_use (B : Below A₀ base outer h₀) (F : Fr h₀ L s.heap m) (X : (Mine.hd.heap_1 w.params).In h₀) (T : Top p loose mean mg mb h₀) (N : News h₀ L s.heap news)
    (hd : dp ≤ 690) (hu : un ≤ 2990) (hf : env.frame = some L) (hke : env.scope.kind = .function)
    (h : ∀ e t d od h' tk', Fr h₀ L h' m → News h₀ L h' ((e, excO 73 t (some d)) :: (d, od) :: (t, tupO [v1, v2, v3] 0) :: news) → DObj od (nagM v1 v2 v3) → s.heap.get? e = none → s.heap.get? d = none → s.heap.get? t = none → e ≠ d → e ≠ t → s.heap.StaysIn h' → Q (.ref e) { s with heap := h', toks := tk' }) :
    wpAny (model prog w) { handled := none, depth := dp, frames := some (env :: outer), guards := gd, units := un } (call (.ref 73) [v1, v2, v3]) Q E s := by
  have C := (nagCls X).keeps F.keep
  obtain ⟨nm, q, bs, sn, sub, ab, col, dd, k0, k1, k2, k3, k5, hC⟩ := C.cls
  obtain ⟨o49, e49, c49⟩ := fn49 (X.keeps F.keep)
  obtain ⟨hp, gs, dr, tk, os⟩ := s
  refine call_init PySem.F.excBase_Exception hC C.ns C.init e49 c49 (fun h' e t' k hs lt he ht hsz => ?_) (by rw [sizeLine_eq]; simp)
  have ht' : hp.get? t' = none := Heap.get?_none_of_le hs
  have he' : hp.get? e = none := Heap.get?_none_of_le (Nat.le_trans hs (Nat.le_of_lt lt))
  have hLlt : @LT.lt Nat _ L hp.objs.size := F.ns.lt
  have F' := fr_stay F k
  have N' : News h₀ L h' ((e, excO 73 t' none) :: (t', tupO [v1, v2, v3] 0) :: news) := by
    intro q hq
    rcases List.mem_cons.mp hq with rfl | hq
    · exact ⟨he, Nat.ne_of_gt (Nat.lt_of_lt_of_le hLlt (Nat.le_trans hs (Nat.le_of_lt lt))), kts_none F.keep he'⟩
    rcases List.mem_cons.mp hq with rfl | hq
    · exact ⟨ht, Nat.ne_of_gt (Nat.lt_of_lt_of_le hLlt hs), kts_none F.keep ht'⟩
    · exact ⟨k _ _ (N q hq).1, (N q hq).2⟩
  have S := std_of (A := AT 700 3000 (env :: outer) gd) (led := [(e, excO 73 t' none)]) (s := ⟨h', gs, dr, tk, os⟩) B F' X T N' (fun q hq => by rw [List.mem_singleton.mp hq]; exact .head _) rfl hf hke
  refine depth_le (A' := AT 700 3000 (env :: outer) gd) (nagInit S fun d od h2 tk2 k2 e2 d2 D fd => ⟨rfl, ?_⟩) rfl ?_ rfl rfl ?_
  · have hL : L ≠ e := Ne.symm (N' _ (.head _)).2.1
    have hd' : hp.get? d = none := kts_none k fd
    have k3 : hp.StaysIn h2 := fun b o z => k2 b o (fun q => by rw [q, he'] at z; cases z) (k b o z)
    have F2 := fr_stay F k3
    have hLd : L ≠ d := fun q => by
      obtain ⟨oL, es, ep, z, _⟩ := F.ns
      rw [q] at z
      rw [show (⟨hp, gs, dr, tk, os⟩ : Shared).heap.get? d = none from hd'] at z; cases z
    refine h e t' d od h2 tk2 F2 (fun q hq => ?_) D he' hd' ht' (fun q => ?_) (Nat.ne_of_gt lt) k3
    · rcases List.mem_cons.mp hq with rfl | hq
      · exact ⟨e2, (N' _ (.head _)).2⟩
      rcases List.mem_cons.mp hq with rfl | hq
      · exact ⟨d2, Ne.symm hLd, kts_none F.keep hd'⟩
      rcases List.mem_cons.mp hq with rfl | hq
      · exact ⟨k2 _ _ (Nat.ne_of_lt lt) ht, (N' _ (.tail _ (.head _))).2⟩
      · exact ⟨k3 _ _ (N q hq).1, (N q hq).2⟩
    · rw [← q, show (⟨h', gs, dr, tk, os⟩ : Shared).heap.get? e = _ from he] at fd; cases fd
  · show dp + 1 ≤ 700
    omega
  · show un + 1 ≤ 3000
    omega
end
end

section
open PySem PySem.W PyProof.Rows PySem.Calls PySem.Spec
set_option maxRecDepth 100000
section
variable {prog : Program} {w : World} {A₀ : Around} {E : Value → Shared → Prop} {s' : Shared} {base g g₀ G : Heap} {outer : List Env} {L a e C : Addr} {m : Str → Option Value} {name : Str} {scope : Scope} {cd : Value}
  {n : Str} {b₀ : Stmt} {suite : List Stmt} {pos np : Pos} {rest : List ExceptHandler} {Q : Flow → Shared → Prop} {news : List (Addr × Obj)} {KF : Frag} {dx : Option Addr}
  {p : Program} {loose : List Str} {mean : ExcName → Option Value} {mg mb : Str → Option Value} {x : Str}
end
end

section
open Sem (wp)
set_option maxRecDepth 100000
/-- wpAny, where something is known of the stack -/
noncomputable def wpP {α : Type} (M : Model) (A : Around) (S : Code → List (Code × Pos) → Prop) (t : Sem α) (Q : α → Shared → Prop) (E : Value → Shared → Prop) (s : Shared) : Prop :=
  ∀ Γ p, Γ.In A → S Γ.code Γ.below → wp M Γ t (fun a _ s' => Q a s') (fun e _ s' => E e s') p s
noncomputable def codeP (M : Model) (A : Around) (S : List (Code × Pos) → Prop) (c : Code) (R : Result → Shared → Prop) (s : Shared) : Prop :=
  ∀ Γ p, Γ.code = c → Γ.Below A → S Γ.below → wpCode M Γ R p s
section
variable {α β : Type} {M : Model} {A : Around} {S : Code → List (Code × Pos) → Prop} {S' : List (Code × Pos) → Prop} {E : Value → Shared → Prop} {s : Shared}
theorem wpP_any {t : Sem α} {Q : α → Shared → Prop} (h : wpAny M A t Q E s) : wpP M A S t Q E s := fun Γ p hΓ _ => h Γ p hΓ
theorem wpP_bind {m : Sem α} {f : α → Sem β} {Q : β → Shared → Prop} (h : wpP M A S m (fun a s' => wpP M A S (f a) Q E s') E s) : wpP M A S (m >>= f) Q E s := fun Γ p hΓ hS => by
  rw [Sem.wp_bind']
  exact Sem.wp_mono M Γ m (fun a p' s' h' => h' Γ p' hΓ hS) (fun _ _ _ h' => h') p s (h Γ p hΓ hS)
theorem wpP_holding {vs : List Value} {m : Sem α} {Q : α → Shared → Prop} (h : wpP M A S m Q E s) : wpP M A S (holding vs m) Q E s :=
  fun Γ p hΓ hS => by rw [Sem.wp_holding]; exact h Γ p hΓ hS
theorem wpP_call {f : Value} {pos : List Value} {kw : List (Str × Value)} {Q : Value → Shared → Prop} (hS : ∀ c l p, S c l → S' ((c, p) :: l))
    (hc : codeP M A S' (.call f ⟨pos, kw⟩) (fun r s' => match r with | .ok (.ret v) => Q v s' | .ok _ => False | .error e => E e s') s) : wpP M A S (call f pos kw) Q E s :=
  fun Γ p hΓ h => by
    show wp M Γ (runValue (.call f ⟨pos, kw⟩)) _ _ p s
    rw [Sem.wp_runValue]; exact hc _ p rfl (hΓ.enter _ none p (by intro x; cases x)) (hS _ _ _ h)
theorem codeP_of_tree {c : Code} {R : Result → Shared → Prop}
    (h : wpP M (A.under c) (fun c' l => c' = c ∧ S' l) (M.den c) (fun fin s' => match fin with | .done f => R (.ok f) s' | .again c' => c'.quiet = true ∧ codeP M A S' c' R s')
      (fun e s' => R (.error e) s') s) : codeP M A S' c R s := fun Γ p hc hΓ hS => by
  rw [wpCode_iff_wp, hc]
  refine Sem.wp_mono M Γ _ (fun fin p' s' h' => ?_) (fun _ _ _ h' => h') p s (h Γ p (hc ▸ hΓ.in) ⟨hc, hS⟩)
  cases fin with
  | done f => exact h'
  | again c' => exact ⟨h'.1, h'.2 (Γ.goto c') p' rfl (hΓ.goto c') hS⟩
theorem codeAny_of_P {c : Code} {R : Result → Shared → Prop} (h : codeP M A (fun _ => True) c R s) : codeAny M A c R s := fun Γ p hc hΓ => h Γ p hc hΓ trivial
theorem wpP_true {c : Prop} {inst : Decidable c} {a b : Sem α} {Q : α → Shared → Prop} (hc : c) (h : wpP M A S a Q E s) : wpP M A S (@ite _ c inst a b) Q E s := by rw [if_pos hc]; exact h
theorem wpP_false {c : Prop} {inst : Decidable c} {a b : Sem α} {Q : α → Shared → Prop} (hc : ¬ c) (h : wpP M A S b Q E s) : wpP M A S (@ite _ c inst a b) Q E s := by rw [if_neg hc]; exact h
theorem wpP_pure {a : α} {Q : α → Shared → Prop} (h : Q a s) : wpP M A S (pure a) Q E s := fun _ _ _ _ => h
theorem wpP_mark {own : List String} {e : Value} {Q : Unit → Shared → Prop} (hS : ∀ c l, S c l → pythonCodeMadeTheCall own (c :: l.map (·.1)) = false) (h : Q () s) : wpP M A S (markTheRefusal own e) Q E s := fun Γ p hΓ hs => by
  unfold markTheRefusal
  rw [Sem.wp_bind']
  show wp M Γ (if pythonCodeMadeTheCall own (((Γ.code, p) :: Γ.below).map (·.1)) = true then _ else _) _ _ p s
  rw [if_neg (by rw [List.map_cons, hS _ _ hs]; exact Bool.false_ne_true)]
  exact h
end
section
variable {prog : Program} {w : World} {A : Around} {S' : List (Code × Pos) → Prop} {s : Shared} {R : Result → Shared → Prop}
theorem codeP_builtin {id : String} {args : Args} {b : Builtin} (hb : entryFor table id = some b)
    (h : wpP (model prog w) (A.under (.builtin id args)) (fun c l => c = .builtin id args ∧ S' l) (b args)
      (fun fin s' => match fin with | .done f => R (.ok f) s' | .again c' => c'.quiet = true ∧ codeP (model prog w) A S' c' R s') (fun e s' => R (.error e) s') s) :
    codeP (model prog w) A S' (.builtin id args) R s := by
  refine codeP_of_tree ?_
  show wpP _ _ _ (match entryFor table id with | some b => b args | none => unsupported ((withoutEnding? id "#data").getD id)) _ _ s
  rw [hb]; exact h
theorem codeP_call_builtin {id : String} {args : Args} {b : Builtin} (hq : (Code.builtin id args).quiet = true) (hb : entryFor table id = some b)
    (h : wpAny (model prog w) A.in1 (checkBuiltinCall id args) (fun _ s₁ => wpP (model prog w) (A.under (.builtin id args)) (fun c l => c = .builtin id args ∧ S' l) (b args)
      (fun fin s' => match fin with | .done f => R (.ok f) s' | .again c' => c'.quiet = true ∧ codeP (model prog w) A S' c' R s') (fun e s' => R (.error e) s') s₁)
      (fun e s' => R (.error e) s') s) : codeP (model prog w) A S' (.call (.builtin id) args) R s := by
  refine codeP_of_tree ?_
  show wpP _ A.in1 _ (do checkBuiltinCall id args; again (.builtin id args)) _ _ s
  exact wpP_bind (wpP_any (wpAny_mono h (fun _ s₁ h₁ => wpP_pure (And.intro hq (codeP_builtin hb h₁))) fun _ _ h' => h'))
end
section
variable {M : Model} {A : Around} {S : Code → List (Code × Pos) → Prop} {E : Value → Shared → Prop} {s : Shared}
set_option maxHeartbeats 1000000 in
theorem bad_text {prog : Program} {w : World} {Q : Value → Shared → Prop} {x : Str} {t : Tok} {text : List Nat} (hh : A.handled = none) (hS : ∀ c l, S c l → pythonCodeMadeTheCall ["int.__new__"] (c :: l.map (·.1)) = false)
    (hs : (text.takeWhile (· != 0)).length ≤ 640) (hr : (int_private% "readNumeral") 0 10 (text.takeWhile (· != 0)) = (int_private% "Numeral.invalid"))
    (hx : (reprText x).length ≤ sizeLine) (hm : (Str.ofString (toString "invalid literal for int() with base " ++ toString 10 ++ toString ": ") ++ ({ cps := (reprText x).cps.extract 0 200 } : Str)).length ≤ sizeLine)
    (hE : ∀ h' e tk, Heap.NewExc s.heap h' e "ValueError" → E (.ref e) { s with heap := h', toks := tk }) :
    wpP (model prog w) A S ((int_private% "intFromText") (.str x t) text 10) Q E s := by
  refine wpP_true hs ?_
  refine wpP_bind (wpP_pure ?_)
  dsimp only
  rw [hr]
  dsimp only
  refine wpP_bind (wpP_any (wpAny_of_eq (a := none) rfl ?_))
  refine wpP_false (by simp) ?_
  refine wpP_bind (wpP_any (wpAny_rule ?_))
  refine wpP_bind (wpP_any (wpAny_of_eq (a := none) rfl ?_))
  dsimp only
  refine wpP_bind (wpP_any (wpAny_pyRepr_str ?_ hx))
  refine wpP_bind (wpP_any (wpAny_mkStr ?_ hm))
  refine wpP_bind (wpP_any ?_)
  unfold newExc newTuple
  refine wpAny_bind (wpAny_newObj_type ?_)
  refine wpAny_bind (m := firstArgMember _ _) (wpAny_of_eq (a := Value.none) (by simp only [firstArgMember]; rfl) ?_)
  have hom : ∀ args, ownMembersOf (.type "ValueError") args = #[] := fun args => by
    unfold ownMembersOf
    split <;> first | rfl | (rename_i h; revert h; decide) | simp_all
  rw [hom]
  refine wpAny_newObj_type ?_
  refine wpP_bind (wpP_mark hS ?_)
  refine wpP_any (wpAny_raiseNew_none hh ?_)
  exact hE _ _ _ ⟨fun b o hb => Heap.get?_push_of_some _ (Heap.get?_push_of_some _ hb), Heap.get?_none_of_le (by simp), _, .ref s.heap.objs.size, Heap.get?_push_size _ rfl, rfl, by simp⟩
end
noncomputable def bx : Str := "x2"
section
variable {prog : Program} {w : World} {A : Around} {S : Code → List (Code × Pos) → Prop} {E : Value → Shared → Prop} {s : Shared}
theorem bad_x2 {Q : Value → Shared → Prop} {t : Tok} (hh : A.handled = none) (hS : ∀ c l, S c l → pythonCodeMadeTheCall ["int.__new__"] (c :: l.map (·.1)) = false)
    (hE : ∀ h' e tk, Heap.NewExc s.heap h' e "ValueError" → E (.ref e) { s with heap := h', toks := tk }) :
    wpP (model prog w) A S ((int_private% "intFromText") (.str bx t) [120, 50] 10) Q E s :=
  bad_text hh hS (by decide) (by rfl) (by rw [sizeLine_eq]; decide +kernel) (by rw [sizeLine_eq]; decide +kernel) hE
set_option maxHeartbeats 1000000 in
theorem bad_new {Q : Fin → Shared → Prop} {t : Tok} (hh : A.handled = none) (hS : ∀ c l, S c l → pythonCodeMadeTheCall ["int.__new__"] (c :: l.map (·.1)) = false)
    (hE : ∀ h' e tk, Heap.NewExc s.heap h' e "ValueError" → E (.ref e) { s with heap := h', toks := tk }) :
    wpP (model prog w) A S (Builtin.«int.__new__» ⟨[.type "int", .str bx t], []⟩) Q E s := by
  refine wpP_bind (wpP_any (wpAny_of_eq (a := true) rfl ?_))
  refine wpP_false (by decide) ?_
  refine wpP_bind (wpP_any (wpAny_of_eq F.conv_sub_int ?_))
  refine wpP_false (by decide) ?_
  refine wpP_bind (wpP_any (wpAny_of_eq F.madeHere_int ?_))
  refine wpP_false (by simp) ?_
  refine wpP_false (by simp) ?_
  refine wpP_bind (wpP_any (wpAny_of_eq (a := PUnit.unit) rfl ?_))
  refine wpP_bind (m := (int_private% "intFromObject") (.str bx t)) ?_
  have f3 := KIN.str_int
  have f4 := KIN.str_idx
  have f5 := KIN.str_trunc
  have f6 : typeOf (.str bx t) = pure (.type "str") := rfl
  refine wpP_bind (wpP_any ?_)
  obtain ⟨hp, g, d, tk, os⟩ := s
  repeat (first | assumption | wp_step)
  dsimp only
  refine wpP_bind (wpP_any ?_)
  repeat (first | assumption | wp_step)
  refine wpP_false (by decide) ?_
  refine wpP_bind (wpP_any ?_)
  repeat (first | assumption | wp_step)
  refine wpP_bind (wpP_any (wpAny_of_eq (a := some [120, 50]) (by kernel_rfl!) ?_))
  exact bad_x2 hh hS hE
/-- the statement of bad_call over its data -/
noncomputable def bad_call_P (A : Around) (S : Code → List (Code × Pos) → Prop) (E : Value → Shared → Prop) (s : Shared) (prog : Program) (w : World) (Q : Value → Shared → Prop) (t : Tok) (a : Args) : Prop :=
  ∀ (hh : A.handled = none) (hS : ∀ c l, S c l → c = .builtin "map.__next__" a) (hE : ∀ h' e tk, Heap.NewExc s.heap h' e "ValueError" → E (.ref e) { s with heap := h', toks := tk }), wpP (model prog w) A S (call (.type "int") [.str bx t]) Q E s
noncomputable def bad_call_R (p : Around × (Code → List (Code × Pos) → Prop) × (Value → Shared → Prop) × Shared × Program × World × (Value → Shared → Prop) × Tok × Args) : Prop := bad_call_P p.1 p.2.1 p.2.2.1 p.2.2.2.1 p.2.2.2.2.1 p.2.2.2.2.2.1 p.2.2.2.2.2.2.1 p.2.2.2.2.2.2.2.1 p.2.2.2.2.2.2.2.2
noncomputable def bad_call_c : Around × (Code → List (Code × Pos) → Prop) × (Value → Shared → Prop) × Shared × Program × World × (Value → Shared → Prop) × Tok × Args := pick (neP neA (neP inferInstance (neP inferInstance (neP neS (neP inferInstance (neP neW (neP inferInstance (neP inferInstance inferInstance)))))))) bad_call_R
theorem bad_call_core : bad_call_R bad_call_c := ((by
  intro A S E s prog w Q t a hh hS hE
  have ft := F.called_int
  obtain ⟨c, tl, hmro⟩ := ft.mro
  have hmade := ft.made
  refine wpP_call (S' := fun l => ∃ p r, l = (.builtin "map.__next__" a, p) :: r) (fun c l p h => ⟨p, l, by rw [hS c l h]⟩) (codeP_of_tree ?_)
  show wpP _ _ _ (callAny (.type "int") _) _ _ _
  refine wpP_pure ⟨Code.quiet_builtin _ (by decide +kernel), codeP_builtin F.entry_type_call ?_⟩
  unfold Builtin.«type.__call__»
  have h1 := ft.notType
  have h2 := ft.canCreate
  simp only [h1, h2, Bool.false_eq_true, if_false]
  refine wpP_bind (wpP_any (wpAny_of_eq (F.typeCall_int_1 _) ?_))
  refine wpP_bind (wpP_any (wpAny_of_eq hmro ?_))
  refine wpP_false (by simp) ?_
  refine wpP_bind (wpP_any (wpAny_of_eq hmade ?_))
  refine wpP_bind (wpP_pure ?_)
  refine wpP_bind (wpP_holding (wpP_call (S' := fun l => ∃ p q r, l = (.builtin "type.__call__" ⟨[.type "int", .str bx t], []⟩, q) :: (.builtin "map.__next__" a, p) :: r) ?_
    (codeP_call_builtin (plainId_quiet ft.plain _) F.entry_int_new (wpAny_of_eq (F.newCall_int_1 _) (bad_new hh ?_ hE)))))
  · rintro c l p ⟨rfl, q, r, rfl⟩
    exact ⟨q, p, r, rfl⟩
  · rintro c l ⟨rfl, p, q, r, rfl⟩
    unfold pythonCodeMadeTheCall
    simp [Code.env?]) : ∀ (A : Around) (S : Code → List (Code × Pos) → Prop) (E : Value → Shared → Prop) (s : Shared) (prog : Program) (w : World) (Q : Value → Shared → Prop) (t : Tok) (a : Args), bad_call_P A S E s prog w Q t a) _ _ _ _ _ _ _ _ _
theorem bad_call {Q : Value → Shared → Prop} {t : Tok} {a : Args} (hh : A.handled = none) (hS : ∀ c l, S c l → c = .builtin "map.__next__" a)
    (hE : ∀ h' e tk, Heap.NewExc s.heap h' e "ValueError" → E (.ref e) { s with heap := h', toks := tk }) :
    wpP (model prog w) A S (call (.type "int") [.str bx t]) Q E s :=
  (show bad_call_P A S E s prog w Q t a from close1 (R := bad_call_R) _ bad_call_core (A, S, E, s, prog, w, Q, t, a)) hh hS hE

end
end

section
set_option maxRecDepth 100000
theorem sub_value_stop : isSubtype (.type "ValueError") (.type "StopIteration") = pure false := by rw [isSubtype_type]; kernel_rfl
section
variable {prog : Program} {w : World} {A : Around} {E : Value → Shared → Prop} {s : Shared}
theorem map_bad {S : Code → List (Code × Pos) → Prop} {z TI it l : Addr} {i : Nat} {t : Tok} {xs : Array Value} {Q : Fin → Shared → Prop} {a : Args} (hh : A.handled = none) (hS : ∀ c l, S c l → c = .builtin "map.__next__" a)
    (M : MapAt s.heap z TI it l i (.type "int") xs) (hx : xs[i]? = some (.str bx t))
    (hE : ∀ h₁ h' e tk, Heap.SameBut it s.heap h₁ → Heap.NewExc h₁ h' e "ValueError" → E (.ref e) { s with heap := h', toks := tk }) :
    wpP (model prog w) A S (Builtin.«map.__next__» ⟨[.ref z], []⟩) Q E s := by
  show wpP _ _ _ (field (.ref z) 0 >>= _) _ _ _
  refine wpP_bind (wpP_any (wpAny_field M.hz rfl (x := .ref TI) rfl ?_))
  refine wpP_bind (wpP_any (wpAny_seqItems M.hTI rfl ?_))
  dsimp only
  refine wpP_bind (wpP_any ?_)
  simp only [List.forIn_toArray, List.forIn_cons, List.forIn_nil]
  refine wpAny_bind (wpAny_bind (wpAny_holding (wpAny_nextOf_list_item M.hit M.hl hx fun h' hit' hs' => wpAny_pure (wpAny_pure ?_))))
  have M' := M.step hit' hs'.extBut
  refine wpP_bind (wpP_any (wpAny_field M'.hz rfl (x := .type "int") rfl ?_))
  refine wpP_bind (wpP_holding ?_)
  show wpP _ _ _ (call (.type "int") [.str bx t]) _ _ _
  exact bad_call hh hS fun h₂ e tk hn => hE h' h₂ e tk hs' hn
theorem next_map_bad {z TI it l : Addr} {i : Nat} {t : Tok} {xs : Array Value} {Q : Option Value → Shared → Prop} (hh : A.handled = none) (M : MapAt s.heap z TI it l i (.type "int") xs) (hx : xs[i]? = some (.str bx t))
    (hE : ∀ h₁ h' e tk, Heap.SameBut it s.heap h₁ → Heap.NewExc h₁ h' e "ValueError" → E (.ref e) { s with heap := h', toks := tk }) :
    wpAny (model prog w) A (pyNext (.ref z)) Q E s := by
  have hT : s.TypeIs (.ref z) "map" := ⟨_, M.hz, rfl⟩
  unfold pyNext
  refine wpAny_bind (wpAny_attempt (wpAny_callSpecial?_slot (name := Str.ofString "__next__") hT MF.slot_map_next (wpAny_call (codeAny_of_P
    (codeP_call_builtin (plainId_quiet MF.slot_map_next.plain _) MF.entry_map_next (MF.slot_map_next.check _ _ _ _ _ _ _ _ hT (MF.args_map_next_1 _)
      (map_bad (a := ⟨[.ref z], []⟩) hh (fun c l h => h.1) M hx fun h₁ h' e tk hs hn => ?_)))))))
  obtain ⟨ob, tp, he, hc, hd⟩ := hn.there
  refine wpAny_bind (wpAny_isInstance (T := "ValueError") (b := false) ⟨ob, he, hc⟩ sub_value_stop ?_)
  rw [if_neg (by decide)]
  exact wpAny_throw (hE h₁ h' e tk hs hn)
theorem unpack_bad {z TI it l : Addr} {x : Str} {t u : Tok} {n : Int} {Q : List Value → Shared → Prop} (hh : A.handled = none) (M : MapAt s.heap z TI it l 0 (.type "int") #[.str x t, .str bx u])
    (hx : PySem.intText? x = some n) (hxl : x.length ≤ 640)
    (hE : ∀ h₁ h' e tk, Heap.ExtBut it s.heap h₁ → Heap.NewExc h₁ h' e "ValueError" → E (.ref e) { s with heap := h', toks := tk }) : wpAny (model prog w) A (unpackItems (.ref z) 2 none) Q E s := by
  have hT : s.TypeIs (.ref z) "map" := ⟨_, M.hz, rfl⟩
  unfold unpackItems
  refine wpAny_bind ?_
  unfold notIterableAtAll
  refine wpAny_bind (wpAny_specialOf hT MF.slot_map_iter.lookup ?_)
  refine wpAny_pure ?_
  simp only [Bool.false_eq_true, if_false]
  refine wpAny_bind (wpAny_holding (iter_map M ?_))
  refine wpAny_bind (wpAny_holding ?_)
  unfold draw
  refine wpAny_bind (next_map_item M rfl hx hxl fun h1 t1 k1 M1 s1 => ?_)
  dsimp only
  refine wpAny_bind (wpAny_holding ?_)
  unfold draw
  exact wpAny_bind (next_map_bad hh M1 rfl fun h2 h' e tk s2 hn => hE h2 h' e tk (fun b o hb q => s2.extBut b o hb (s1.extBut b o hb q)) hn)
end
end

section
theorem sepGlc : True := by
  w_top off
  trivial
local macro_rules | `(tactic| walk_at "M pad") => `(tactic| skip)
set_option maxRecDepth 100000
theorem fill_me10 : PySem.Challenge.rw_mr0234_01 = PySem.Challenge.rw_mr0234_01 ∧ Mine.hd.heap_1 = Mine.hd.heap_1 := by
  k_fill
  exact ⟨rfl, rfl⟩
variable {prog : Program} {w : World} {s : Shared} {base g : Heap} {fr : List Env} {gd : Option (List Code)}
  {p : Program} {loose : List Str} {mean : ExcName → Option Value} {mg mb : Str → Option Value}
set_option maxHeartbeats 4000000 in
set_option pp.deepTerms false in
set_option pp.deepTerms.threshold 6 in
set_option pp.maxSteps 1500 in
theorem glc_two {Q E : Value → Shared → Prop} {t : Tok} {ix : Str} {led : List (Addr × Obj)} {a b : Str} {x y : Int}
    (S : Std (AT 700 3000 fr gd) base fr g (Mine.hd.heap_1 w.params) p loose mean mg mb s.heap led)
    (hsp : Txt.split ix (Str.ofString ".") = [a, b]) (hx : PySem.intText? a = some x) (hxl : a.length ≤ 640) (hy : PySem.intText? b = some y) (hyl : b.length ≤ 640) (hl : ix.length ≤ 1000)
    (hret : ∀ (T : Addr) (h' : Heap) (tk' : Nat), s.heap.StaysIn h' → PairNew s.heap h' T x y → Q (.ref T) { s with heap := h', toks := tk' }) :
    wpAny (model prog w) (AT 700 3000 fr gd) (call (.ref 35) [.str ix t]) Q E s := by
  refine wpAny_call ?_
  k_dflt (refine' enterC ?kS ?k6 ?k7 ?k8 ?k9 ?kB ?_ ?c2 ?c3 ?c4 ?c5; (case kS => assumption); (case k6 => k_is); (case k7 => k_is); (case k8 => exact Nat.le_of_ble_eq_true rfl); (case k9 => exact BindsTo.of_eq rfl); (case c5 => decide); (case kB => exact locs rfl); (case c2 => exact rfl); (case c3 => exact rfl); (case c4 => exact rfl); k_whole; intro zzL' zzh' zzB' zzX' zzT' zzF' zzN'; (try dsimp only); (try k_fold))
  repeat' (first | (k_unfold; (try dsimp only)) | (k_end; wrow_close) | (first | ((with_reducible show wpAny _ _ (call (Value.builtin _) _) _ _ _); first | with_reducible (k_here; (with_reducible show wpAny _ _ (call (Value.builtin "str.split") _) _ _ _); (refine KSpl.split1 (by k_asm) (by k_asm) (by decide) ?_ (by rw [sizeLine_eq]; omega)); intro zzD' zzl' zzh' zzk' zze' zza' zzF' zzN' zzl1; (replace zze' := Eq.trans zze' (by assumption)); kspl_open zze'; simp only [strValues, List.map_cons, List.map_nil] at zzN' zza')) | walk1) | (dsimp only; (first | ((with_reducible show wpAny _ _ (call (Value.builtin _) _) _ _ _); first | with_reducible (k_here; (with_reducible show wpAny _ _ (call (Value.builtin "str.split") _) _ _ _); (refine KSpl.split1 (by k_asm) (by k_asm) (by decide) ?_ (by rw [sizeLine_eq]; omega)); intro zzD' zzl' zzh' zzk' zze' zza' zzF' zzN' zzl1; (replace zze' := Eq.trans zze' (by assumption)); kspl_open zze'; simp only [strValues, List.map_cons, List.map_nil] at zzN' zza')) | walk1)) | (leave1; walk_say "STEP leave1"; try dsimp only) | fail "no step")
  rename Fr _ _ _ _ => F9
  rename News _ _ _ _ => N9
  refine call_map (News.isList N9 (.head _)) ?_
  intro z TI it h9 M9 k9 i9
  dsimp only
  refine assign_two rfl rfl ?_
  refine unpack_two rfl M9 hx hxl hy hyl ?_
  intro h8 t8 u8 tk8 x8
  have k8 := stays_but i9 k9 x8
  have F8 := fr_stay F9 k8
  have N8 := cb_drop (news := led) (news_stay N9 k8) (fun q hq => .tail _ hq)
  clear F9 N9 M9
  repeat' (first | (k_unfold; (try dsimp only)) | (k_end; wrow_close) | (first | ((with_reducible show wpAny _ _ (call (Value.builtin _) _) _ _ _); first | with_reducible (k_here; (with_reducible show wpAny _ _ (call (Value.builtin "str.split") _) _ _ _); (refine KSpl.split1 (by k_asm) (by k_asm) (by decide) ?_ (by rw [sizeLine_eq]; omega)); intro zzD' zzl' zzh' zzk' zze' zza' zzF' zzN' zzl1; (replace zze' := Eq.trans zze' (by assumption)); kspl_open zze'; simp only [strValues, List.map_cons, List.map_nil] at zzN' zza')) | walk1) | (dsimp only; (first | ((with_reducible show wpAny _ _ (call (Value.builtin _) _) _ _ _); first | with_reducible (k_here; (with_reducible show wpAny _ _ (call (Value.builtin "str.split") _) _ _ _); (refine KSpl.split1 (by k_asm) (by k_asm) (by decide) ?_ (by rw [sizeLine_eq]; omega)); intro zzD' zzl' zzh' zzk' zze' zza' zzF' zzN' zzl1; (replace zze' := Eq.trans zze' (by assumption)); kspl_open zze'; simp only [strValues, List.map_cons, List.map_nil] at zzN' zza')) | walk1)) | (leave1; walk_say "STEP leave1"; try dsimp only) | fail "no step")
  rename Fr _ _ _ _ => F7
  rename News _ _ _ _ => N7
  change Q (Value.ref _) _
  refine hret _ _ _ (S.keeps F7 N7 (fun q hq => .tail _ hq)) ⟨S.freshN N7 (.head _) fun q hq z => ?_, _, _, _, N7.get (.head _)⟩
  rename ∀ (p : Addr × Obj), p ∈ led → p.1 < _ => l9
  exact absurd z (Nat.ne_of_lt (l9 q hq))
set_option maxHeartbeats 4000000 in
set_option pp.deepTerms false in
set_option pp.deepTerms.threshold 6 in
set_option pp.maxSteps 1500 in
theorem glc_few {Q E : Value → Shared → Prop} {t : Tok} {ix : Str} {led : List (Addr × Obj)} {a : Str} {x : Int}
    (S : Std (AT 700 3000 fr gd) base fr g (Mine.hd.heap_1 w.params) p loose mean mg mb s.heap led)
    (hsp : Txt.split ix (Str.ofString ".") = [a]) (hx : PySem.intText? a = some x) (hxl : a.length ≤ 640) (hl : ix.length ≤ 1000)
    (hE : ∀ e dx h' tk', Flew base g fr e (.type "ValueError") dx led h' → g.UpToSlots h' → E (.ref e) { s with heap := h', toks := tk' }) :
    wpAny (model prog w) (AT 700 3000 fr gd) (call (.ref 35) [.str ix t]) Q E s := by
  refine wpAny_call ?_
  k_dflt (refine' enterC ?kS ?k6 ?k7 ?k8 ?k9 ?kB ?_ ?c2 ?c3 ?c4 ?c5; (case kS => assumption); (case k6 => k_is); (case k7 => k_is); (case k8 => exact Nat.le_of_ble_eq_true rfl); (case k9 => exact BindsTo.of_eq rfl); (case c5 => decide); (case kB => exact locs rfl); (case c2 => exact rfl); (case c3 => exact rfl); (case c4 => exact rfl); k_whole; intro zzL' zzh' zzB' zzX' zzT' zzF' zzN'; (try dsimp only); (try k_fold))
  repeat' (first | (k_unfold; (try dsimp only)) | (k_end; wrow_close) | (first | ((with_reducible show wpAny _ _ (call (Value.builtin _) _) _ _ _); first | with_reducible (k_here; (with_reducible show wpAny _ _ (call (Value.builtin "str.split") _) _ _ _); (refine KSpl.split1 (by k_asm) (by k_asm) (by decide) ?_ (by rw [sizeLine_eq]; omega)); intro zzD' zzl' zzh' zzk' zze' zza' zzF' zzN' zzl1; (replace zze' := Eq.trans zze' (by assumption)); kspl_open zze'; simp only [strValues, List.map_cons, List.map_nil] at zzN' zza')) | walk1) | (dsimp only; (first | ((with_reducible show wpAny _ _ (call (Value.builtin _) _) _ _ _); first | with_reducible (k_here; (with_reducible show wpAny _ _ (call (Value.builtin "str.split") _) _ _ _); (refine KSpl.split1 (by k_asm) (by k_asm) (by decide) ?_ (by rw [sizeLine_eq]; omega)); intro zzD' zzl' zzh' zzk' zze' zza' zzF' zzN' zzl1; (replace zze' := Eq.trans zze' (by assumption)); kspl_open zze'; simp only [strValues, List.map_cons, List.map_nil] at zzN' zza')) | walk1)) | (leave1; walk_say "STEP leave1"; try dsimp only) | fail "no step")
  rename Fr _ _ _ _ => F9
  rename News _ _ _ _ => N9
  refine call_map (News.isList N9 (.head _)) ?_
  intro z TI it h9 M9 k9 i9
  dsimp only
  refine assign_two rfl rfl ?_
  refine unpack_few rfl M9 hx hxl ?_
  intro h8 h7 e7 tk7 x8 n8
  have k8 := stays_but i9 k9 x8
  have F8 := fr_stay F9 k8
  have N8 := cb_drop (news := led) (news_stay N9 k8) (fun q hq => .tail _ hq)
  clear F9 N9 M9
  refine fly_new S.B n8 F8 N8 rfl rfl fun h' dx R u => ?_
  exact hE _ dx h' _ R u
set_option maxHeartbeats 4000000 in
set_option pp.deepTerms false in
set_option pp.deepTerms.threshold 6 in
set_option pp.maxSteps 1500 in
theorem glc_many {Q E : Value → Shared → Prop} {t : Tok} {ix : Str} {led : List (Addr × Obj)} {a b c : Str} {x y z : Int}
    (S : Std (AT 700 3000 fr gd) base fr g (Mine.hd.heap_1 w.params) p loose mean mg mb s.heap led)
    (hsp : Txt.split ix (Str.ofString ".") = [a, b, c]) (hx : PySem.intText? a = some x) (hxl : a.length ≤ 640) (hy : PySem.intText? b = some y) (hyl : b.length ≤ 640) (hz : PySem.intText? c = some z) (hzl : c.length ≤ 640) (hl : ix.length ≤ 1000)
    (hE : ∀ e dx h' tk', Flew base g fr e (.type "ValueError") dx led h' → g.UpToSlots h' → E (.ref e) { s with heap := h', toks := tk' }) :
    wpAny (model prog w) (AT 700 3000 fr gd) (call (.ref 35) [.str ix t]) Q E s := by
  refine wpAny_call ?_
  k_dflt (refine' enterC ?kS ?k6 ?k7 ?k8 ?k9 ?kB ?_ ?c2 ?c3 ?c4 ?c5; (case kS => assumption); (case k6 => k_is); (case k7 => k_is); (case k8 => exact Nat.le_of_ble_eq_true rfl); (case k9 => exact BindsTo.of_eq rfl); (case c5 => decide); (case kB => exact locs rfl); (case c2 => exact rfl); (case c3 => exact rfl); (case c4 => exact rfl); k_whole; intro zzL' zzh' zzB' zzX' zzT' zzF' zzN'; (try dsimp only); (try k_fold))
  repeat' (first | (k_unfold; (try dsimp only)) | (k_end; wrow_close) | (first | ((with_reducible show wpAny _ _ (call (Value.builtin _) _) _ _ _); first | with_reducible (k_here; (with_reducible show wpAny _ _ (call (Value.builtin "str.split") _) _ _ _); (refine KSpl.split1 (by k_asm) (by k_asm) (by decide) ?_ (by rw [sizeLine_eq]; omega)); intro zzD' zzl' zzh' zzk' zze' zza' zzF' zzN' zzl1; (replace zze' := Eq.trans zze' (by assumption)); kspl_open zze'; simp only [strValues, List.map_cons, List.map_nil] at zzN' zza')) | walk1) | (dsimp only; (first | ((with_reducible show wpAny _ _ (call (Value.builtin _) _) _ _ _); first | with_reducible (k_here; (with_reducible show wpAny _ _ (call (Value.builtin "str.split") _) _ _ _); (refine KSpl.split1 (by k_asm) (by k_asm) (by decide) ?_ (by rw [sizeLine_eq]; omega)); intro zzD' zzl' zzh' zzk' zze' zza' zzF' zzN' zzl1; (replace zze' := Eq.trans zze' (by assumption)); kspl_open zze'; simp only [strValues, List.map_cons, List.map_nil] at zzN' zza')) | walk1)) | (leave1; walk_say "STEP leave1"; try dsimp only) | fail "no step")
  rename Fr _ _ _ _ => F9
  rename News _ _ _ _ => N9
  refine call_map (News.isList N9 (.head _)) ?_
  intro z TI it h9 M9 k9 i9
  dsimp only
  refine assign_two rfl rfl ?_
  refine unpack_many rfl M9 hx hxl hy hyl hz hzl ?_
  intro h8 h7 e7 tk7 x8 n8
  have k8 := stays_but i9 k9 x8
  have F8 := fr_stay F9 k8
  have N8 := cb_drop (news := led) (news_stay N9 k8) (fun q hq => .tail _ hq)
  clear F9 N9 M9
  refine fly_new S.B n8 F8 N8 rfl rfl fun h' dx R u => ?_
  exact hE _ dx h' _ R u
set_option maxHeartbeats 4000000 in
set_option pp.deepTerms false in
set_option pp.deepTerms.threshold 6 in
set_option pp.maxSteps 1500 in
theorem glc_bad {Q E : Value → Shared → Prop} {t : Tok} {ix : Str} {led : List (Addr × Obj)} {a : Str} {x : Int}
    (S : Std (AT 700 3000 fr gd) base fr g (Mine.hd.heap_1 w.params) p loose mean mg mb s.heap led)
    (hsp : Txt.split ix (Str.ofString ".") = [a, bx]) (hx : PySem.intText? a = some x) (hxl : a.length ≤ 640) (hl : ix.length ≤ 1000)
    (hE : ∀ e dx h' tk', Flew base g fr e (.type "ValueError") dx led h' → g.UpToSlots h' → E (.ref e) { s with heap := h', toks := tk' }) :
    wpAny (model prog w) (AT 700 3000 fr gd) (call (.ref 35) [.str ix t]) Q E s := by
  refine wpAny_call ?_
  k_dflt (refine' enterC ?kS ?k6 ?k7 ?k8 ?k9 ?kB ?_ ?c2 ?c3 ?c4 ?c5; (case kS => assumption); (case k6 => k_is); (case k7 => k_is); (case k8 => exact Nat.le_of_ble_eq_true rfl); (case k9 => exact BindsTo.of_eq rfl); (case c5 => decide); (case kB => exact locs rfl); (case c2 => exact rfl); (case c3 => exact rfl); (case c4 => exact rfl); k_whole; intro zzL' zzh' zzB' zzX' zzT' zzF' zzN'; (try dsimp only); (try k_fold))
  repeat' (first | (k_unfold; (try dsimp only)) | (k_end; wrow_close) | (first | ((with_reducible show wpAny _ _ (call (Value.builtin _) _) _ _ _); first | with_reducible (k_here; (with_reducible show wpAny _ _ (call (Value.builtin "str.split") _) _ _ _); (refine KSpl.split1 (by k_asm) (by k_asm) (by decide) ?_ (by rw [sizeLine_eq]; omega)); intro zzD' zzl' zzh' zzk' zze' zza' zzF' zzN' zzl1; (replace zze' := Eq.trans zze' (by assumption)); kspl_open zze'; simp only [strValues, List.map_cons, List.map_nil] at zzN' zza')) | walk1) | (dsimp only; (first | ((with_reducible show wpAny _ _ (call (Value.builtin _) _) _ _ _); first | with_reducible (k_here; (with_reducible show wpAny _ _ (call (Value.builtin "str.split") _) _ _ _); (refine KSpl.split1 (by k_asm) (by k_asm) (by decide) ?_ (by rw [sizeLine_eq]; omega)); intro zzD' zzl' zzh' zzk' zze' zza' zzF' zzN' zzl1; (replace zze' := Eq.trans zze' (by assumption)); kspl_open zze'; simp only [strValues, List.map_cons, List.map_nil] at zzN' zza')) | walk1)) | (leave1; walk_say "STEP leave1"; try dsimp only) | fail "no step")
  rename Fr _ _ _ _ => F9
  rename News _ _ _ _ => N9
  refine call_map (News.isList N9 (.head _)) ?_
  intro z TI it h9 M9 k9 i9
  dsimp only
  refine assign_two rfl rfl ?_
  refine unpack_bad rfl M9 hx hxl ?_
  intro h8 h7 e7 tk7 x8 n8
  have k8 := stays_but i9 k9 x8
  have F8 := fr_stay F9 k8
  have N8 := cb_drop (news := led) (news_stay N9 k8) (fun q hq => .tail _ hq)
  clear F9 N9 M9
  refine fly_new S.B n8 F8 N8 rfl rfl fun h' dx R u => ?_
  exact hE _ dx h' _ R u
end

section
set_option maxRecDepth 100000
theorem fill_me11 : PySem.Challenge.rw_mr0234_01 = PySem.Challenge.rw_mr0234_01 ∧ Mine.hd.heap_1 = Mine.hd.heap_1 := by
  k_fill
  exact ⟨rfl, rfl⟩
theorem depth_leC {M : Model} {A A' : Around} {c : Code} {R : Result → Shared → Prop} {s : Shared} (h : codeAny M A' c R s)
    (h1 : A.handled = A'.handled) (h2 : A.depth ≤ A'.depth) (h3 : A.frames = A'.frames) (h4 : A.guards = A'.guards) (h5 : A.units ≤ A'.units) : codeAny M A c R s :=
  fun Γ p hc hΓ => h Γ p hc ⟨h1 ▸ hΓ.1, Nat.le_trans hΓ.2.1 h2, h3 ▸ hΓ.2.2.1, h4 ▸ hΓ.2.2.2.1, Nat.le_trans hΓ.2.2.2.2 h5⟩
section
variable {prog : Program} {w : World} {A₀ : Around} {s : Shared} {base h₀ : Heap} {outer : List Env} {env : Env} {L : Addr} {m : Str → Option Value} {news : List (Addr × Obj)} {gd : Option (List Code)} {dp un : Nat}
  {p : Program} {loose : List Str} {mean : ExcName → Option Value} {mg mb : Str → Option Value} {Q E : Value → Shared → Prop} {ws : Str} {tw : Tok}
noncomputable abbrev wsW (x dx tn tc : Addr) (h1 h2 h3 h4 h5 : Int) (t1 t2 t3 t4 t5 u1 u2 u3 u6 : Tok) (e1 e2 e3 : Nat) (ws : Str) (vs : List Value) : List (Addr × Obj) :=
  wsL x dx tn tc h1 h2 h3 h4 h5 t1 t2 t3 t4 t5 u1 u2 u3 u6 e1 e2 e3 ws ((scT ws).n : Int) ((scT ws).nt : Int) ((scT ws).b : Int) vs (decide (((scT ws).cnt.length : Int) ≤ 1))
theorem ws_use (B : Below A₀ base outer h₀) (F : Fr h₀ L s.heap m) (X : (Mine.hd.heap_1 w.params).In h₀) (T : Top p loose mean mg mb h₀) (N : News h₀ L s.heap news)
    (hl : ws.length ≤ 50) (hd : dp ≤ 690) (hu : un ≤ 2990) (hf : env.frame = some L) (hke : env.scope.kind = .function)
    (h : ∀ (x dx tn tc : Addr) (h1 h2 h3 h4 h5 : Int) (t1 t2 t3 t4 t5 u1 u2 u3 u6 : Tok) (e1 e2 e3 : Nat) (vs : List Value) (h' : Heap) (tk' : Nat), Fr h₀ L h' m → News h₀ L h' (wsW x dx tn tc h1 h2 h3 h4 h5 t1 t2 t3 t4 t5 u1 u2 u3 u6 e1 e2 e3 ws vs ++ news) → IntsAre vs (scT ws).cnt →
      (∀ p ∈ news, p.1 < dx) → @LT.lt Nat _ dx x → @LT.lt Nat _ x tc → @LT.lt Nat _ tc tn → Q (.ref x) { s with heap := h', toks := tk' }) :
    wpAny (model prog w) { handled := none, depth := dp, frames := some (env :: outer), guards := gd, units := un } (call (.ref 138) [.str ws tw]) Q E s := by
  refine' call_cls F X N ?km ?ki ?kf (fun x dx h' F' N' l1 l2 => ?_)
  case km => k_is
  case ki => k_is
  case kf => k_is
  have S := std_of (A := AT 700 3000 (env :: outer) gd) (led := [(x, instObj 138 dx), (dx, dictOf [] 0)]) (s := { s with heap := h' }) B F' X T N' (fun q hq => by
    rcases List.mem_cons.mp hq with rfl | hq
    · exact .head _
    · rw [List.mem_singleton.mp hq]; exact .tail _ (.head _)) rfl hf hke
  refine depth_leC (A' := AT 700 3000 (env :: outer) gd) (init_spec l2 S hl fun tn tc h1 h2 h3 h4 h5 t1 t2 t3 t4 t5 u1 u2 u3 u6 e1 e2 e3 vs h'' tk' W => ?_) rfl ?_ rfl rfl ?_
  · have hdx := N' (dx, _) (.tail _ (.head _))
    have hLd : L ≠ dx := Ne.symm hdx.2.1
    have key : Q (.ref x) { s with heap := h'', toks := tk' } := by
      refine h x dx tn tc h1 h2 h3 h4 h5 t1 t2 t3 t4 t5 u1 u2 u3 u6 e1 e2 e3 vs h'' tk' ⟨?_, fun b o e => ?_, F'.above⟩ (fun q hq => ?_) W.isI l1 l2 W.lt1 W.lt2
      · obtain ⟨oL, es, ep, hL, r⟩ := F'.ns
        exact ⟨oL, es, ep, W.keep _ _ hLd hL, r⟩
      · exact W.keep b o (fun q => by rw [q, hdx.2.2] at e; cases e) (F'.keep b o e)
      · rcases List.mem_append.mp hq with hq | hq
        · refine ⟨W.has q hq, ?_⟩
          have hLx := (N' (x, _) (.head _)).2
          simp only [wsW, wsL, List.mem_cons, List.not_mem_nil, or_false] at hq
          have hnew : ∀ b : Addr, h'.get? b = none → b ≠ L ∧ h₀.get? b = none := fun b e => by
            refine ⟨fun q => ?_, kts_none F'.keep e⟩
            obtain ⟨oL, es, ep, hL, r⟩ := F'.ns
            rw [← q] at hL
            exact absurd (hL.symm.trans e) (by simp)
          rcases hq with rfl | rfl | rfl | rfl
          · exact hLx
          · exact hdx.2
          · exact hnew _ W.new1
          · exact hnew _ W.new2
        · have Nq := N' q (.tail _ (.tail _ hq))
          exact ⟨W.keep _ _ (Nat.ne_of_lt (l1 q hq)) Nq.1, Nq.2⟩
    exact ⟨rfl, key⟩
  · show dp + 1 ≤ 700
    omega
  · show un + 1 ≤ 3000
    omega
end
end

section
open PySem PySem.W PyProof.Rows PySem.Calls PyProof.Rows.LCg
set_option maxRecDepth 100000
/-- the entries of a comprehension, each with the objects that it made -/
noncomputable def ChOk (Res : Nat → Value → List (Addr × Obj) → Prop) : Nat → List Value → List (Addr × Obj) → Prop
  | _, [], ch => ch = []
  | i, z :: zs, ch => ∃ c1 c2, ch = c2 ++ c1 ∧ Res i z c1 ∧ ChOk Res (i + 1) zs c2
/-- one entry with its chunk -/
theorem chok_at {Res : Nat → Value → List (Addr × Obj) → Prop} {zs : List Value} : ∀ {i : Nat} {ch : List (Addr × Obj)}, ChOk Res i zs ch → ∀ (k : Nat) (z : Value), zs[k]? = some z → ∃ c, (∀ q ∈ c, q ∈ ch) ∧ Res (i + k) z c := by
  induction zs with
  | nil => exact fun _ _ _ h => nomatch h
  | cons y zs ih =>
    intro i ch R k z h
    obtain ⟨c1, c2, e, r, R⟩ := R
    rw [e]
    cases k with
    | zero =>
      cases h
      exact ⟨c1, fun q hq => List.mem_append_right _ hq, r⟩
    | succ k =>
      obtain ⟨c, hs, r'⟩ := ih R k z h
      rw [Nat.add_assoc, Nat.add_comm 1 k] at r'
      exact ⟨c, fun q hq => List.mem_append_left _ (hs q hq), r'⟩
/-- entries that are ints and made nothing -/
theorem chok_int {Res : Nat → Value → List (Addr × Obj) → Prop} {f : Nat → Int} (hr : ∀ i y c, Res i y c → c = [] ∧ ∃ t, y = .int (f i) t) {zs : List Value} : ∀ {i : Nat} {ch : List (Addr × Obj)}, ChOk Res i zs ch → ch = [] ∧ IntsAre zs ((List.range' i zs.length).map f) := by
  induction zs with
  | nil => exact fun h => ⟨h, .nil⟩
  | cons y zs ih =>
    intro i ch R
    obtain ⟨c1, c2, e, r, R⟩ := R
    obtain ⟨e1, t, e2⟩ := hr i y c1 r
    obtain ⟨e3, I⟩ := ih R
    rw [e, e1, e2, e3]
    exact ⟨rfl, .cons _ _ I⟩
section
variable {prog : Program} {w : World} {A : Around} {s : Shared} {h₀ : Heap} {L : Addr} {m : Str → Option Value} {env : Env} {elt : Expr} {x : Str} {scope : Scope} {cl : List (Str × Addr)} {S : List (Addr × Obj) → Prop} {P : Nat → Value → Prop}
  {Fin : List Value → List (Addr × Obj) → Prop} {Res : Nat → Value → List (Addr × Obj) → Prop}
theorem comp_chunk (mono : ∀ a b, S b → S (a ++ b))
    (step : ∀ i v I oI C oC D ys news m₂ h tk (E' : Value → Shared → Prop) (Q : Value → Shared → Prop), P i v → NsObj oC m₂ → m₂ x = some v → Fr h₀ L h m → News h₀ L h ((I, oI) :: (C, oC) :: (D, lst ys) :: news) →
      (∀ y ch h' tk', Fr h₀ L h' m → News h₀ L h' (ch ++ ((I, oI) :: (C, oC) :: (D, lst ys) :: news)) → (∀ q ∈ (I, oI) :: (C, oC) :: (D, lst ys) :: news, ∀ p ∈ ch, q.1 < p.1) → Res i y ch → Q y { s with heap := h', toks := tk' }) →
      wpAny (model prog w) A (eval elt (compEnvC scope cl C env)) Q E' { s with heap := h, toks := tk }) :
    ∀ (k i : Nat) (ys : List Value) (news : List (Addr × Obj)), S news →
      (∀ zs ch, zs.length = k → ChOk Res i zs ch → (∀ q ∈ news, ∀ p ∈ ch, q.1 < p.1) → Fin (ys ++ zs) (ch ++ news)) → CompRest prog w A h₀ L m env elt x scope cl s S P Fin k i ys news := by
  intro k
  induction k with
  | zero =>
    intro i ys news hS fin
    have := fin [] [] rfl rfl (fun _ _ _ h => nomatch h)
    rw [List.append_nil, List.nil_append] at this
    exact .zero this
  | succ k ih =>
    intro i ys news hS fin
    refine .succ fun v I oI C oC D m₂ h tk E' hP hC hx F N off ne => ?_
    refine step i v I oI C oC D ys news m₂ h tk E' _ hP hC hx F N fun y ch h' tk' F' N' lt R => ?_
    refine CompEnd.intro F' N' (ch ++ news) (fun p hp => ?_) (Off3.of fun p hp => ?_) (mono _ _ hS) ?_
    · rcases List.mem_cons.mp hp with rfl | hp
      · exact List.mem_append_right _ (.head _)
      rcases List.mem_cons.mp hp with rfl | hp
      · exact List.mem_append_right _ (.tail _ (.head _))
      rcases List.mem_cons.mp hp with rfl | hp
      · exact List.mem_append_right _ (.tail _ (.tail _ (.head _)))
      rcases List.mem_append.mp hp with hp | hp
      · exact List.mem_append_left _ hp
      · exact List.mem_append_right _ (.tail _ (.tail _ (.tail _ hp)))
    · rcases List.mem_append.mp hp with hp | hp
      · exact ⟨Nat.ne_of_gt (lt _ (.head _) p hp), Nat.ne_of_gt (lt _ (.tail _ (.head _)) p hp), Nat.ne_of_gt (lt _ (.tail _ (.tail _ (.head _))) p hp)⟩
      · exact off.mem p hp
    · refine ih (i + 1) (ys ++ [y]) (ch ++ news) (mono _ _ hS) fun zs ch' hz hch hlt => ?_
      have := fin (y :: zs) (ch' ++ ch) (by simp [hz]) ⟨ch, ch', rfl, R, hch⟩ fun q hq p hp => ?_
      · rw [List.append_assoc] at this ⊢
        exact this
      · rcases List.mem_append.mp hp with hp | hp
        · exact hlt q (List.mem_append_right _ hq) p hp
        · exact lt q (.tail _ (.tail _ (.tail _ hq))) p hp
end
theorem srcAt_mono {h₀ : Heap} {ax : Addr} {its : Array Value} (a b : List (Addr × Obj)) (h : SrcAt h₀ ax its b) : SrcAt h₀ ax its (a ++ b) := by
  rcases h with h | ⟨o, hm, r⟩
  · exact .inl h
  · exact .inr ⟨o, List.mem_append_right _ hm, r⟩
/-- a Whitespace whose objects lie in the ledger -/
structure WsR where
  (dx tn tc : Addr)
  (h1 h2 h3 h4 h5 : Int)
  (t1 t2 t3 t4 t5 u1 u2 u3 u6 : Tok)
  (e1 e2 e3 : Nat)
  vs : List Value
noncomputable def WsAt (news : List (Addr × Obj)) (x : Addr) (raw : Str) : Prop :=
  ∃ r : WsR, IntsAre r.vs (scT raw).cnt ∧ ∀ q ∈ wsW x r.dx r.tn r.tc r.h1 r.h2 r.h3 r.h4 r.h5 r.t1 r.t2 r.t3 r.t4 r.t5 r.u1 r.u2 r.u3 r.u6 r.e1 r.e2 r.e3 raw r.vs, q ∈ news
theorem WsAt.mono {news news' : List (Addr × Obj)} {x : Addr} {raw : Str} (h : WsAt news x raw) (k : ∀ q ∈ news, q ∈ news') : WsAt news' x raw :=
  h.elim fun r a => ⟨r, a.1, fun q hq => k q (a.2 q hq)⟩
section
variable {prog : Program} {w : World} {A₀ : Around} {s : Shared} {base h₀ : Heap} {outer : List Env} {env : Env} {L : Addr} {m : Str → Option Value} {news : List (Addr × Obj)} {gd : Option (List Code)} {dp un : Nat}
  {p : Program} {loose : List Str} {mean : ExcName → Option Value} {mg mb : Str → Option Value} {Q E : Value → Shared → Prop} {ws : Str} {tw : Tok}
/-- ws_use, the objects as one chunk -/
theorem ws_useC (B : Below A₀ base outer h₀) (F : Fr h₀ L s.heap m) (X : (Mine.hd.heap_1 w.params).In h₀) (T : Top p loose mean mg mb h₀) (N : News h₀ L s.heap news)
    (hl : ws.length ≤ 50) (hd : dp ≤ 690) (hu : un ≤ 2990) (hf : env.frame = some L) (hke : env.scope.kind = .function)
    (h : ∀ (x : Addr) (ch : List (Addr × Obj)) (h' : Heap) (tk' : Nat), Fr h₀ L h' m → News h₀ L h' (ch ++ news) → WsAt ch x ws → (∀ q ∈ news, ∀ p ∈ ch, q.1 < p.1) → Q (.ref x) { s with heap := h', toks := tk' }) :
    wpAny (model prog w) { handled := none, depth := dp, frames := some (env :: outer), guards := gd, units := un } (call (.ref 138) [.str ws tw]) Q E s :=
  ws_use B F X T N hl hd hu hf hke fun x dx tn tc h1 h2 h3 h4 h5 t1 t2 t3 t4 t5 u1 u2 u3 u6 e1 e2 e3 vs h' tk' F' N' hi l1 l2 l3 l4 =>
    h x _ h' tk' F' N' ⟨⟨dx, tn, tc, h1, h2, h3, h4, h5, t1, t2, t3, t4, t5, u1, u2, u3, u6, e1, e2, e3, vs⟩, hi, fun q hq => hq⟩ fun q hq p hp => by
      have a := l1 q hq
      simp only [wsW, wsL, List.mem_cons, List.not_mem_nil, or_false] at hp
      rcases hp with rfl | rfl | rfl | rfl
      · exact Nat.lt_trans a l2
      · exact a
      · exact Nat.lt_trans (Nat.lt_trans (Nat.lt_trans a l2) l3) l4
      · exact Nat.lt_trans (Nat.lt_trans a l2) l3
end
end

section
open PySem PySem.W PyProof.Rows PySem.Calls PyProof.Rows.LCg PyProof.Rows.LCt
set_option maxRecDepth 100000
/-- the entries of a comprehension with a test, each with the objects that it made -/
noncomputable def ChT (Res : Nat → Option Value → List (Addr × Obj) → Prop) : Nat → Nat → List Value → List (Addr × Obj) → Prop
  | 0, _, zs, ch => zs = [] ∧ ch = []
  | k + 1, i, zs, ch => ∃ o zs' c1 c2, zs = Option.toList o ++ zs' ∧ ch = c2 ++ c1 ∧ Res i o c1 ∧ ChT Res k (i + 1) zs' c2
section
variable {prog : Program} {w : World} {A : Around} {s : Shared} {h₀ : Heap} {L : Addr} {m : Str → Option Value} {env : Env} {ct elt : Expr} {x : Str} {scope : Scope} {cl : List (Str × Addr)} {S : List (Addr × Obj) → Prop} {P : Nat → Value → Prop}
  {Fin : List Value → List (Addr × Obj) → Prop} {Res : Nat → Option Value → List (Addr × Obj) → Prop}
theorem comp_end {I C D : Addr} {oI oC : Obj} {ys : List Value} {news ch : List (Addr × Obj)} {h h' : Heap} {tk tk' : Nat} {rest : Value → List (Addr × Obj) → Prop} {y : Value} (F' : Fr h₀ L h' m) (N' : News h₀ L h' (ch ++ ((I, oI) :: (C, oC) :: (D, lst ys) :: news)))
    (lt : ∀ q ∈ (I, oI) :: (C, oC) :: (D, lst ys) :: news, ∀ p ∈ ch, q.1 < p.1) (off : Off3 I C D news) (hS : S (ch ++ news)) (hr : rest y (ch ++ news)) : CompEnd h₀ L m { s with heap := h, toks := tk } I oI C oC D (lst ys) S rest y { s with heap := h', toks := tk' } := by
  refine CompEnd.intro F' N' (ch ++ news) (fun p hp => ?_) (Off3.of fun p hp => ?_) hS hr
  · rcases List.mem_cons.mp hp with rfl | hp
    · exact List.mem_append_right _ (.head _)
    rcases List.mem_cons.mp hp with rfl | hp
    · exact List.mem_append_right _ (.tail _ (.head _))
    rcases List.mem_cons.mp hp with rfl | hp
    · exact List.mem_append_right _ (.tail _ (.tail _ (.head _)))
    rcases List.mem_append.mp hp with hp | hp
    · exact List.mem_append_left _ hp
    · exact List.mem_append_right _ (.tail _ (.tail _ (.tail _ hp)))
  · rcases List.mem_append.mp hp with hp | hp
    · exact ⟨Nat.ne_of_gt (lt _ (.head _) p hp), Nat.ne_of_gt (lt _ (.tail _ (.head _)) p hp), Nat.ne_of_gt (lt _ (.tail _ (.tail _ (.head _))) p hp)⟩
    · exact off.mem p hp
theorem comp_chunkT {M : Nat} {news : List (Addr × Obj)} (mono : ∀ a b, S b → S (a ++ b))
    (step : ∀ i v I oI C oC D ys ch0 m₂ h tk (E' : Value → Shared → Prop) (Qy : Value → Shared → Prop) (Qn : Shared → Prop), i < M → P i v → NsObj oC m₂ → m₂ x = some v → Fr h₀ L h m → News h₀ L h ((I, oI) :: (C, oC) :: (D, lst ys) :: (ch0 ++ news)) →
      (∀ y ch h' tk', Fr h₀ L h' m → News h₀ L h' (ch ++ ((I, oI) :: (C, oC) :: (D, lst ys) :: (ch0 ++ news))) → (∀ q ∈ (I, oI) :: (C, oC) :: (D, lst ys) :: (ch0 ++ news), ∀ p ∈ ch, q.1 < p.1) → Res i (some y) ch → Qy y { s with heap := h', toks := tk' }) →
      (∀ h' tk', Fr h₀ L h' m → News h₀ L h' ((I, oI) :: (C, oC) :: (D, lst ys) :: (ch0 ++ news)) → Res i none [] → Qn { s with heap := h', toks := tk' }) →
      wpAny (model prog w) A (isTrue ct (compEnvC scope cl C env) (eval ct (compEnvC scope cl C env))) (fun ok s' => if ok = true then wpAny (model prog w) A (eval elt (compEnvC scope cl C env)) Qy E' s' else Qn s') E' { s with heap := h, toks := tk }) :
    ∀ (k i : Nat) (ys : List Value) (ch0 : List (Addr × Obj)), i + k ≤ M → S (ch0 ++ news) →
      (∀ zs ch, ChT Res k i zs ch → (∀ q ∈ ch0 ++ news, ∀ p ∈ ch, q.1 < p.1) → Fin (ys ++ zs) (ch ++ (ch0 ++ news))) → CompRestT prog w A h₀ L m env ct elt x scope cl s S P Fin k i ys (ch0 ++ news) := by
  intro k
  induction k with
  | zero =>
    intro i ys ch0 _ hS fin
    have := fin [] [] ⟨rfl, rfl⟩ (fun _ _ _ h => nomatch h)
    rw [List.append_nil, List.nil_append] at this
    exact CompRestT.zero this
  | succ k ih =>
    intro i ys ch0 hM hS fin
    refine CompRestT.succ fun v I oI C oC D m₂ h tk E' hP hC hx F N off ne => ?_
    refine step i v I oI C oC D ys ch0 m₂ h tk E' _ _ (by omega) hP hC hx F N (fun y ch h' tk' F' N' lt R => ?_) fun h' tk' F' N' R => ?_
    · refine comp_end F' N' lt off (mono _ _ hS) ?_
      rw [← List.append_assoc]
      refine ih (i + 1) (ys ++ [y]) (ch ++ ch0) (by omega) (by rw [List.append_assoc]; exact mono _ _ hS) fun zs ch' hch hlt => ?_
      have := fin (y :: zs) (ch' ++ ch) ⟨some y, zs, ch, ch', rfl, rfl, R, hch⟩ fun q hq p hp => ?_
      · rw [List.append_assoc] at this ⊢
        rw [List.append_assoc]
        exact this
      · rcases List.mem_append.mp hp with hp | hp
        · exact hlt q (by rw [List.append_assoc]; exact List.mem_append_right _ hq) p hp
        · exact lt q (.tail _ (.tail _ (.tail _ hq))) p hp
    · refine comp_end (ch := []) F' N' (fun _ _ _ h => nomatch h) off (by rw [List.nil_append]; exact hS) ?_
      rw [List.nil_append]
      refine ih (i + 1) ys ch0 (by omega) hS fun zs ch' hch hlt => ?_
      have := fin zs ch' ⟨none, zs, [], ch', rfl, (List.append_nil _).symm, R, hch⟩ hlt
      exact this
end
/-- ints that pass a test -/
noncomputable def ResI (T : Int → Bool) (a : Int) (i : Nat) (o : Option Value) (ch : List (Addr × Obj)) : Prop := ch = [] ∧ (T (a + (i : Int)) = true ∧ (∃ t, o = some (.int (a + (i : Int)) t)) ∨ T (a + (i : Int)) = false ∧ o = none)
theorem rangeKs_succ (a : Int) (k : Nat) : rangeKs a (k + 1) = a :: rangeKs (a + 1) k := by
  unfold rangeKs
  rw [List.range_succ_eq_map, List.map_cons, List.map_map]
  congr 1
  · exact Int.add_zero _
  · refine List.map_congr_left fun i _ => ?_
    show a + ((i + 1 : Nat) : Int) = a + 1 + (i : Int)
    omega
theorem chT_ints {T : Int → Bool} {a : Int} {k : Nat} : ∀ {i : Nat} {zs : List Value} {ch : List (Addr × Obj)}, ChT (ResI T a) k i zs ch → ch = [] ∧ IntsAre zs ((rangeKs (a + (i : Int)) k).filter T) := by
  induction k with
  | zero =>
    intro i zs ch h
    obtain ⟨h1, h2⟩ := h
    subst h1
    exact ⟨h2, .nil⟩
  | succ k ih =>
    intro i zs ch h
    obtain ⟨o, zs', c1, c2, e1, e2, ⟨e3, R⟩, r⟩ := h
    obtain ⟨e4, hI⟩ := ih r
    subst e1 e2 e3 e4
    refine ⟨rfl, ?_⟩
    have e : a + ((i + 1 : Nat) : Int) = a + (i : Int) + 1 := by omega
    rw [e] at hI
    rw [rangeKs_succ]
    rcases R with ⟨h, t, rfl⟩ | ⟨h, rfl⟩
    · rw [List.filter_cons_of_pos h]
      exact .cons _ _ hI
    · rw [List.filter_cons_of_neg (by simp [h])]
      exact hI
/-- triples of ints that pass a test -/
noncomputable def ResU (T : Int → Bool) (f g : Int → Int) (a : Int) (i : Nat) (o : Option Value) (ch : List (Addr × Obj)) : Prop :=
  T (a + (i : Int)) = true ∧ (∃ x t1 t2 t3 e, o = some (.ref x) ∧ ch = [(x, tupO [.int (a + (i : Int)) t1, .int (f (a + (i : Int))) t2, .int (g (a + (i : Int))) t3] e)]) ∨ T (a + (i : Int)) = false ∧ o = none ∧ ch = []
theorem chT_tups {T : Int → Bool} {f g : Int → Int} {a : Int} {k : Nat} : ∀ {i : Nat} {zs : List Value} {ch : List (Addr × Obj)}, ChT (ResU T f g a) k i zs ch →
    DatAll ch zs (((rangeKs (a + (i : Int)) k).filter T).map fun z => Dat.tuple [.int z, .int (f z), .int (g z)]) := by
  induction k with
  | zero =>
    intro i zs ch h
    obtain ⟨h1, h2⟩ := h
    subst h1
    exact .nil
  | succ k ih =>
    intro i zs ch h
    obtain ⟨o, zs', c1, c2, e1, e2, R, r⟩ := h
    have hI := ih r
    subst e1 e2
    have e : a + ((i + 1 : Nat) : Int) = a + (i : Int) + 1 := by omega
    rw [e] at hI
    rw [rangeKs_succ]
    have hI' := DatAll.mono (news' := c2 ++ c1) (fun q hq => List.mem_append_left _ hq) hI
    rcases R with ⟨h, x, t1, t2, t3, e, rfl, rfl⟩ | ⟨h, rfl, rfl⟩
    · rw [List.filter_cons_of_pos h]
      exact .cons (.tuple (List.mem_append_right _ (.head _)) (.cons (.int _ _) (.cons (.int _ _) (.cons (.int _ _) .nil)))) hI'
    · rw [List.filter_cons_of_neg (by simp [h])]
      exact hI'
end

section
open PySem PySem.W PyProof.Rows PySem.Calls PyProof.Rows.LCg PyProof.Rows.LCt
set_option maxRecDepth 100000
/-- the length of the i-th text -/
noncomputable def ResL (l : List (Str × Tok)) (i : Nat) (y : Value) (ch : List (Addr × Obj)) : Prop := ch = [] ∧ ∃ r u t, l[i]? = some (r, u) ∧ y = .int (r.length : Int) t
theorem chok_lens {l : List (Str × Tok)} {zs : List Value} {ch : List (Addr × Obj)} (h1 : zs.length = l.length) (R : ChOk (ResL l) 0 zs ch) : ch = [] ∧ IntsAre zs (l.map fun p => (p.1.length : Int)) := by
  have h := chok_int (f := fun i => ((l.map fun p => (p.1.length : Int))[i]?).getD 0) (fun i y c r => by
    obtain ⟨e, r, u, t, h1, h2⟩ := r
    refine ⟨e, t, ?_⟩
    rw [List.getElem?_map, h1, h2]
    rfl) R
  refine ⟨h.1, ?_⟩
  have e : (List.range' 0 zs.length).map (fun i => ((l.map fun p => (p.1.length : Int))[i]?).getD 0) = l.map fun p => (p.1.length : Int) := by
    refine List.ext_getElem (by simp [h1]) fun i h2 h3 => ?_
    rw [List.getElem_map, List.getElem_range', Nat.zero_add, Nat.one_mul, List.getElem?_eq_getElem h3]
    rfl
  rw [← e]
  exact h.2
section
variable {prog : Program} {w : World} {A : Around} {s : Shared} {h₀ : Heap} {L : Addr} {m : Str → Option Value} {env : Env} {ct elt : Expr} {x : Str} {scope : Scope} {cl : List (Str × Addr)}
  {Fin : List Value → List (Addr × Obj) → Prop}
theorem comp_lens {l : List (Str × Tok)} {ax : Addr} {news : List (Addr × Obj)} {n : Nat} (hn : n = l.length)
    (hS : SrcAt h₀ ax (strValues l).toArray news)
    (step : ∀ (i : Nat) (r : Str) (u : Tok) I oI C oC D ys news m₂ h tk (E' : Value → Shared → Prop) (Q : Value → Shared → Prop), l[i]? = some (r, u) → NsObj oC m₂ → m₂ x = some (.str r u) → Fr h₀ L h m → News h₀ L h ((I, oI) :: (C, oC) :: (D, lst ys) :: news) →
      (∀ t h' tk', Fr h₀ L h' m → News h₀ L h' ((I, oI) :: (C, oC) :: (D, lst ys) :: news) → Q (.int (r.length : Int) t) { s with heap := h', toks := tk' }) →
      wpAny (model prog w) A (eval elt (compEnvC scope cl C env)) Q E' { s with heap := h, toks := tk })
    (fin : ∀ zs, IntsAre zs (l.map fun p => (p.1.length : Int)) → Fin zs news) :
    CompRest prog w A h₀ L m env elt x scope cl s (SrcAt h₀ ax (strValues l).toArray) (fun i v => (strValues l).toArray[i]? = some v) Fin n 0 [] news := by
  refine comp_chunk (Res := ResL l) srcAt_mono ?_ n 0 [] news hS fun zs ch hz hch hlt => ?_
  · intro i v I oI C oC D ys news m₂ h tk E' Q hP hC hx F N hret
    have hP' : (strValues l)[i]? = some v := by simpa using hP
    unfold strValues at hP'
    rw [List.getElem?_map] at hP'
    cases e : l[i]? with
    | none => rw [e] at hP'; cases hP'
    | some p =>
      rw [e] at hP'
      cases hP'
      refine step i p.1 p.2 I oI C oC D ys news m₂ h tk E' Q e hC hx F N fun t h' tk' F' N' => ?_
      exact hret _ [] h' tk' F' N' (fun _ _ _ h => nomatch h) ⟨rfl, p.1, p.2, t, e, rfl⟩
  · obtain ⟨e, I⟩ := chok_lens (hz.trans hn) hch
    subst e
    exact fin zs I
/-- ints of a range that pass a test -/
theorem comp_ints {T : Int → Bool} {a : Int} {n : Nat} {news : List (Addr × Obj)} {Fin : List Value → List (Addr × Obj) → Prop}
    (step : ∀ (k : Int) t I oI C oC D ys m₂ h tk (E' : Value → Shared → Prop) (Qy : Value → Shared → Prop) (Qn : Shared → Prop) (nw : List (Addr × Obj)), a ≤ k → k < a + (n : Int) → NsObj oC m₂ → m₂ x = some (.int k t) → Fr h₀ L h m → News h₀ L h ((I, oI) :: (C, oC) :: (D, lst ys) :: (nw ++ news)) →
      (T k = true → ∀ h' tk', Fr h₀ L h' m → News h₀ L h' ((I, oI) :: (C, oC) :: (D, lst ys) :: (nw ++ news)) → Qy (.int k t) { s with heap := h', toks := tk' }) →
      (T k = false → ∀ h' tk', Fr h₀ L h' m → News h₀ L h' ((I, oI) :: (C, oC) :: (D, lst ys) :: (nw ++ news)) → Qn { s with heap := h', toks := tk' }) →
      wpAny (model prog w) A (isTrue ct (compEnvC scope cl C env) (eval ct (compEnvC scope cl C env))) (fun ok s' => if ok = true then wpAny (model prog w) A (eval elt (compEnvC scope cl C env)) Qy E' s' else Qn s') E' { s with heap := h, toks := tk })
    (fin : ∀ zs, IntsAre zs ((rangeKs a n).filter T) → Fin zs news) :
    CompRestT prog w A h₀ L m env ct elt x scope cl s (fun _ => True) (fun i v => ∃ t, v = .int (a + (i : Int)) t) Fin n 0 [] news := by
  refine comp_chunkT (M := n) (Res := ResI T a) (fun _ _ _ => trivial) ?_ n 0 [] [] (by omega) trivial fun zs ch hch hlt => ?_
  · rintro i v I oI C oC D ys ch0 m₂ h tk E' Qy Qn hi ⟨t, rfl⟩ hC hx F N hy hn
    refine step (a + (i : Int)) t I oI C oC D ys m₂ h tk E' Qy Qn ch0 (by omega) (by omega) hC hx F N (fun hT h' tk' F' N' => ?_) fun hT h' tk' F' N' => ?_
    · exact hy _ [] h' tk' F' N' (fun _ _ _ h => nomatch h) ⟨rfl, .inl ⟨hT, t, rfl⟩⟩
    · exact hn h' tk' F' N' ⟨rfl, .inr ⟨hT, rfl⟩⟩
  · obtain ⟨e, I⟩ := chT_ints hch
    subst e
    have e0 : a + ((0 : Nat) : Int) = a := by omega
    rw [e0] at I
    exact fin zs I
/-- triples for the ints of a range that pass a test -/
theorem comp_tups {T : Int → Bool} {f g : Int → Int} {a : Int} {n : Nat} {news : List (Addr × Obj)} {Fin : List Value → List (Addr × Obj) → Prop}
    (step : ∀ (k : Int) t I oI C oC D ys m₂ h tk (E' : Value → Shared → Prop) (Qy : Value → Shared → Prop) (Qn : Shared → Prop) (nw : List (Addr × Obj)), a ≤ k → k < a + (n : Int) → NsObj oC m₂ → m₂ x = some (.int k t) → Fr h₀ L h m → News h₀ L h ((I, oI) :: (C, oC) :: (D, lst ys) :: (nw ++ news)) →
      (T k = true → ∀ x t1 t2 t3 e h' tk', Fr h₀ L h' m → News h₀ L h' ((x, tupO [.int k t1, .int (f k) t2, .int (g k) t3] e) :: (I, oI) :: (C, oC) :: (D, lst ys) :: (nw ++ news)) → (∀ q ∈ (I, oI) :: (C, oC) :: (D, lst ys) :: (nw ++ news), q.1 < x) → Qy (.ref x) { s with heap := h', toks := tk' }) →
      (T k = false → ∀ h' tk', Fr h₀ L h' m → News h₀ L h' ((I, oI) :: (C, oC) :: (D, lst ys) :: (nw ++ news)) → Qn { s with heap := h', toks := tk' }) →
      wpAny (model prog w) A (isTrue ct (compEnvC scope cl C env) (eval ct (compEnvC scope cl C env))) (fun ok s' => if ok = true then wpAny (model prog w) A (eval elt (compEnvC scope cl C env)) Qy E' s' else Qn s') E' { s with heap := h, toks := tk })
    (fin : ∀ zs ch, DatAll ch zs (((rangeKs a n).filter T).map fun z => Dat.tuple [.int z, .int (f z), .int (g z)]) → (∀ q ∈ news, ∀ p ∈ ch, q.1 < p.1) → Fin zs (ch ++ news)) :
    CompRestT prog w A h₀ L m env ct elt x scope cl s (fun _ => True) (fun i v => ∃ t, v = .int (a + (i : Int)) t) Fin n 0 [] news := by
  refine comp_chunkT (M := n) (Res := ResU T f g a) (fun _ _ _ => trivial) ?_ n 0 [] [] (by omega) trivial fun zs ch hch hlt => ?_
  · rintro i v I oI C oC D ys ch0 m₂ h tk E' Qy Qn hi ⟨t, rfl⟩ hC hx F N hy hn
    refine step (a + (i : Int)) t I oI C oC D ys m₂ h tk E' Qy Qn ch0 (by omega) (by omega) hC hx F N (fun hT y t1 t2 t3 e h' tk' F' N' lt => ?_) fun hT h' tk' F' N' => ?_
    · exact hy _ [(y, _)] h' tk' F' N' (fun q hq p hp => by rw [List.mem_singleton.mp hp]; exact lt q hq) (.inl ⟨hT, y, t1, t2, t3, e, rfl, rfl⟩)
    · exact hn h' tk' F' N' (.inr ⟨hT, rfl, rfl⟩)
  · have I := chT_tups hch
    have e0 : a + ((0 : Nat) : Int) = a := by omega
    rw [e0] at I
    exact fin zs ch I hlt
end
end

section
set_option maxRecDepth 100000
/-- a list or a tuple -/
noncomputable def SeqO (o : Obj) : Prop := ∃ vs n, o.data = .seq vs n
/-- what v reads as, from the ledger's chunk and the ground's lists and tuples -/
noncomputable def RDV (h₀ : Heap) (ch : List (Addr × Obj)) (v : Value) (d : Dat) : Prop := ∀ h : Heap, (∀ b o, h₀.get? b = some o → SeqO o → h.get? b = some o) → (∀ q ∈ ch, h.get? q.1 = some q.2) → RD h v d
noncomputable def RDVs (h₀ : Heap) (ch : List (Addr × Obj)) (vs : List Value) (ds : List Dat) : Prop := ∀ h : Heap, (∀ b o, h₀.get? b = some o → SeqO o → h.get? b = some o) → (∀ q ∈ ch, h.get? q.1 = some q.2) → RDs h vs ds
theorem RDV.mono {h₀ : Heap} {ch ch' : List (Addr × Obj)} {v : Value} {d : Dat} (r : RDV h₀ ch v d) (k : ∀ q ∈ ch, q ∈ ch') : RDV h₀ ch' v d := fun h a b => r h a fun q hq => b q (k q hq)
theorem RDVs.mono {h₀ : Heap} {ch ch' : List (Addr × Obj)} {v : List Value} {d : List Dat} (r : RDVs h₀ ch v d) (k : ∀ q ∈ ch, q ∈ ch') : RDVs h₀ ch' v d := fun h a b => r h a fun q hq => b q (k q hq)
section
variable {h₀ h : Heap} {L : Addr} {m : Str → Option Value}
theorem seq_in (F : Fr h₀ L h m) {a : Addr} {o : Obj} (ho : h.get? a = some o) (hs : SeqO o) {ch : List (Addr × Obj)} (N : News h₀ L h ch) :
    ∃ ch', News h₀ L h ch' ∧ (∀ q ∈ ch, q ∈ ch') ∧ ∀ h' : Heap, (∀ b o, h₀.get? b = some o → SeqO o → h'.get? b = some o) → (∀ q ∈ ch', h'.get? q.1 = some q.2) → h'.get? a = some o := by
  cases z : h₀.get? a with
  | some o' =>
    have := F.keep _ _ z
    rw [ho] at this
    cases this
    exact ⟨ch, N, fun q hq => hq, fun h' k _ => k _ _ z hs⟩
  | none =>
    refine ⟨(a, o) :: ch, fun q hq => ?_, fun q hq => .tail _ hq, fun h' _ k => k _ (.head _)⟩
    rcases List.mem_cons.mp hq with rfl | hq
    · refine ⟨ho, fun q => ?_, z⟩
      obtain ⟨oL, es, ep, hL, hd, _⟩ := F.ns
      rw [show (a, o).1 = a from rfl] at q
      rw [← q, ho] at hL
      cases hL
      obtain ⟨vs, n, hv⟩ := hs
      rw [hd] at hv
      cases hv
    · exact N q hq
noncomputable def flatP : PyData → Bool
  | .list _ => false
  | .tuple _ => false
  | .dict _ => false
  | _ => true
theorem flat_reads {h h' : Heap} {v : Value} {x : PyData} {as : List Addr} (r : Reads h v x as) (hx : flatP x = true) : Reads h' v x as := by
  cases r with
  | none => exact .none
  | bool b => exact .bool b
  | int i t => exact .int i t
  | str x t => exact .str x t
  | list => exact nomatch hx
  | tuple => exact nomatch hx
  | dict => exact nomatch hx
theorem leaf_any {h h' : Heap} {d : Dat} {v : Value} (hx : flatP (kqdP d) = true) (r : RD h v d) : RD h' v d := r.elim fun as q => ⟨as, flat_reads q hx⟩
theorem flat_chunk {d : Dat} (hx : flatP (kqdP d) = true) (v : Value) (r : RD h v d) : ∃ ch, News h₀ L h ch ∧ RDV h₀ ch v d :=
  ⟨[], (fun _ h => nomatch h), fun _ _ _ => leaf_any hx r⟩
theorem rd_seq {v : Value} {ds : List Dat} (r : RD h v (.tuple ds)) : ∃ a o vs n, v = .ref a ∧ h.get? a = some o ∧ o.cls = .type "tuple" ∧ o.data = .seq vs n ∧ RDs h vs.toList ds := by
  obtain ⟨as, r⟩ := r
  cases r with
  | tuple ho hc hd ra => exact ⟨_, _, _, _, rfl, ho, hc, hd, _, ra⟩
theorem rd_lst {v : Value} {ds : List Dat} (r : RD h v (.list ds)) : ∃ a o vs n, v = .ref a ∧ h.get? a = some o ∧ o.cls = .type "list" ∧ o.data = .seq vs n ∧ RDs h vs.toList ds := by
  obtain ⟨as, r⟩ := r
  cases r with
  | list ho hc hd ra => exact ⟨_, _, _, _, rfl, ho, hc, hd, _, ra⟩
theorem rds_cons {vs : List Value} {d : Dat} {ds : List Dat} (r : RDs h vs (d :: ds)) : ∃ x r', vs = x :: r' ∧ RD h x d ∧ RDs h r' ds := by
  obtain ⟨as, r⟩ := r
  cases r with
  | cons r1 r2 => exact ⟨_, _, rfl, ⟨_, r1⟩, ⟨_, r2⟩⟩
theorem rds_nil {vs : List Value} (r : RDs h vs []) : vs = [] := by
  obtain ⟨as, r⟩ := r
  cases r
  rfl
theorem rd_chunk (F : Fr h₀ L h m) (d : Dat) : ∀ (v : Value), RD h v d → ∃ ch, News h₀ L h ch ∧ RDV h₀ ch v d := by
  refine Dat.rec (motive_1 := fun d => ∀ v, RD h v d → ∃ ch, News h₀ L h ch ∧ RDV h₀ ch v d) (motive_2 := fun ds => ∀ vs, RDs h vs ds → ∃ ch, News h₀ L h ch ∧ RDVs h₀ ch vs ds)
    (flat_chunk (d := .none) rfl) (fun b => flat_chunk (d := .bool b) rfl) (fun i => flat_chunk (d := .int i) rfl) (fun x => flat_chunk (d := .str x) rfl) (fun b => flat_chunk (d := .bytes b) rfl) ?_ ?_ ?_ ?_ d
  · intro ds ih v r
    obtain ⟨a, o, vs, n, e, ho, hc, hd, ra⟩ := rd_seq r
    obtain ⟨ch, N, rv⟩ := ih _ ra
    obtain ⟨ch', N', sub, k⟩ := seq_in F ho ⟨_, _, hd⟩ N
    refine ⟨ch', N', fun h' p q => ?_⟩
    obtain ⟨as', ra'⟩ := rv h' p fun y hy => q y (sub y hy)
    rw [e]
    exact ⟨_, .tuple (k h' p q) hc hd ra'⟩
  · intro ds ih v r
    obtain ⟨a, o, vs, n, e, ho, hc, hd, ra⟩ := rd_lst r
    obtain ⟨ch, N, rv⟩ := ih _ ra
    obtain ⟨ch', N', sub, k⟩ := seq_in F ho ⟨_, _, hd⟩ N
    refine ⟨ch', N', fun h' p q => ?_⟩
    obtain ⟨as', ra'⟩ := rv h' p fun y hy => q y (sub y hy)
    rw [e]
    exact ⟨_, .list (k h' p q) hc hd ra'⟩
  · intro vs r
    rw [rds_nil r]
    exact ⟨[], (fun _ h => nomatch h), fun _ _ _ => RDs.nil⟩
  · intro d ds ih1 ih2 vs r
    obtain ⟨x, r', e, r1, r2⟩ := rds_cons r
    obtain ⟨c1, N1, k1⟩ := ih1 _ r1
    obtain ⟨c2, N2, k2⟩ := ih2 _ r2
    rw [e]
    exact ⟨c1 ++ c2, fun q hq => (List.mem_append.mp hq).elim (N1 q) (N2 q), fun h' a b => RDs.cons (k1 h' a fun q hq => b q (List.mem_append_left _ hq)) (k2 h' a fun q hq => b q (List.mem_append_right _ hq))⟩
end
end

section
open PySem PySem.W PyProof.Rows PySem.Calls PyProof.Rows.LCg
set_option maxRecDepth 100000
theorem fill_me13 : PySem.Challenge.rw_mr0234_01 = PySem.Challenge.rw_mr0234_01 ∧ Mine.hd.heap_1 = Mine.hd.heap_1 := by
  k_fill
  exact ⟨rfl, rfl⟩
/-- the inner def of _law_prog, out of the top's part -/
noncomputable def sDef (K : Frag) : Option (Arguments × List Stmt × Scope) := match K.lookup 161 with
  | some ⟨_, _, .func fd, _⟩ => (match fd.body with
    | .stmts (_ :: _ :: .FunctionDef _ ps body _ _ _ scope _ _ _ :: _) => some (ps, body, scope)
    | _ => none)
  | _ => none
theorem sDef_of {K : Frag} {name qual nm bd : Str} {params ps : Arguments} {s1 s2 : Stmt} {r body : List Stmt} {ds : List Expr} {rt : Option Expr} {tp : List TypeParam} {scope sc : Scope} {ts : Option Scope} {pos : Pos} {dV kV doc pm cdv ct oc : Value} {an od : Option Addr} {osl : Array (Option Value)}
    (e : K.lookup 161 = some ⟨oc, od, .func (fnOf name qual params (s1 :: s2 :: .FunctionDef nm ps body ds rt tp sc ts bd pos :: r) scope dV kV doc pm an cdv ct), osl⟩) : sDef K = some (ps, body, sc) := by
  unfold sDef
  rw [e]
theorem use_eq {α : Type} {a b c : α} {P : Prop} (e : a = b) (h : a = c) (k : b = c → P) : P := k (e.symm.trans h)
end

section
open PySem PySem.W PyProof.Rows PySem.Calls PyProof.Rows.LCg
set_option maxRecDepth 100000
theorem fill_me14 : PySem.Challenge.rw_mr0234_01 = PySem.Challenge.rw_mr0234_01 ∧ Mine.hd.heap_1 = Mine.hd.heap_1 := by
  k_fill
  exact ⟨rfl, rfl⟩
theorem enterX {prog : Program} {w : World} {A : Around} {s : Shared} {base g : Heap} {fr : List Env} {K : Frag} {led : List (Addr × Obj)}
  {p : Program} {loose : List Str} {mean : ExcName → Option Value} {mg mb : Str → Option Value} {R : Result → Shared → Prop} {name qual : Str} {params : Arguments} {body : List Stmt} {scope : Scope} {cl : List (Str × Addr)} {dV doc pm ctv : Value} {c' f : Addr} {args : Args} {binds : List (Str × Value)}
    (S : Std A base fr g K p loose mean mg mb s.heap led)
    (ho : (f, kdv_obj name qual params (.stmts body) scope cl dV doc pm c' ctv) ∈ led) (hcd : s.heap.CodeRec (.ref c') qual) (hroom : A.depth < recursionLimit)
    (hbind : BindsTo s (kdv_fn name qual params (.stmts body) scope cl dV doc pm (.ref c') ctv) args binds) (hloc : ∀ y ∈ binds, scope.names.lookup y.1 = some .local)
    (h : ∀ L' h₁, Below A base fr g → K.In g → Top p loose mean mg mb g → Fr g L' h₁ (fun y => binds.reverse.lookup y) → News g L' h₁ led → s.heap.StaysIn h₁ →
      wpAny (model prog w) (A.deeper (envX qual scope L' f (.ref c') cl)) (execs body (envX qual scope L' f (.ref c') cl))
        (fun fl s' => R (.ok (.ret (match fl with | .ret v => v | _ => .none))) s')
        (fun e s' => wpAny (model prog w) (A.deeper (envX qual scope L' f (.ref c') cl)) (leaving (envX qual scope L' f (.ref c') cl) e) (fun _ s'' => R (.error e) s'') (fun e' s'' => R (.error e') s'') s')
        { s with heap := h₁, toks := s.toks + binds.length })
    (hco : scope.isCoroutine = false) (hgen : scope.isGenerator = false) (hk : scope.kind = .function)
    (hcell : ∀ x ∈ scope.names, x.2 ≠ .cell) : codeAny (model prog w) A (.call (.ref f) args) R s := by
  refine codeAny_call_function hroom (S.N _ ho).1 rfl hco hgen rfl hcd (hbind _ _ _ _ ?_)
  refine wpAny_newFunctionEnv hcell hloc (fun h₁ hns hsb => ⟨((S.T.nolimit).keeps S.sub).fresh _ hsb, codeAny_func ?_⟩) hk
  have hk₁ : ∀ b o, s.heap.get? b = some o → h₁.get? b = some o := fun b o e => hsb.extBut b o (Nat.ne_of_lt (Heap.lt_size e)) (Heap.get?_push_of_some _ e)
  exact h s.heap.objs.size h₁ S.B S.X S.T ⟨hns, fun b o e => hk₁ b o (S.sub _ _ e), Nat.le_of_eq S.size⟩ (fun q hq => ⟨hk₁ _ _ (S.N q hq).1, Nat.ne_of_lt (Heap.lt_size (S.N q hq).1), (S.N q hq).2⟩) hk₁
theorem sub_right {a b : List (Addr × Obj)} : ∀ q ∈ b, q ∈ a ++ b := fun _ h => List.mem_append_right _ h
theorem sub_tail {x : Addr × Obj} {a b : List (Addr × Obj)} (h : ∀ q ∈ a, q ∈ b) : ∀ q ∈ a, q ∈ x :: b := fun q hq => .tail _ (h q hq)
theorem sub_app {a b c : List (Addr × Obj)} (h : ∀ q ∈ a, q ∈ b) : ∀ q ∈ a, q ∈ c ++ b := fun q hq => List.mem_append_right _ (h q hq)
theorem sub_apl {a b c : List (Addr × Obj)} (h : ∀ q ∈ a, q ∈ b) : ∀ q ∈ a, q ∈ b ++ c := fun q hq => List.mem_append_left _ (h q hq)
end

section
open PySem PySem.W PyProof.Rows PySem.Calls PyProof.Rows.LCg
set_option maxRecDepth 100000
noncomputable def smS (r : Str) : Bool := decide (((scT r).cnt.length : Int) ≤ 1)
noncomputable def lessS (a b : Str) : Bool := lessOf ((scT a).n : Int) ((scT a).nt : Int) ((scT a).b : Int) (scT a).cnt (smS a) ((scT b).n : Int) ((scT b).nt : Int) ((scT b).b : Int) (scT b).cnt (smS b)
noncomputable def eqS (a b : Str) : Bool := decide ((scT a).cnt = (scT b).cnt ∧ ((scT a).b : Int) = ((scT b).b : Int))
noncomputable def witS (a b : Str) : List Dat := witOf (max (longestOf (scT a).cnt ((scT a).b : Int)) (longestOf (scT b).cnt ((scT b).b : Int)) + 1 + 1 - 1) (scT a).cnt ((scT a).b : Int) ((scT a).nt : Int) (scT b).cnt ((scT b).b : Int) ((scT b).nt : Int)
theorem scT_facts {r : Str} (h : r.length ≤ 50) : (scT r).b ≤ 50 ∧ (scT r).n ≤ 50 ∧ (scT r).nt ≤ 50 ∧ (scT r).cnt.length ≤ 50 ∧ ∀ k ∈ (scT r).cnt, 0 ≤ k ∧ k ≤ (50 : Int) := by
  have hl : (r.cps.toList.takeWhile blankB).length ≤ 50 := Nat.le_trans (List.takeWhile_sublist _).length_le (by simpa [Str.length] using h)
  obtain ⟨a, b, c, d, e⟩ := scan_facts (r.cps.toList.takeWhile blankB)
  unfold scT
  refine ⟨by omega, by omega, by omega, by omega, fun k hk => ?_⟩
  have := e k hk
  omega
section
variable {prog : Program} {w : World} {A₀ : Around} {s : Shared} {base h₀ : Heap} {outer : List Env} {env : Env} {L : Addr} {m : Str → Option Value} {news : List (Addr × Obj)} {gd : Option (List Code)} {dp un : Nat}
  {p : Program} {loose : List Str} {mean : ExcName → Option Value} {mg mb : Str → Option Value} {Q E : Value → Shared → Prop} {x y : Addr} {rx ry : Str}
theorem app_sub {a b c : List (Addr × Obj)} (h1 : ∀ q ∈ a, q ∈ c) (h2 : ∀ q ∈ b, q ∈ c) : ∀ q ∈ a ++ b, q ∈ c := fun q hq => (List.mem_append.mp hq).elim (h1 q) (h2 q)
theorem wide {l : List Int} (h : ∀ k ∈ l, 0 ≤ k ∧ k ≤ (50 : Int)) : ∀ k ∈ l, 0 ≤ k ∧ k ≤ (100 : Int) := fun k hk => by have := h k hk; omega
theorem less_useW (B : Below A₀ base outer h₀) (F : Fr h₀ L s.heap m) (X : (Mine.hd.heap_1 w.params).In h₀) (T : Top p loose mean mg mb h₀) (N : News h₀ L s.heap news)
    (W1 : WsAt news x rx) (W2 : WsAt news y ry) (l1 : rx.length ≤ 50) (l2 : ry.length ≤ 50) (hd : dp ≤ 600) (hu : un ≤ 2000) (hf : env.frame = some L) (hke : env.scope.kind = .function)
    (h : ∀ h' tk', Fr h₀ L h' m → News h₀ L h' news → s.heap.StaysIn h' → Q (.bool (lessS rx ry)) { s with heap := h', toks := tk' }) :
    wpAny (model prog w) { handled := none, depth := dp, frames := some (env :: outer), guards := gd, units := un } (call (.ref 128) [.ref x, .ref y]) Q E s := by
  obtain ⟨_, hi, hm⟩ := W1
  obtain ⟨_, hi', hm'⟩ := W2
  obtain ⟨a1, a2, a3, a4, a5⟩ := scT_facts l1
  obtain ⟨b1, b2, b3, b4, b5⟩ := scT_facts l2
  exact depth_le (A' := AT 600 2000 (env :: outer) gd) (less_spec (std_of B F X T N (app_sub hm hm') rfl hf hke) hi (by omega) (wide a5) ⟨by omega, by omega⟩ hi' (by omega) (wide b5) ⟨by omega, by omega⟩
    fun h' tk' k => h h' tk' (fr_stay F k) (news_stay N k) k) rfl hd rfl rfl hu
theorem equal_useW (B : Below A₀ base outer h₀) (F : Fr h₀ L s.heap m) (X : (Mine.hd.heap_1 w.params).In h₀) (T : Top p loose mean mg mb h₀) (N : News h₀ L s.heap news)
    (W1 : WsAt news x rx) (W2 : WsAt news y ry) (l1 : rx.length ≤ 50) (l2 : ry.length ≤ 50) (hd : dp ≤ 600) (hu : un ≤ 2000) (hf : env.frame = some L) (hke : env.scope.kind = .function)
    (h : ∀ h' tk', Fr h₀ L h' m → News h₀ L h' news → s.heap.StaysIn h' → Q (.bool (eqS rx ry)) { s with heap := h', toks := tk' }) :
    wpAny (model prog w) { handled := none, depth := dp, frames := some (env :: outer), guards := gd, units := un } (call (.ref 114) [.ref x, .ref y]) Q E s := by
  obtain ⟨_, hi, hm⟩ := W1
  obtain ⟨_, hi', hm'⟩ := W2
  obtain ⟨a1, a2, a3, a4, a5⟩ := scT_facts l1
  obtain ⟨b1, b2, b3, b4, b5⟩ := scT_facts l2
  exact depth_le (A' := AT 600 2000 (env :: outer) gd) (equal_spec (std_of B F X T N (app_sub hm hm') rfl hf hke) hi (by omega) (wide a5) ⟨by omega, by omega⟩ hi' (by omega) (wide b5) ⟨by omega, by omega⟩
    fun h' tk' k => h h' tk' (fr_stay F k) (news_stay N k) k) rfl hd rfl rfl hu
theorem nequal_useW (B : Below A₀ base outer h₀) (F : Fr h₀ L s.heap m) (X : (Mine.hd.heap_1 w.params).In h₀) (T : Top p loose mean mg mb h₀) (N : News h₀ L s.heap news)
    (W1 : WsAt news x rx) (W2 : WsAt news y ry) (l1 : rx.length ≤ 50) (l2 : ry.length ≤ 50) (hd : dp ≤ 600) (hu : un ≤ 2000) (hf : env.frame = some L) (hke : env.scope.kind = .function)
    (h : ∀ l ch h' tk', Fr h₀ L h' m → News h₀ L h' (ch ++ news) → s.heap.StaysIn h' → RDV h₀ ch (.ref l) (.list (witS rx ry)) → Q (.ref l) { s with heap := h', toks := tk' }) :
    wpAny (model prog w) { handled := none, depth := dp, frames := some (env :: outer), guards := gd, units := un } (call (.ref 121) [.ref x, .ref y]) Q E s := by
  obtain ⟨_, hi, hm⟩ := W1
  obtain ⟨_, hi', hm'⟩ := W2
  obtain ⟨a1, a2, a3, a4, a5⟩ := scT_facts l1
  obtain ⟨b1, b2, b3, b4, b5⟩ := scT_facts l2
  refine depth_le (A' := AT 600 2000 (env :: outer) gd) (nequal_spec (std_of B F X T N (app_sub hm hm') rfl hf hke) hi (by omega) (wide a5) ⟨by omega, by omega⟩ hi' (by omega) (wide b5) ⟨by omega, by omega⟩
    fun l h' tk' k r => ?_) rfl hd rfl rfl hu
  have F' := fr_stay F k
  obtain ⟨ch, N', rv⟩ := rd_chunk F' _ _ r
  exact h l ch h' tk' F' (fun q hq => (List.mem_append.mp hq).elim (N' q) (news_stay N k q)) k rv
end
end

section
open PySem PySem.W PyProof.Rows PySem.Calls PyProof.Rows.LCg
set_option maxRecDepth 100000
/-- how a row's rest reads: a line number, or spoilt -/
inductive RowK (ix : Str) : Option Int → Prop
  | two {a : Str} {x : Int} : Txt.split ix (Str.ofString ".") = [a, Str.ofString "2"] → PySem.intText? a = some x → a.length ≤ 640 → RowK ix (some x)
  | few {a : Str} {x : Int} : Txt.split ix (Str.ofString ".") = [a] → PySem.intText? a = some x → a.length ≤ 640 → RowK ix none
  | many {a b c : Str} {x y z : Int} : Txt.split ix (Str.ofString ".") = [a, b, c] → PySem.intText? a = some x → a.length ≤ 640 → PySem.intText? b = some y → b.length ≤ 640 → PySem.intText? c = some z → c.length ≤ 640 → RowK ix none
  | bad {a : Str} {x : Int} : Txt.split ix (Str.ofString ".") = [a, bx] → PySem.intText? a = some x → a.length ≤ 640 → RowK ix none
theorem int_two : PySem.intText? (Str.ofString "2") = some 2 := by decide +kernel
section
variable {prog : Program} {w : World} {A₀ : Around} {s : Shared} {base h₀ : Heap} {outer : List Env} {env : Env} {L : Addr} {m : Str → Option Value} {news : List (Addr × Obj)} {gd : Option (List Code)} {dp un : Nat}
  {p : Program} {loose : List Str} {mean : ExcName → Option Value} {mg mb : Str → Option Value} {Q E : Value → Shared → Prop} {ix : Str} {t : Tok}
theorem fr_hide (F : Fr h₀ L s.heap m) (N : News h₀ L s.heap news) : Fr h₀ L (hideAll s.heap (news.map (·.1))) m := by
  have nm : ∀ b o, h₀.get? b = some o → b ∉ news.map (·.1) := fun b o e q => by
    obtain ⟨p, hp, rfl⟩ := List.mem_map.mp q
    rw [(N p hp).2.2] at e; cases e
  refine ⟨?_, fun b o e => hideAll_get _ (F.keep b o e) (nm b o e), F.above⟩
  obtain ⟨oL, es, ep, hL, r⟩ := F.ns
  refine ⟨oL, es, ep, hideAll_get _ hL fun q => ?_, r⟩
  obtain ⟨p, hp, e⟩ := List.mem_map.mp q
  exact (N p hp).2.1 e
theorem glc_twoU {a b : Str} {x y : Int} (B : Below A₀ base outer h₀) (F : Fr h₀ L s.heap m) (X : (Mine.hd.heap_1 w.params).In h₀) (T : Top p loose mean mg mb h₀) (N : News h₀ L s.heap news)
    (hsp : Txt.split ix (Str.ofString ".") = [a, b]) (hx : PySem.intText? a = some x) (hxl : a.length ≤ 640) (hy : PySem.intText? b = some y) (hyl : b.length ≤ 640) (hl : ix.length ≤ 1000) (hd : dp ≤ 700) (hu : un ≤ 3000) (hf : env.frame = some L) (hke : env.scope.kind = .function)
    (ret : ∀ (T : Addr) (t u : Tok) (e : Nat) (h' : Heap) (tk' : Nat), Fr h₀ L h' m → News h₀ L h' ((T, tupO [.int x t, .int y u] e) :: news) → (∀ q ∈ news, q.1 ≠ T) → s.heap.StaysIn h' → Q (.ref T) { s with heap := h', toks := tk' }) :
    wpAny (model prog w) { handled := none, depth := dp, frames := some (env :: outer), guards := gd, units := un } (call (.ref 35) [.str ix t]) Q E s := by
  refine depth_le (A' := AT 700 3000 (env :: outer) gd) ?_ rfl hd rfl rfl hu
  have S := std_of (A := AT 700 3000 (env :: outer) gd) (led := news) B F X T N (fun q hq => hq) rfl hf hke
  refine glc_two S hsp hx hxl hy hyl hl fun T9 h' tk' k P => ?_
  obtain ⟨hn, t1, u1, e1, hT⟩ := P
  refine ret T9 t1 u1 e1 h' tk' (fr_stay F k) (fun q hq => ?_) (fun q hq z => ?_) k
  · rcases List.mem_cons.mp hq with rfl | hq
    · refine ⟨hT, fun z => ?_, kts_none F.keep hn⟩
      obtain ⟨oL, es, ep, hL, _⟩ := F.ns
      rw [show (T9, tupO [Value.int x t1, Value.int y u1] e1).1 = T9 from rfl] at z
      rw [← z, hn] at hL; cases hL
    · exact news_stay N k q hq
  · have := (N q hq).1
    rw [z, hn] at this; cases this
theorem glc_useK {o : Option Int} (B : Below A₀ base outer h₀) (F : Fr h₀ L s.heap m) (X : (Mine.hd.heap_1 w.params).In h₀) (T : Top p loose mean mg mb h₀) (N : News h₀ L s.heap news)
    (hk : RowK ix o) (hl : ix.length ≤ 1000) (hd : dp ≤ 700) (hu : un ≤ 3000) (hf : env.frame = some L) (hke : env.scope.kind = .function)
    (ret : ∀ x, o = some x → ∀ (T : Addr) (t u : Tok) (e : Nat) (h' : Heap) (tk' : Nat), Fr h₀ L h' m → News h₀ L h' ((T, tupO [.int x t, .int 2 u] e) :: news) → (∀ q ∈ news, q.1 ≠ T) → s.heap.StaysIn h' → Q (.ref T) { s with heap := h', toks := tk' })
    (err : o = none → ∀ e dx g₂ h' tk', Fr h₀ L g₂ m → Flew base g₂ (env :: outer) e (.type "ValueError") dx news h' → g₂.UpToSlots h' → E (.ref e) { s with heap := h', toks := tk' }) :
    wpAny (model prog w) { handled := none, depth := dp, frames := some (env :: outer), guards := gd, units := un } (call (.ref 35) [.str ix t]) Q E s := by
  have S := std_of (A := AT 700 3000 (env :: outer) gd) (led := news) B F X T N (fun q hq => hq) rfl hf hke
  have FG := fr_hide F N
  cases hk with
  | two hsp hx hxl => exact glc_twoU B F X T N hsp hx hxl int_two (by decide) hl hd hu hf hke (ret _ rfl)
  | few hsp hx hxl => exact depth_le (A' := AT 700 3000 (env :: outer) gd) (glc_few S hsp hx hxl hl fun e dx h' tk' R u => err rfl e dx _ h' tk' FG R u) rfl hd rfl rfl hu
  | many hsp hx hxl hy hyl hz hzl => exact depth_le (A' := AT 700 3000 (env :: outer) gd) (glc_many S hsp hx hxl hy hyl hz hzl hl fun e dx h' tk' R u => err rfl e dx _ h' tk' FG R u) rfl hd rfl rfl hu
  | bad hsp hx hxl => exact depth_le (A' := AT 700 3000 (env :: outer) gd) (glc_bad S hsp hx hxl hl fun e dx h' tk' R u => err rfl e dx _ h' tk' FG R u) rfl hd rfl rfl hu
end
end

section
open PySem PySem.W PyProof.Rows PySem.Calls PyProof.Rows.LCg
set_option maxRecDepth 100000
/-- the ledger's chunk of the table of _law_hit -/
noncomputable def TabC (tc : List (Addr × Obj)) : Prop := tc = [(151, tabObj #[])] ∨ ∃ a1 o1 a2 o2, tc = [(151, tabObj (tab2 a1 a2)), (a1, o1), (a2, o2)] ∧ CodeO o1 ∧ CodeO o2 ∧ a2 ≠ 151
theorem TabC.has {tc : List (Addr × Obj)} (h : TabC tc) : ∃ ps, (151, tabObj ps) ∈ tc := by
  rcases h with rfl | ⟨a1, o1, a2, o2, rfl, _⟩
  · exact ⟨_, .head _⟩
  · exact ⟨_, .head _⟩
theorem codeO_of {h : Heap} {a : Addr} (c : h.CodeRec (.ref a) (Str.ofString "_law_hit.<locals>.<lambda>")) : ∃ o, h.get? a = some o ∧ CodeO o := by
  obtain ⟨c, o, vs, t, e, ho, d, v⟩ := c
  cases e
  exact ⟨o, ho, vs, t, d, v⟩
section
variable {prog : Program} {w : World} {A₀ : Around} {s : Shared} {base h₀ : Heap} {outer : List Env} {env : Env} {L : Addr} {m : Str → Option Value} {tc news : List (Addr × Obj)} {gd : Option (List Code)} {dp un : Nat}
  {p : Program} {loose : List Str} {mean : ExcName → Option Value} {mg mb : Str → Option Value} {Q E : Value → Shared → Prop} {a b : Int} {t u : Tok}
noncomputable def offT (ch : List (Addr × Obj)) : List (Addr × Obj) := ch.filter fun q => !(q.1 == 151)
theorem offT_ne {ch : List (Addr × Obj)} : ∀ q ∈ offT ch, q.1 ≠ 151 := fun q hq => by
  have := (List.mem_filter.mp hq).2
  simpa using this
theorem offT_mem {ch : List (Addr × Obj)} {q : Addr × Obj} (h : q ∈ offT ch) : q ∈ ch := (List.mem_filter.mp h).1
theorem mem_offT {ch : List (Addr × Obj)} {q : Addr × Obj} (h : q ∈ ch) (n : q.1 ≠ 151) : q ∈ offT ch := List.mem_filter.mpr ⟨h, by simpa using n⟩
theorem HitC.off {w : World} {ch : List (Addr × Obj)} {f : Addr} {a b : Int} (H : HitC w ch f a b) : HitC w (offT ch) f a b := fun h x => H h fun q hq n => x q (mem_offT hq n) n
theorem HitC.off1 {w : World} {x : Addr × Obj} {ch : List (Addr × Obj)} {f : Addr} {a b : Int} (H : HitC w (x :: ch) f a b) : HitC w (x :: offT ch) f a b := fun h y => H h fun q hq n => by
  rcases List.mem_cons.mp hq with rfl | hq
  · exact y _ (.head _) n
  · exact y q (.tail _ (mem_offT hq n)) n
theorem fr_but1 {h h' : Heap} (F : Fr h₀ L h m) (k : ButT h h') (h1 : L ≠ 151) (h2 : h₀.get? 151 = none) : Fr h₀ L h' m :=
  ⟨let ⟨oL, es, ep, hL, r⟩ := F.ns; ⟨oL, es, ep, k _ _ h1 hL, r⟩, fun b o e => k b o (fun z => by rw [z, h2] at e; cases e) (F.keep b o e), F.above⟩
theorem hit_use (B : Below A₀ base outer h₀) (F : Fr h₀ L s.heap m) (X : (Mine.hd.heap_1 w.params).In h₀) (T : Top p loose mean mg mb h₀) (N : News h₀ L s.heap (tc ++ news)) (C : CodeHd h₀ 155 151) (ht : TabC tc) (hne : ∀ q ∈ news, q.1 ≠ 151)
    (hd : dp ≤ 700) (hu : un ≤ 3000) (hf : env.frame = some L) (hke : env.scope.kind = .function)
    (h : ∀ f ch tc' h' tk', Fr h₀ L h' m → News h₀ L h' (tc' ++ (ch ++ news)) → TabC tc' → HitC w ch f a b → (∀ q ∈ ch, q.1 ≠ 151) → s.heap.get? f = none → ButT s.heap h' → Q (.ref f) { s with heap := h', toks := tk' }) :
    wpAny (model prog w) { handled := none, depth := dp, frames := some (env :: outer), guards := gd, units := un } (call (.ref 156) [.int a t, .int b u]) Q E s := by
  have key : ∀ ps, (151, tabObj ps) ∈ tc → Std (AT 700 3000 (env :: outer) gd) base (env :: outer) (hideAll s.heap ([(151, tabObj ps)].map (·.1))) (Mine.hd.heap_1 w.params) p loose mean mg mb s.heap [(151, tabObj ps)] :=
    fun ps hm => std_of (A := AT 700 3000 (env :: outer) gd) B F X T N (fun q hq => by rw [List.mem_singleton.mp hq]; exact List.mem_append_left _ hm) rfl hf hke
  refine depth_le (A' := AT 700 3000 (env :: outer) gd) ?_ rfl hd rfl rfl hu
  rcases ht with rfl | ⟨a1, o1, a2, o2, rfl, k1, k2, k3⟩
  · have N0 := N _ (List.mem_append_left _ (.head _))
    have st : h₀.StaysIn (hideAll s.heap ([(151, tabObj #[])].map (·.1))) := fun b o e => hideAll_get _ (F.keep b o e) fun z => by
      rw [List.map_cons, List.map_nil, List.mem_singleton] at z
      rw [z, N0.2.2] at e; cases e
    have new : ∀ a : Addr, s.heap.get? a = none → a ≠ L ∧ h₀.get? a = none := fun a n => by
      refine ⟨fun z => ?_, kts_none F.keep n⟩
      obtain ⟨oL, es, ep, hL, _⟩ := F.ns
      rw [← z, n] at hL
      cases hL
    refine hit_first (key _ (.head _)) (C.keeps st) fun f a1 a2 ch h' tk' k e c1 c2 n1 n2 hch H fr => ?_
    have F' := fr_but1 F k (Ne.symm N0.2.1) N0.2.2
    obtain ⟨o1, e1, d1⟩ := codeO_of c1
    obtain ⟨o2, e2, d2⟩ := codeO_of c2
    have na2 : a2 ≠ 151 := fun z => by rw [z] at n2; exact absurd (N0.1.symm.trans n2) (by simp)
    refine h f (offT ch) [(151, tabObj (tab2 a1 a2)), (a1, o1), (a2, o2)] h' tk' F' (fun q hq => ?_) (.inr ⟨a1, o1, a2, o2, rfl, d1, d2, na2⟩) H.off offT_ne fr k
    rcases List.mem_append.mp hq with hq | hq
    · simp only [List.mem_cons, List.not_mem_nil, or_false] at hq
      rcases hq with rfl | rfl | rfl
      · exact ⟨e, N0.2⟩
      · exact ⟨e1, new _ n1⟩
      · exact ⟨e2, new _ n2⟩
    rcases List.mem_append.mp hq with hq | hq
    · have := hch q (offT_mem hq) (offT_ne q hq)
      exact ⟨this.1, new _ this.2⟩
    · have Nq := N q (List.mem_append_right _ hq)
      exact ⟨k _ _ (hne q hq) Nq.1, Nq.2⟩
  · have N0 := N _ (List.mem_append_left _ (.head _))
    have st : h₀.StaysIn (hideAll s.heap ([(151, tabObj (tab2 a1 a2))].map (·.1))) := fun b o e => hideAll_get _ (F.keep b o e) fun z => by
      rw [List.map_cons, List.map_nil, List.mem_singleton] at z
      rw [z, N0.2.2] at e; cases e
    have new : ∀ a : Addr, s.heap.get? a = none → a ≠ L ∧ h₀.get? a = none := fun a n => by
      refine ⟨fun z => ?_, kts_none F.keep n⟩
      obtain ⟨oL, es, ep, hL, _⟩ := F.ns
      rw [← z, n] at hL
      cases hL
    have na2 := k3
    refine hit_again (key _ (.head _)) (C.keeps st) k2 na2 fun f ch h' tk' k hch H fr => ?_
    refine h f ((a2, o2) :: offT ch) _ h' tk' (fr_stay F k) (fun q hq => ?_) (.inr ⟨a1, o1, a2, o2, rfl, k1, k2, k3⟩) H.off1 (fun q hq => ?_) fr (.of k)
    · rcases List.mem_append.mp hq with hq | hq
      · exact news_stay N k q (List.mem_append_left _ hq)
      rcases List.mem_append.mp hq with hq | hq
      · rcases List.mem_cons.mp hq with rfl | hq
        · exact news_stay N k _ (List.mem_append_left _ (.tail _ (.tail _ (.head _))))
        · have := hch q (offT_mem hq) (offT_ne q hq)
          exact ⟨this.1, new _ this.2⟩
      · exact news_stay N k q (List.mem_append_right _ hq)
    · rcases List.mem_cons.mp hq with rfl | hq
      · exact na2
      · exact offT_ne q hq
end
end

section
open PySem PySem.W PyProof.Rows PySem.Calls PyProof.Rows.LCg
set_option maxRecDepth 100000
/-- a row, where it begins, how its rest reads -/
structure RowD where
  raw : Str
  beg : Int
  o : Option Int
/-- what a search comes to -/
inductive Out where
  | none
  | hit (a b : Int)
  | nag (k : Int) (wit : List Dat) (row : Str)
  | bad
noncomputable def RowD.fin (d : RowD) : Int := d.beg + (d.raw.length : Int)
noncomputable def rowOut (bes : Str) (begin : Int) (k : Nat) (d : RowD) : Option Out :=
  if begin < d.fin then
    match d.o with
    | none => some .bad
    | some line =>
      if lessS bes d.raw = true then (if line ≤ 2 then some (.hit (max d.beg begin) d.fin) else none)
      else if lessS d.raw bes = false ∧ eqS d.raw bes = false then some (.nag ((k : Int) + 1) (witS bes d.raw) d.raw) else none
  else none
noncomputable def searchL (bes : Str) (begin : Int) : Nat → List RowD → Out
  | _, [] => .none
  | k, d :: r => match rowOut bes begin k d with
    | some o => o
    | none => searchL bes begin (k + 1) r
theorem searchL_at {bes : Str} {begin : Int} {l : List RowD} : ∀ {k j : Nat} {d : RowD} {o : Out}, (∀ i, i < j → ∀ d, l[i]? = some d → rowOut bes begin (k + i) d = none) → l[j]? = some d → rowOut bes begin (k + j) d = some o → searchL bes begin k l = o := by
  induction l with
  | nil => exact fun _ h _ => nomatch h
  | cons c r ih =>
    intro k j d o hb h ho
    cases j with
    | zero =>
      cases h
      unfold searchL
      rw [Nat.add_zero] at ho
      rw [ho]
    | succ j =>
      have h0 := hb 0 (Nat.succ_pos _) c rfl
      rw [Nat.add_zero] at h0
      have e : searchL bes begin k (c :: r) = searchL bes begin (k + 1) r := by
        rw [searchL, h0]
      rw [e]
      refine ih (j := j) (fun i hi d hd => ?_) h ?_
      · rw [Nat.add_assoc, Nat.add_comm 1 i]
        exact hb (i + 1) (Nat.succ_lt_succ hi) d hd
      · rw [Nat.add_assoc, Nat.add_comm 1 j]
        exact ho
theorem searchL_none {bes : Str} {begin : Int} : ∀ {l : List RowD} {k : Nat}, (∀ i d, l[i]? = some d → rowOut bes begin (k + i) d = none) → searchL bes begin k l = .none
  | [], _, _ => rfl
  | c :: r, k, hb => by
    unfold searchL
    have h0 := hb 0 c rfl
    rw [Nat.add_zero] at h0
    rw [h0]
    refine searchL_none fun i d hd => ?_
    have := hb (i + 1) d hd
    rwa [Nat.add_assoc, Nat.add_comm 1 i]
/-- the sound part of a row -/
noncomputable def restS (r : Str) : Str := Txt.slice r (some ((scT r).n : Int)) none
structure RowOk (d : RowD) : Prop where
  len : d.raw.length ≤ 50
  b0 : 0 ≤ d.beg
  b1 : d.beg ≤ 1000
  reads : RowK (restS d.raw) d.o
/-- the rows as the search meets them -/
noncomputable def RowsAt (led : List (Addr × Obj)) (D : List RowD) (vs bs ls : List Value) : Prop :=
  ∀ (k : Nat) (d : RowD), D[k]? = some d → RowOk d ∧ ∃ t tb x, vs[k]? = some (Value.str d.raw t) ∧ bs[k]? = some (Value.int d.beg tb) ∧ ls[k]? = some (Value.ref x) ∧ WsAt led x d.raw
end

local macro_rules | `(tactic| walk_at "M sub") => `(tactic| first | exact fun _ h => h | (refine' sub_tail ?ms; (case ms => walk_at "M sub")) | (refine' sub_app ?ms; (case ms => walk_at "M sub")) | (refine' sub_apl ?ms; (case ms => walk_at "M sub")))
section
theorem sepSe2 : True := by
  w_top off
  trivial
open PySem PySem.W PyProof.Rows PySem.Calls PyProof.Rows.LCg
set_option maxRecDepth 100000
theorem fill_me15 : PySem.Challenge.rw_mr0234_01 = PySem.Challenge.rw_mr0234_01 ∧ Mine.hd.heap_1 = Mine.hd.heap_1 := by
  k_fill
  exact ⟨rfl, rfl⟩
theorem Std.at {A : Around} {K : Frag} {base g h : Heap} {fr : List Env} {p : Program} {loose : List Str} {mean : ExcName → Option Value} {mg mb : Str → Option Value} {led : List (Addr × Obj)} {a : Addr} {o : Obj} (S : Std A base fr g K p loose mean mg mb h led) (hm : (a, o) ∈ led) : h.get? a = some o := (S.N _ hm).1
theorem memL {a : Addr × Obj} {l r : List (Addr × Obj)} (h : a ∈ l) : List.Mem a (l ++ r) := List.mem_append_left _ h
theorem memR {a : Addr × Obj} {l r : List (Addr × Obj)} (h : a ∈ r) : List.Mem a (l ++ r) := List.mem_append_right _ h
theorem memV {a : Addr × Obj} {l : List (Addr × Obj)} (h : a ∈ l) : List.Mem a l := h
set_option hygiene false in
local macro_rules | `(tactic| k_mem) => `(tactic| first | (refine memL ?_; k_mem) | (refine memR ?_; k_mem) | (refine memV ?_; ktr_member))
section
variable {prog : Program} {w : World} {A : Around} {E : Value → Shared → Prop} {s : Shared} {Q : Value → Shared → Prop}
theorem len_lst {l : Addr} {vs : List Value} {n : Nat} {h₀ : Heap} {L : Addr} {news : List (Addr × Obj)} {e : Nat} (N : News h₀ L s.heap news) (hm : (l, W.listOf vs.toArray e) ∈ news) (hv : vs.length = n) (hn : n ≤ 1000)
    (h : Q (.int n (s.toks + 1)) { s with toks := s.toks + 1 + 1 }) : wpAny (model prog w) A (call (.builtin "len") [.ref l]) Q E s := by
  refine len_list (News.isList N hm) (by rw [List.size_toArray, hv]; omega) ?_
  rw [List.size_toArray, hv]; exact h
theorem item_lst {value slice : PySem.Expr} {l : Addr} {vs : List Value} {h₀ : Heap} {L : Addr} {news : List (Addr × Obj)} {e : Nat} {k : Int} {u : Tok} {x : Value} (N : News h₀ L s.heap news) (hm : (l, W.listOf vs.toArray e) ∈ news)
    (h0 : 0 ≤ k) (hfit : k < 1000) (hx : vs[k.toNat]? = some x) (h : Q x s)
    (hs : subscripted slice false (.ref l) (.int k u) = operate [.ref l, .int k u] (getItem (.ref l) (.int k u)) := by with_unfolding_all rfl) (hg : ∀ r, letTemporaryGo value (.ref l) r = pure () := by intro _; with_unfolding_all rfl) :
    wpAny (model prog w) A (subscriptTail value slice (.ref l) (.int k u)) Q E s :=
  item_list (News.isList N hm) h0 (by omega) (by simpa using hx) h hs hg
end
set_option hygiene false in
local macro_rules | `(tactic| walk_at "eval Name") => `(tactic| (k_here; (with_reducible show wpAny _ _ (eval (Expr.Name _ _) (envX _ _ _ _ _ _)) _ _ _); k_dflt (refine' nameX_F ?zqN ?zqc ?zqm ?zqd ?_ ?zqa ?zqb; (case zqa | zqb => rfl); (case zqN => k_asm); (case zqc => rfl); (case zqm => k_mem); (case zqd => assumption); k_whole)))
set_option hygiene false in
local macro_rules | `(tactic| walk_at "call builtin:len") => `(tactic| (k_here; (with_reducible show wpAny _ _ (call (Value.builtin "len") [Value.ref _]) _ _ _); k_dflt (refine' len_lst ?zqk1 ?zqk2 ?zqk3 ?zqk4 ?_; (case zqk1 => k_asm); (case zqk2 => k_mem); (case zqk3 => assumption); (case zqk4 => decide); k_whole)))
set_option hygiene false in
local macro_rules | `(tactic| walk_at "subscriptTail") => `(tactic| (k_here; (with_reducible show wpAny _ _ (subscriptTail _ _ (Value.ref _) (Value.int _ _)) _ _ _); k_dflt (refine' item_lst ?zqk1 ?zqk2 ?zqk3 ?zqk4 ?zqk5 ?_; (case zqk1 => k_asm); (case zqk2 => k_mem); (case zqk3 | zqk4 => omega); (case zqk5 => assumption); k_whole)))
set_option hygiene false in
local macro_rules | `(tactic| walk_at "call ref") => `(tactic| (k_here; (with_reducible show wpAny _ _ (call (Value.ref 35) _) _ _ _); k_dflt (refine' glc_useK ?zqB ?zqF ?zqX ?zqT ?zqN ?zqh ?zql ?zqd ?zqu ?zqf ?zqk ?_ ?_; (case zqB | zqF | zqX | zqT | zqN => k_asm); (case zqh => assumption); (case zql => omega); (case zqd | zqu => exact Nat.le_of_ble_eq_true rfl); (case zqf | zqk => exact rfl)); ((focus intro zzx9' zzex9' zzT' zzt' zzu' zze' zzh' zztk' zzF' zzN' zzne' zzK'; (try dsimp only); (try k_sweep); (try k_fold)); rotate_left; (focus intro zzeo9' zze9' zzdx9' zzg9' zzh' zztk' zzF' zzR9' zzU9'); rotate_right)))
set_option hygiene false in
local macro_rules | `(tactic| walk_at "call ref") => `(tactic| (k_here; (with_reducible show wpAny _ _ (call (Value.ref 128) _) _ _ _); k_dflt (refine' less_useW ?zqB ?zqF ?zqX ?zqT ?zqN ?zqw1 ?zqw2 ?zql1 ?zql2 ?zqd ?zqu ?zqf ?zqk ?_; (case zqB | zqF | zqX | zqT | zqN => k_asm); (case zqw1 | zqw2 => exact WsAt.mono (by assumption) (by walk_at "M sub")); (case zql1 | zql2 => assumption); (case zqd | zqu => exact Nat.le_of_ble_eq_true rfl); (case zqf | zqk => exact rfl); k_whole); intro zzh' zztk' zzF' zzN' zzK'; (try dsimp only); (try k_sweep); (try k_fold)))
set_option hygiene false in
local macro_rules | `(tactic| walk_at "call ref") => `(tactic| (k_here; (with_reducible show wpAny _ _ (call (Value.ref 114) _) _ _ _); k_dflt (refine' equal_useW ?zqB ?zqF ?zqX ?zqT ?zqN ?zqw1 ?zqw2 ?zql1 ?zql2 ?zqd ?zqu ?zqf ?zqk ?_; (case zqB | zqF | zqX | zqT | zqN => k_asm); (case zqw1 | zqw2 => exact WsAt.mono (by assumption) (by walk_at "M sub")); (case zql1 | zql2 => assumption); (case zqd | zqu => exact Nat.le_of_ble_eq_true rfl); (case zqf | zqk => exact rfl); k_whole); intro zzh' zztk' zzF' zzN' zzK'; (try dsimp only); (try k_sweep); (try k_fold)))
set_option hygiene false in
local macro_rules | `(tactic| walk_at "call ref") => `(tactic| (k_here; (with_reducible show wpAny _ _ (call (Value.ref 121) _) _ _ _); k_dflt (refine' nequal_useW ?zqB ?zqF ?zqX ?zqT ?zqN ?zqw1 ?zqw2 ?zql1 ?zql2 ?zqd ?zqu ?zqf ?zqk ?_; (case zqB | zqF | zqX | zqT | zqN => k_asm); (case zqw1 | zqw2 => exact WsAt.mono (by assumption) (by walk_at "M sub")); (case zql1 | zql2 => assumption); (case zqd | zqu => exact Nat.le_of_ble_eq_true rfl); (case zqf | zqk => exact rfl); k_whole); intro zzlw' zzch' zzh' zztk' zzF' zzN' zzK' zzR'; (try dsimp only); (try k_sweep); (try k_fold)))
variable {prog : Program} {w : World} {s : Shared} {base g : Heap} {fr : List Env} {gd : Option (List Code)}
  {p : Program} {loose : List Str} {mean : ExcName → Option Value} {mg mb : Str → Option Value}
theorem Flew.drop {base G : Heap} {l : List Env} {e : Addr} {cls : Value} {dx : Option Addr} {news news' : List (Addr × Obj)} {h : Heap} (R : Flew base G l e cls dx news h) (k : ∀ q ∈ news', q ∈ news) : Flew base G l e cls dx news' h := by
  obtain ⟨⟨B, a0, h1, h2, h3, h4⟩, r⟩ := R
  exact ⟨⟨B, a0, h1, h2, fun q hq => h3 q (k q hq), h4⟩, r⟩
section
variable {bes : Str} {begin : Int} {k : Nat} {d : RowD} {x : Int}
theorem rowOut_skip (h : ¬ begin < d.beg + (d.raw.length : Int)) : rowOut bes begin k d = none := by
  unfold rowOut RowD.fin; rw [if_neg h]
theorem rowOut_big (h : begin < d.beg + (d.raw.length : Int)) (ho : d.o = some x) (hl : lessS bes d.raw = true) (hx : ¬ x ≤ 2) : rowOut bes begin k d = none := by
  unfold rowOut RowD.fin; rw [if_pos h, ho]; dsimp only; rw [if_pos hl, if_neg hx]
theorem rowOut_less (h : begin < d.beg + (d.raw.length : Int)) (ho : d.o = some x) (hl : lessS bes d.raw = false) (h2 : lessS d.raw bes = true) : rowOut bes begin k d = none := by
  unfold rowOut RowD.fin; rw [if_pos h, ho]; dsimp only; rw [hl, if_neg (by decide), h2, if_neg (by simp)]
theorem rowOut_eq (h : begin < d.beg + (d.raw.length : Int)) (ho : d.o = some x) (hl : lessS bes d.raw = false) (h2 : eqS d.raw bes = true) : rowOut bes begin k d = none := by
  unfold rowOut RowD.fin; rw [if_pos h, ho]; dsimp only; rw [hl, if_neg (by decide), h2, if_neg (by simp)]
theorem rowOut_bad (h : begin < d.beg + (d.raw.length : Int)) (ho : d.o = none) : rowOut bes begin k d = some .bad := by
  unfold rowOut RowD.fin; rw [if_pos h, ho]
theorem rowOut_hit (h : begin < d.beg + (d.raw.length : Int)) (ho : d.o = some x) (hl : lessS bes d.raw = true) (hx : x ≤ 2) : rowOut bes begin k d = some (.hit (max d.beg begin) (d.beg + (d.raw.length : Int))) := by
  unfold rowOut RowD.fin; rw [if_pos h, ho]; dsimp only; rw [if_pos hl, if_pos hx]
theorem rowOut_nag (h : begin < d.beg + (d.raw.length : Int)) (ho : d.o = some x) (hl : lessS bes d.raw = false) (h2 : lessS d.raw bes = false) (h3 : eqS d.raw bes = false) : rowOut bes begin k d = some (.nag ((k : Int) + 1) (witS bes d.raw) d.raw) := by
  unfold rowOut RowD.fin; rw [if_pos h, ho]; dsimp only; rw [hl, if_neg (by decide), h2, h3, if_pos (by simp)]
end
noncomputable def NagRaised (E : Value → Shared → Prop) (v : Value) (s₁ : Shared) : Prop := ∃ e t d, v = .ref e ∧ NagCls s₁.heap ∧ s₁.heap.get? e = some (excO 73 t d) ∧ E (.ref e) s₁
theorem nag_sub {a b t T : Addr × Obj} {ch x own : List (Addr × Obj)} : ∀ q ∈ a :: b :: (ch ++ x), q ∈ a :: b :: t :: (ch ++ (T :: (x ++ own))) := fun q hq => by
  rcases List.mem_cons.mp hq with rfl | hq
  · exact .head _
  rcases List.mem_cons.mp hq with rfl | hq
  · exact .tail _ (.head _)
  rcases List.mem_append.mp hq with hq | hq
  · exact .tail _ (.tail _ (.tail _ (List.mem_append_left _ hq)))
  · exact .tail _ (.tail _ (.tail _ (List.mem_append_right _ (.tail _ (List.mem_append_left _ hq)))))
theorem nag_ne {h₀ h : Heap} {L e d : Addr} {od : Obj} {T : Addr × Obj} {ch x own : List (Addr × Obj)} (N : News h₀ L h (ch ++ (T :: (x ++ own)))) (n : h.get? e = none) (hd : e ≠ d) : ∀ q ∈ (d, od) :: (ch ++ x), q.1 ≠ e := fun q hq z => by
  rcases List.mem_cons.mp hq with rfl | hq
  · exact hd z.symm
  have hq' : q ∈ ch ++ (T :: (x ++ own)) := by
    rcases List.mem_append.mp hq with hq | hq
    · exact List.mem_append_left _ hq
    · exact List.mem_append_right _ (.tail _ (List.mem_append_left _ hq))
  have := (N q hq').1
  rw [z, n] at this
  cases this
theorem raise_nagE {M : Model} {A : Around} {E : Value → Shared → Prop} {env : Env} {s : Shared} {e : PySem.Expr} {pos : Pos} {Q : Flow → Shared → Prop} (hh : A.handled = none)
    (h : wpAny M A (eval e env) (NagRaised E) E s) : wpAny M A (exec (.Raise (some e) none pos) env) Q E s := by
  show wpAny M A (do standAt pos; raiseStmt env (some (do let v ← eval e env; standAt pos; pure v)) none) Q E s
  refine wpAny_bind (wpAny_standAt (raise_nag hh (wpAny_bind (wpAny_mono h (fun v s₁ h₁ => ?_) fun _ _ x => x))))
  exact wpAny_bind (wpAny_standAt (wpAny_pure h₁))
set_option hygiene false in
local macro_rules | `(tactic| walk_at "call ref") => `(tactic| (k_here; (with_reducible show wpAny _ _ (call (Value.ref 73) _) _ _ _); k_dflt (refine' nag_use ?zqB ?zqF ?zqX ?zqT ?zqN ?zqd ?zqu ?zqf ?zqk ?_; (case zqB | zqF | zqX | zqT | zqN => k_asm); (case zqd | zqu => exact Nat.le_of_ble_eq_true rfl); (case zqf | zqk => exact rfl); k_whole); intro zze' zzt' zzd' zzod' zzh' zztk' zzF' zzN' zzD' zzn1' zzn2' zzn3' zzn4' zzn5' zzK'; (try dsimp only)))
theorem same2 {z a b : Str} (h : [a, b].contains z = false) : z ≠ a ∧ z ≠ b := by
  simpa using h
noncomputable def PSe (bes : Str) (begin : Int) (D : List RowD) (pre : List Int) (_ : Unit) : Prop := ∀ i, i < pre.length → ∀ d, D[i]? = some d → rowOut bes begin i d = none
theorem PSe.snoc {bes : Str} {begin : Int} {D : List RowD} {pre : List Int} {c c' : Unit} {k : Int} {d : RowD} (hP : PSe bes begin D pre c) (hd : D[pre.length]? = some d) (h : rowOut bes begin pre.length d = none) : PSe bes begin D (pre ++ [k]) c' := fun i hi d' hd' => by
  rw [List.length_append, List.length_singleton] at hi
  rcases Nat.lt_succ_iff_lt_or_eq.mp hi with q | q
  · exact hP i q d' hd'
  · subst q
    rw [hd] at hd'
    cases hd'
    exact h
theorem PSe.at {bes : Str} {begin : Int} {D : List RowD} {pre : List Int} {c : Unit} {d : RowD} {o : Out} (hP : PSe bes begin D pre c) (hd : D[pre.length]? = some d) (h : rowOut bes begin pre.length d = some o) : searchL bes begin 0 D = o :=
  searchL_at (j := pre.length) (fun i hi d' hd' => by rw [Nat.zero_add]; exact hP i hi d' hd') hd (by rw [Nat.zero_add]; exact h)
/-- the statement of search_walk over its data -/
noncomputable def search_walk_P (prog : Program) (w : World) (s : Shared) (base : Heap) (g : Heap) (fr : List Env) (gd : Option (List Code)) (p : Program) (loose : List Str) (mean : ExcName → Option Value) (mg : Str → Option Value) (mb : Str → Option Value) (Q : Value → Shared → Prop) (E : Value → Shared → Prop) (tc : List (Addr × Obj)) (led : List (Addr × Obj)) (sf : Addr) (c : Addr) (td : Addr) (cT : Addr) (cR : Addr) (cL : Addr) (cB : Addr) (cG : Addr) (ar : Addr) (ab : Addr) (al : Addr) (xb : Addr) (qual : Str) (ps : Arguments) (body : List Stmt) (sc : Scope) (doc : Value) (pm : Value) (ct : Value) (oT : Obj) (oR : Obj) (oL : Obj) (oB : Obj) (oG : Obj) (t0 : Tok) (tt : Tok) (tx : Tok) (tb : Tok) (er : Nat) (eb : Nat) (el : Nat) (vs : List Value) (bs : List Value) (ls : List Value) (D : List RowD) (bes : Str) (text : Str) (begin : Int) (args : Args) : Prop :=
  ∀ (S : Std (AT 550 1500 fr gd) base fr g (Mine.hd.heap_1 w.params) p loose mean mg mb s.heap (tc ++ led)) (hs : sDef (Mine.hd.heap_1 w.params) = some (ps, body, sc)) (hf : (sf, kdv_obj (Str.ofString "search") qual ps (.stmts body) sc [(Str.ofString "text", cT), (Str.ofString "rows", cR), (Str.ofString "leads", cL), (Str.ofString "beside", cB), (Str.ofString "begins", cG)] (.ref td) doc pm c ct) ∈ led) (hcd : s.heap.CodeRec (.ref c) qual) (hbind : BindsTo s (kdv_fn (Str.ofString "search") qual ps (.stmts body) sc [(Str.ofString "text", cT), (Str.ofString "rows", cR), (Str.ofString "leads", cL), (Str.ofString "beside", cB), (Str.ofString "begins", cG)] (.ref td) doc pm (.ref c) ct) args [(Str.ofString "chars", .str text tx), (Str.ofString "begin", .int begin tb)]) (mD : (td, kdv_tup [.int 0 t0]) ∈ led) (mT : (cT, oT) ∈ led) (dT : oT.data = .cell (some (.str text tt))) (mR : (cR, oR) ∈ led) (dR : oR.data = .cell (some (.ref ar))) (mL : (cL, oL) ∈ led) (dL : oL.data = .cell (some (.ref al))) (mB : (cB, oB) ∈ led) (dB : oB.data = .cell (some (.ref xb))) (mG : (cG, oG) ∈ led) (dG : oG.data = .cell (some (.ref ab))) (mr : (ar, W.listOf vs.toArray er) ∈ led) (mbg : (ab, W.listOf bs.toArray eb) ∈ led) (ml : (al, W.listOf ls.toArray el) ∈ led) (hvs : vs.length = 5) (hDl : D.length = 5) (hD : RowsAt led D vs bs ls) (WB : WsAt led xb bes) (lb : bes.length ≤ 50) (htx : text.length ≤ 1000) (C : CodeHd g 155 151) (ht : TabC tc) (hne : ∀ q ∈ led, q.1 ≠ 151) (hnone : searchL bes begin 0 D = .none → ∀ h' tk', s.heap.StaysIn h' → Q .none { s with heap := h', toks := tk' }) (hhit : ∀ a b, searchL bes begin 0 D = .hit a b → ∀ f ch tc' h' tk', TabC tc' → (∀ q ∈ tc' ++ ch, h'.get? q.1 = some q.2 ∧ g.get? q.1 = none) → HitC w ch f a b → (∀ q ∈ ch, q.1 ≠ 151) → s.heap.get? f = none → ButT s.heap h' → Q (.ref f) { s with heap := h', toks := tk' }) (hnag : ∀ k wit row, searchL bes begin 0 D = .nag k wit row → ∀ e d od v2 t1 t3 ch h' tk', Flew base g fr e (.ref 73) (some d) ((d, od) :: (ch ++ (tc ++ led))) h' → g.UpToSlots h' → DObj od (nagM (.int k t1) v2 (.str row t3)) → RDV g ch v2 (.list wit) → E (.ref e) { s with heap := h', toks := tk' }) (hbad : searchL bes begin 0 D = .bad → ∀ e dx h' tk', Flew base g fr e (.type "ValueError") dx (tc ++ led) h' → g.UpToSlots h' → E (.ref e) { s with heap := h', toks := tk' }), codeAny (model prog w) (AT 550 1500 fr gd) (.call (.ref sf) args) (fun r s' => match r with | .ok (.ret v) => Q v s' | .ok _ => False | .error e => E e s') s
noncomputable def search_walk_R (p : Program × World × Shared × Heap × Heap × (List Env) × (Option (List Code)) × Program × (List Str) × (ExcName → Option Value) × (Str → Option Value) × (Str → Option Value) × (Value → Shared → Prop) × (Value → Shared → Prop) × (List (Addr × Obj)) × (List (Addr × Obj)) × Addr × Addr × Addr × Addr × Addr × Addr × Addr × Addr × Addr × Addr × Addr × Addr × Str × Arguments × (List Stmt) × Scope × Value × Value × Value × Obj × Obj × Obj × Obj × Obj × Tok × Tok × Tok × Tok × Nat × Nat × Nat × (List Value) × (List Value) × (List Value) × (List RowD) × Str × Str × Int × Args) : Prop := search_walk_P p.1 p.2.1 p.2.2.1 p.2.2.2.1 p.2.2.2.2.1 p.2.2.2.2.2.1 p.2.2.2.2.2.2.1 p.2.2.2.2.2.2.2.1 p.2.2.2.2.2.2.2.2.1 p.2.2.2.2.2.2.2.2.2.1 p.2.2.2.2.2.2.2.2.2.2.1 p.2.2.2.2.2.2.2.2.2.2.2.1 p.2.2.2.2.2.2.2.2.2.2.2.2.1 p.2.2.2.2.2.2.2.2.2.2.2.2.2.1 p.2.2.2.2.2.2.2.2.2.2.2.2.2.2.1 p.2.2.2.2.2.2.2.2.2.2.2.2.2.2.2.1 p.2.2.2.2.2.2.2.2.2.2.2.2.2.2.2.2.1 p.2.2.2.2.2.2.2.2.2.2.2.2.2.2.2.2.2.1 p.2.2.2.2.2.2.2.2.2.2.2.2.2.2.2.2.2.2.1 p.2.2.2.2.2.2.2.2.2.2.2.2.2.2.2.2.2.2.2.1 p.2.2.2.2.2.2.2.2.2.2.2.2.2.2.2.2.2.2.2.2.1 p.2.2.2.2.2.2.2.2.2.2.2.2.2.2.2.2.2.2.2.2.2.1 p.2.2.2.2.2.2.2.2.2.2.2.2.2.2.2.2.2.2.2.2.2.2.1 p.2.2.2.2.2.2.2.2.2.2.2.2.2.2.2.2.2.2.2.2.2.2.2.1 p.2.2.2.2.2.2.2.2.2.2.2.2.2.2.2.2.2.2.2.2.2.2.2.2.1 p.2.2.2.2.2.2.2.2.2.2.2.2.2.2.2.2.2.2.2.2.2.2.2.2.2.1 p.2.2.2.2.2.2.2.2.2.2.2.2.2.2.2.2.2.2.2.2.2.2.2.2.2.2.1 p.2.2.2.2.2.2.2.2.2.2.2.2.2.2.2.2.2.2.2.2.2.2.2.2.2.2.2.1 p.2.2.2.2.2.2.2.2.2.2.2.2.2.2.2.2.2.2.2.2.2.2.2.2.2.2.2.2.1 p.2.2.2.2.2.2.2.2.2.2.2.2.2.2.2.2.2.2.2.2.2.2.2.2.2.2.2.2.2.1 p.2.2.2.2.2.2.2.2.2.2.2.2.2.2.2.2.2.2.2.2.2.2.2.2.2.2.2.2.2.2.1 p.2.2.2.2.2.2.2.2.2.2.2.2.2.2.2.2.2.2.2.2.2.2.2.2.2.2.2.2.2.2.2.1 p.2.2.2.2.2.2.2.2.2.2.2.2.2.2.2.2.2.2.2.2.2.2.2.2.2.2.2.2.2.2.2.2.1 p.2.2.2.2.2.2.2.2.2.2.2.2.2.2.2.2.2.2.2.2.2.2.2.2.2.2.2.2.2.2.2.2.2.1 p.2.2.2.2.2.2.2.2.2.2.2.2.2.2.2.2.2.2.2.2.2.2.2.2.2.2.2.2.2.2.2.2.2.2.1 p.2.2.2.2.2.2.2.2.2.2.2.2.2.2.2.2.2.2.2.2.2.2.2.2.2.2.2.2.2.2.2.2.2.2.2.1 p.2.2.2.2.2.2.2.2.2.2.2.2.2.2.2.2.2.2.2.2.2.2.2.2.2.2.2.2.2.2.2.2.2.2.2.2.1 p.2.2.2.2.2.2.2.2.2.2.2.2.2.2.2.2.2.2.2.2.2.2.2.2.2.2.2.2.2.2.2.2.2.2.2.2.2.1 p.2.2.2.2.2.2.2.2.2.2.2.2.2.2.2.2.2.2.2.2.2.2.2.2.2.2.2.2.2.2.2.2.2.2.2.2.2.2.1 p.2.2.2.2.2.2.2.2.2.2.2.2.2.2.2.2.2.2.2.2.2.2.2.2.2.2.2.2.2.2.2.2.2.2.2.2.2.2.2.1 p.2.2.2.2.2.2.2.2.2.2.2.2.2.2.2.2.2.2.2.2.2.2.2.2.2.2.2.2.2.2.2.2.2.2.2.2.2.2.2.2.1 p.2.2.2.2.2.2.2.2.2.2.2.2.2.2.2.2.2.2.2.2.2.2.2.2.2.2.2.2.2.2.2.2.2.2.2.2.2.2.2.2.2.1 p.2.2.2.2.2.2.2.2.2.2.2.2.2.2.2.2.2.2.2.2.2.2.2.2.2.2.2.2.2.2.2.2.2.2.2.2.2.2.2.2.2.2.1 p.2.2.2.2.2.2.2.2.2.2.2.2.2.2.2.2.2.2.2.2.2.2.2.2.2.2.2.2.2.2.2.2.2.2.2.2.2.2.2.2.2.2.2.1 p.2.2.2.2.2.2.2.2.2.2.2.2.2.2.2.2.2.2.2.2.2.2.2.2.2.2.2.2.2.2.2.2.2.2.2.2.2.2.2.2.2.2.2.2.1 p.2.2.2.2.2.2.2.2.2.2.2.2.2.2.2.2.2.2.2.2.2.2.2.2.2.2.2.2.2.2.2.2.2.2.2.2.2.2.2.2.2.2.2.2.2.1 p.2.2.2.2.2.2.2.2.2.2.2.2.2.2.2.2.2.2.2.2.2.2.2.2.2.2.2.2.2.2.2.2.2.2.2.2.2.2.2.2.2.2.2.2.2.2.1 p.2.2.2.2.2.2.2.2.2.2.2.2.2.2.2.2.2.2.2.2.2.2.2.2.2.2.2.2.2.2.2.2.2.2.2.2.2.2.2.2.2.2.2.2.2.2.2.1 p.2.2.2.2.2.2.2.2.2.2.2.2.2.2.2.2.2.2.2.2.2.2.2.2.2.2.2.2.2.2.2.2.2.2.2.2.2.2.2.2.2.2.2.2.2.2.2.2.1 p.2.2.2.2.2.2.2.2.2.2.2.2.2.2.2.2.2.2.2.2.2.2.2.2.2.2.2.2.2.2.2.2.2.2.2.2.2.2.2.2.2.2.2.2.2.2.2.2.2.1 p.2.2.2.2.2.2.2.2.2.2.2.2.2.2.2.2.2.2.2.2.2.2.2.2.2.2.2.2.2.2.2.2.2.2.2.2.2.2.2.2.2.2.2.2.2.2.2.2.2.2.1 p.2.2.2.2.2.2.2.2.2.2.2.2.2.2.2.2.2.2.2.2.2.2.2.2.2.2.2.2.2.2.2.2.2.2.2.2.2.2.2.2.2.2.2.2.2.2.2.2.2.2.2.1 p.2.2.2.2.2.2.2.2.2.2.2.2.2.2.2.2.2.2.2.2.2.2.2.2.2.2.2.2.2.2.2.2.2.2.2.2.2.2.2.2.2.2.2.2.2.2.2.2.2.2.2.2.1 p.2.2.2.2.2.2.2.2.2.2.2.2.2.2.2.2.2.2.2.2.2.2.2.2.2.2.2.2.2.2.2.2.2.2.2.2.2.2.2.2.2.2.2.2.2.2.2.2.2.2.2.2.2.1 p.2.2.2.2.2.2.2.2.2.2.2.2.2.2.2.2.2.2.2.2.2.2.2.2.2.2.2.2.2.2.2.2.2.2.2.2.2.2.2.2.2.2.2.2.2.2.2.2.2.2.2.2.2.2
noncomputable def search_walk_c : Program × World × Shared × Heap × Heap × (List Env) × (Option (List Code)) × Program × (List Str) × (ExcName → Option Value) × (Str → Option Value) × (Str → Option Value) × (Value → Shared → Prop) × (Value → Shared → Prop) × (List (Addr × Obj)) × (List (Addr × Obj)) × Addr × Addr × Addr × Addr × Addr × Addr × Addr × Addr × Addr × Addr × Addr × Addr × Str × Arguments × (List Stmt) × Scope × Value × Value × Value × Obj × Obj × Obj × Obj × Obj × Tok × Tok × Tok × Tok × Nat × Nat × Nat × (List Value) × (List Value) × (List Value) × (List RowD) × Str × Str × Int × Args := pick (neP inferInstance (neP neW (neP neS (neP inferInstance (neP inferInstance (neP inferInstance (neP inferInstance (neP inferInstance (neP inferInstance (neP inferInstance (neP inferInstance (neP inferInstance (neP inferInstance (neP inferInstance (neP inferInstance (neP inferInstance (neP inferInstance (neP inferInstance (neP inferInstance (neP inferInstance (neP inferInstance (neP inferInstance (neP inferInstance (neP inferInstance (neP inferInstance (neP inferInstance (neP inferInstance (neP inferInstance (neP inferInstance (neP inferInstance (neP inferInstance (neP inferInstance (neP inferInstance (neP inferInstance (neP inferInstance (neP inferInstance (neP inferInstance (neP inferInstance (neP inferInstance (neP inferInstance (neP inferInstance (neP inferInstance (neP inferInstance (neP inferInstance (neP inferInstance (neP inferInstance (neP inferInstance (neP inferInstance (neP inferInstance (neP inferInstance (neP inferInstance (neP inferInstance (neP inferInstance (neP inferInstance inferInstance)))))))))))))))))))))))))))))))))))))))))))))))))))))) search_walk_R
set_option maxHeartbeats 8000000 in
set_option pp.deepTerms false in
set_option pp.deepTerms.threshold 6 in
set_option pp.maxSteps 1500 in
theorem search_walk_core : search_walk_R search_walk_c := ((by
  intro prog w s base g fr gd p loose mean mg mb Q E tc led sf c td cT cR cL cB cG ar ab al xb qual ps body sc doc pm ct oT oR oL oB oG t0 tt tx tb er eb el vs bs ls D bes text begin args S hs hf hcd hbind mD mT dT mR dR mL dL mB dB mG dG mr mbg ml hvs hDl hD WB lb htx C ht hne hnone hhit hnag hbad
  refine' use_eq (sDef_of ?kx) hs ?_
  case kx => k_is
  intro e
  injection e with e
  injection e with e1 e
  injection e with e2 e3
  subst e1 e2 e3
  clear hs
  have WB2 := WB
  obtain ⟨⟨bdx, btn, btc1, bg1, bg2, bg3, bg4, bg5, bt1, bt2, bt3, bt4, bt5, bu1, bu2, bu3, bu6, be1, be2, be3, bvs1⟩, bhi1, bhm1⟩ := WB2
  dsimp only at bhi1 bhm1
  simp only [wsW, wsL, List.forall_mem_cons] at bhm1
  obtain ⟨bm1, bm2, bm3, bm4, _⟩ := bhm1
  k_dflt (refine' enterX ?kS ?k6 ?k7 ?k8 ?k9 ?kB ?_ ?c2 ?c3 ?c4 ?c5; (case kS => assumption); (case k6 => exact List.mem_append_right _ (by assumption)); (case k7 => assumption); (case k8 => exact Nat.le_of_ble_eq_true rfl); (case k9 => assumption); (case c5 => decide); (case kB => exact locs rfl); (case c2 => exact rfl); (case c3 => exact rfl); (case c4 => exact rfl); k_whole; intro zzL' zzh' zzB' zzX' zzT' zzF' zzN' zzK'; (try dsimp only); (try k_fold))
  repeat' (first | (k_unfold; (try dsimp only)) | (k_end; wrow_close) | ((fail_if_success (with_reducible show wpAny _ _ (pyIter _) _ _ _)); walk1) | ((fail_if_success (with_reducible show wpAny _ _ (pyIter _) _ _ _));dsimp only; walk1) | (leave1; walk_say "STEP leave1"; try dsimp only) | fail "no step")
  rename Fr _ _ _ _ => lF
  rename News _ _ _ _ => lN
  rename IsRange _ _ _ _ _ _ _ _ => rgX
  refine' kst_range (n := 5) (fun _ : Unit => tc ++ led) (fun _ => []) (fun _ => True) [Str.ofString "line", Str.ofString "col"] (PSe bes begin D) () rfl rgX rfl rfl lF (cb_drop lN ?kN) trivial (List.forall_mem_nil _) (fun i hi => absurd hi (Nat.not_lt_zero _)) ?_ ?_
  case kN => walk_at "M sub"
  · clear lF lN
    intro c1 pre k t u h tk own hk hlt hoff _ hP F9 N9
    have hk0 : pre.length < D.length := by omega
    obtain ⟨d, hd⟩ : ∃ d, D[pre.length]? = some d := ⟨_, List.getElem?_eq_getElem hk0⟩
    obtain ⟨hok, t9, tb9, x9, ev, eb9, el9, W9⟩ := hD _ _ hd
    have ek : k.toNat = pre.length := by omega
    rw [← ek] at ev eb9 el9
    have hlen := hok.len
    have hb0 := hok.b0
    have hb1 := hok.b1
    have hrd := hok.reads
    unfold restS at hrd
    have W8 := W9
    obtain ⟨⟨dx, tn, tc1, g1, g2, g3, g4, g5, t1, t2, t3, t4, t5, u1, u2, u3, u6, e1, e2, e3, vs1⟩, hi1, hm1⟩ := W8
    dsimp only at hi1 hm1
    simp only [wsW, wsL, List.forall_mem_cons] at hm1
    obtain ⟨m1, m2, m3, m4, _⟩ := hm1
    have kMark9 : KstMark := KstMark.mark trivial
    with_reducible show wpAny _ _ _ _ _ _
    k_fold
    repeat' (first | (k_unfold; (try dsimp only)) | (k_end; wrow_close) | ((fail_if_success (with_reducible show InvEndN _ _ _ _ _ _ _)); (fail_if_success (with_reducible show wpAny _ _ (exec (Stmt.Raise _ _ _) _) _ _ _)); (fail_if_success (with_reducible show wpAny _ _ (call (Value.ref 156) _) _ _ _)); walk1) | ((fail_if_success (with_reducible show InvEndN _ _ _ _ _ _ _)); (fail_if_success (with_reducible show wpAny _ _ (exec (Stmt.Raise _ _ _) _) _ _ _)); (fail_if_success (with_reducible show wpAny _ _ (call (Value.ref 156) _) _ _ _)); dsimp only; walk1) | fail "no step")
    any_goals (
      (with_reducible show InvEndN _ _ _ _ _ _ _)
      rename Fr _ _ _ _ => F8
      rename News _ _ _ _ => N8
      refine kst_end () F8 N8 (by walk_at "M sub") (by walk_at "M sub") rfl trivial (List.forall_mem_nil _) ?_ (hP.snoc hd ?_)
      · intro z h1 _ h3
        have h4 := same2 h3
        simp only [if_neg h1, if_neg h4.1, if_neg h4.2, kstB, h3, Bool.false_eq_true, if_false]
      · first
          | exact rowOut_skip (by assumption)
          | exact rowOut_big (by assumption) (by assumption) (by assumption) (by assumption)
          | exact rowOut_less (by assumption) (by assumption) (by assumption) (by assumption)
          | exact rowOut_eq (by assumption) (by assumption) (by assumption) (by assumption)
          | (exfalso; law_fin))
    · rename Fr _ _ _ _ => F8
      rename News _ _ _ _ => N8
      rename d.o = some _ => ho8
      rename begin < _ => hb8
      have st8 := S.keeps F8 N8 (by walk_at "M sub")
      k_dflt refine' hit_use S.B F8 S.X S.T (cb_drop (news := tc ++ led) N8 ?ks) C ht hne ?yd ?yu ?yf ?yk ?_
      case ks => walk_at "M sub"
      case yd => exact Nat.le_of_ble_eq_true rfl
      case yu => exact Nat.le_of_ble_eq_true rfl
      case yf => exact rfl
      case yk => exact rfl
      intro f9 ch9 tc9 h9 tk9 F9 N9 T9 H9 o9 n9 k9
      k_steps
      change Q (Value.ref _) _
      rename lessS bes _ = true => hl8
      rename _ ≤ (2 : Int) => hx8
      refine hhit _ _ (hP.at hd ((rowOut_hit hb8 ho8 hl8 hx8).trans (congrArg some (congrArg (fun z => Out.hit z _) ?_)))) _ ch9 tc9 _ _ T9 (fun q hq => have hq' : q ∈ tc9 ++ (ch9 ++ led) := (List.mem_append.mp hq).elim (List.mem_append_left _) (fun z => List.mem_append_right _ (List.mem_append_left _ z)); ⟨(N9 q hq').1, (N9 q hq').2.2⟩) H9 o9 (kts_none st8 n9) ((ButT.of st8).trans k9)
      split <;> omega
    · k_dflt refine' raise_nagE rfl ?_
      rename d.o = some _ => ho8
      rename begin < _ => hb8
      k_steps
      rename Fr _ _ _ _ => F8
      rename News _ _ _ _ => N8
      rename News _ _ _ (_ ++ _) => N7
      rename DObj _ _ => D8
      rename RDV _ _ _ _ => R8
      refine ⟨_, _, _, rfl, (nagCls S.X).keeps F8.keep, N8.get (.head _), ?_⟩
      refine fly_first (news := (_, _) :: (_ ++ (tc ++ led))) S.B F8 (cb_drop N8 nag_sub) (nag_ne N7 zzn1' zzn4') rfl rfl rfl fun h' R u => ?_
      refine hnag _ _ _ (hP.at hd ((rowOut_nag hb8 ho8 (by assumption) (by assumption) (by assumption)).trans ?_)) _ _ _ _ _ _ _ _ _ R u D8 R8
      have hk2 : (pre.length : Int) = k := by omega
      rw [hk2]
    · rename Fr _ _ _ _ => F8
      rename Flew _ _ _ _ _ _ _ _ => R8
      rename Heap.UpToSlots _ _ => U8
      refine fly_on S.B F8 (R8.drop (news' := tc ++ led) (by walk_at "M sub")) U8 rfl fun h' R u => ?_
      exact hbad (hP.at hd (rowOut_bad (by assumption) (by assumption))) _ _ _ _ R u
  · intro c1 u h tk _ hP F9 N9
    k_steps
    change Q Value.none _
    refine hnone (searchL_none fun i d hd => ?_) _ _ (S.keeps (by assumption) (by assumption) (fun _ hq => hq))
    rw [Nat.zero_add]
    exact hP i (by have : i < D.length := (List.getElem?_eq_some_iff.mp hd).1; simp [rangeKs]; omega) d hd) : ∀ (prog : Program) (w : World) (s : Shared) (base : Heap) (g : Heap) (fr : List Env) (gd : Option (List Code)) (p : Program) (loose : List Str) (mean : ExcName → Option Value) (mg : Str → Option Value) (mb : Str → Option Value) (Q : Value → Shared → Prop) (E : Value → Shared → Prop) (tc : List (Addr × Obj)) (led : List (Addr × Obj)) (sf : Addr) (c : Addr) (td : Addr) (cT : Addr) (cR : Addr) (cL : Addr) (cB : Addr) (cG : Addr) (ar : Addr) (ab : Addr) (al : Addr) (xb : Addr) (qual : Str) (ps : Arguments) (body : List Stmt) (sc : Scope) (doc : Value) (pm : Value) (ct : Value) (oT : Obj) (oR : Obj) (oL : Obj) (oB : Obj) (oG : Obj) (t0 : Tok) (tt : Tok) (tx : Tok) (tb : Tok) (er : Nat) (eb : Nat) (el : Nat) (vs : List Value) (bs : List Value) (ls : List Value) (D : List RowD) (bes : Str) (text : Str) (begin : Int) (args : Args), search_walk_P prog w s base g fr gd p loose mean mg mb Q E tc led sf c td cT cR cL cB cG ar ab al xb qual ps body sc doc pm ct oT oR oL oB oG t0 tt tx tb er eb el vs bs ls D bes text begin args) _ _ _ _ _ _ _ _ _ _ _ _ _ _ _ _ _ _ _ _ _ _ _ _ _ _ _ _ _ _ _ _ _ _ _ _ _ _ _ _ _ _ _ _ _ _ _ _ _ _ _ _ _ _ _
theorem search_walk {Q E : Value → Shared → Prop} {tc led : List (Addr × Obj)} {sf c td cT cR cL cB cG ar ab al xb : Addr} {qual : Str} {ps : Arguments} {body : List Stmt} {sc : Scope} {doc pm ct : Value} {oT oR oL oB oG : Obj} {t0 tt tx tb : Tok} {er eb el : Nat}
    {vs bs ls : List Value} {D : List RowD} {bes text : Str} {begin : Int} {args : Args}
    (S : Std (AT 550 1500 fr gd) base fr g (Mine.hd.heap_1 w.params) p loose mean mg mb s.heap (tc ++ led))
    (hs : sDef (Mine.hd.heap_1 w.params) = some (ps, body, sc))
    (hf : (sf, kdv_obj (Str.ofString "search") qual ps (.stmts body) sc [(Str.ofString "text", cT), (Str.ofString "rows", cR), (Str.ofString "leads", cL), (Str.ofString "beside", cB), (Str.ofString "begins", cG)] (.ref td) doc pm c ct) ∈ led)
    (hcd : s.heap.CodeRec (.ref c) qual) (hbind : BindsTo s (kdv_fn (Str.ofString "search") qual ps (.stmts body) sc [(Str.ofString "text", cT), (Str.ofString "rows", cR), (Str.ofString "leads", cL), (Str.ofString "beside", cB), (Str.ofString "begins", cG)] (.ref td) doc pm (.ref c) ct) args [(Str.ofString "chars", .str text tx), (Str.ofString "begin", .int begin tb)])
    (mD : (td, kdv_tup [.int 0 t0]) ∈ led) (mT : (cT, oT) ∈ led) (dT : oT.data = .cell (some (.str text tt))) (mR : (cR, oR) ∈ led) (dR : oR.data = .cell (some (.ref ar))) (mL : (cL, oL) ∈ led) (dL : oL.data = .cell (some (.ref al)))
    (mB : (cB, oB) ∈ led) (dB : oB.data = .cell (some (.ref xb))) (mG : (cG, oG) ∈ led) (dG : oG.data = .cell (some (.ref ab)))
    (mr : (ar, W.listOf vs.toArray er) ∈ led) (mbg : (ab, W.listOf bs.toArray eb) ∈ led) (ml : (al, W.listOf ls.toArray el) ∈ led) (hvs : vs.length = 5) (hDl : D.length = 5) (hD : RowsAt led D vs bs ls) (WB : WsAt led xb bes) (lb : bes.length ≤ 50) (htx : text.length ≤ 1000)
    (C : CodeHd g 155 151) (ht : TabC tc) (hne : ∀ q ∈ led, q.1 ≠ 151)
    (hnone : searchL bes begin 0 D = .none → ∀ h' tk', s.heap.StaysIn h' → Q .none { s with heap := h', toks := tk' })
    (hhit : ∀ a b, searchL bes begin 0 D = .hit a b → ∀ f ch tc' h' tk', TabC tc' → (∀ q ∈ tc' ++ ch, h'.get? q.1 = some q.2 ∧ g.get? q.1 = none) → HitC w ch f a b → (∀ q ∈ ch, q.1 ≠ 151) → s.heap.get? f = none → ButT s.heap h' → Q (.ref f) { s with heap := h', toks := tk' })
    (hnag : ∀ k wit row, searchL bes begin 0 D = .nag k wit row → ∀ e d od v2 t1 t3 ch h' tk', Flew base g fr e (.ref 73) (some d) ((d, od) :: (ch ++ (tc ++ led))) h' → g.UpToSlots h' → DObj od (nagM (.int k t1) v2 (.str row t3)) → RDV g ch v2 (.list wit) → E (.ref e) { s with heap := h', toks := tk' })
    (hbad : searchL bes begin 0 D = .bad → ∀ e dx h' tk', Flew base g fr e (.type "ValueError") dx (tc ++ led) h' → g.UpToSlots h' → E (.ref e) { s with heap := h', toks := tk' }) :
    codeAny (model prog w) (AT 550 1500 fr gd) (.call (.ref sf) args) (fun r s' => match r with | .ok (.ret v) => Q v s' | .ok _ => False | .error e => E e s') s :=
  (show search_walk_P prog w s base g fr gd p loose mean mg mb Q E tc led sf c td cT cR cL cB cG ar ab al xb qual ps body sc doc pm ct oT oR oL oB oG t0 tt tx tb er eb el vs bs ls D bes text begin args from close1 (R := search_walk_R) _ search_walk_core (prog, w, s, base, g, fr, gd, p, loose, mean, mg, mb, Q, E, tc, led, sf, c, td, cT, cR, cL, cB, cG, ar, ab, al, xb, qual, ps, body, sc, doc, pm, ct, oT, oR, oL, oB, oG, t0, tt, tx, tb, er, eb, el, vs, bs, ls, D, bes, text, begin, args)) S hs hf hcd hbind mD mT dT mR dR mL dL mB dB mG dG mr mbg ml hvs hDl hD WB lb htx C ht hne hnone hhit hnag hbad
end

local macro_rules | `(tactic| walk_at "M subs") => `(tactic| first | exact List.forall_mem_nil _ | (refine' List.forall_mem_cons.mpr ⟨?a, ?b⟩; (case a => k_mem); (case b => walk_at "M subs")) | walk_at "M sub" | (refine' app_sub ?a ?b; (case a | b => walk_at "M subs")))
section
theorem sepEv : True := by
  w_top off
  trivial
open PySem PySem.W PyProof.Rows PySem.Calls PyProof.Rows.LCg PyProof.Rows.LCt
set_option maxRecDepth 100000
theorem fill_me22 : PySem.Challenge.rw_mr0234_01 = PySem.Challenge.rw_mr0234_01 ∧ Mine.hd.heap_1 = Mine.hd.heap_1 := by
  k_fill
  exact ⟨rfl, rfl⟩
set_option hygiene false in
local macro_rules | `(tactic| walk_at "execs cons") => `(tactic| (k_here; refine execs_consG ?_; intro _ _ _))
set_option hygiene false in
local macro_rules | `(tactic| k_unfold) => `(tactic| (with_reducible refine Leads.on (by assumption) ?_))
theorem mem1L {a : Addr × Obj} {l r : List (Addr × Obj)} (h : a ∈ l) : List.Mem a (l ++ r) := List.mem_append_left _ h
theorem mem1R {a : Addr × Obj} {l r : List (Addr × Obj)} (h : a ∈ r) : List.Mem a (l ++ r) := List.mem_append_right _ h
theorem mem1V {a : Addr × Obj} {l : List (Addr × Obj)} (h : a ∈ l) : List.Mem a l := h
set_option hygiene false in
local macro_rules | `(tactic| k_mem) => `(tactic| first | (refine mem1L ?_; k_mem) | (refine mem1R ?_; k_mem) | (refine mem1V ?_; ktr_member))
set_option hygiene false in
local macro_rules | `(tactic| walk_at "call ref") => `(tactic| (k_here; (with_reducible show wpAny _ _ (call (Value.ref 175) _) _ _ _); k_dflt (refine' col_use ?zqB ?zqF ?zqX ?zqT ?zqN ?zql ?zqd ?zqu ?zqf ?zqe ?_; (case zqB | zqF | zqX | zqT | zqN => k_asm); (case zql => omega); (case zqd | zqu => exact Nat.le_of_ble_eq_true rfl); (case zqf | zqe => exact rfl); k_whole); intro zzlc' zzvc' zzec' zzh' zztk' zzF' zzN' zzne' zzI' zzK'; (try dsimp only); (try k_sweep); (try k_fold)))
theorem len_lst5 {prog : Program} {w : World} {A : Around} {E : Value → Shared → Prop} {s : Shared} {Q : Value → Shared → Prop} {l : Addr} {vs : List Value} {h₀ : Heap} {L : Addr} {news : List (Addr × Obj)} {e : Nat} (N : News h₀ L s.heap news) (hm : (l, W.listOf vs.toArray e) ∈ news) (hv : vs.length = 5)
    (h : Q (.int 5 (s.toks + 1)) { s with toks := s.toks + 1 + 1 }) : wpAny (model prog w) A (call (.builtin "len") [.ref l]) Q E s :=
  len_lst N hm hv (by decide) h
set_option hygiene false in
local macro_rules | `(tactic| walk_at "call builtin:len") => `(tactic| (k_here; (with_reducible show wpAny _ _ (call (Value.builtin "len") [Value.ref _]) _ _ _); k_dflt (refine' len_lst5 ?zqk1 ?zqk2 ?zqk3 ?_; (case zqk1 => k_asm); (case zqk2 => k_mem); (case zqk3 => assumption); k_whole)))
set_option hygiene false in
local macro_rules | `(tactic| walk_at "subscriptTail") => `(tactic| (k_here; (with_reducible show wpAny _ _ (subscriptTail _ _ (Value.ref _) (Value.int _ _)) _ _ _); k_dflt (refine' item_lst ?zqk1 ?zqk2 ?zqk3 ?zqk4 ?zqk5 ?_; (case zqk1 => k_asm); (case zqk2 => k_mem); (case zqk3 | zqk4 => omega); (case zqk5 => assumption); k_whole)))
set_option hygiene false in
local macro_rules | `(tactic| walk_at "eval ListComp") => `(tactic| (k_here; first | (lct_look; k_dflt (refine LCt.ListComp_T (F₀ := by k_asm) (by with_unfolding_all rfl) (by decide) (by rfl) (by decide) (by rfl) ?_)) | (k_dflt (refine LCg.ListComp_U (F₀ := by k_asm) (by with_unfolding_all rfl) (by decide) (by rfl) (by decide) (by rfl) ?_))))
set_option hygiene false in
local macro_rules | `(tactic| walk_at "exec Assign cons ListComp") => `(tactic| (k_here; k_dflt (refine LCt.Assign_ListComp_T (F₀ := by k_asm) (by rfl) (by with_unfolding_all rfl) (by with_unfolding_all rfl) (by decide) (by rfl) (by decide) (by rfl) (by rfl) (by rfl) ?_)))
theorem store_cellR {M : Model} {A : Around} {E : Value → Shared → Prop} {s : Shared} {h₀ : Heap} {L a : Addr} {m : Str → Option Value} {cn : Str} {cs : Scope} {ccd : Value} {cl : List (Str × Addr)} {x : Str} {v : Value} {Q : Unit → Shared → Prop} {news rest : List (Addr × Obj)} {c : Addr} {o : Obj} {v₀ : Option Value}
    (F : Fr h₀ L s.heap m) (N : News h₀ L s.heap news) (hc : cl.lookup x = some c) (hm : (c, o) ∈ news) (hr : ∀ p ∈ rest, p ∈ news) (hne : ∀ p ∈ rest, p.1 ≠ c) (hd : o.data = .cell v₀)
    (h : ∀ h' o', Fr h₀ L h' m → News h₀ L h' ((c, o') :: rest) → o'.data = .cell (some v) → Q () { s with heap := h' })
    (hk : cs.kind = .function := by rfl) (hx : (envX cn cs L a ccd cl).kindOf x = some .cell := by rfl) : wpAny M A (storeName (envX cn cs L a ccd cl) x v) Q E s :=
  storeX_C F (cb_drop (news := (c, o) :: rest) N fun q hq => by
    rcases List.mem_cons.mp hq with rfl | hq
    · exact hm
    · exact hr q hq) hc (UpdF.head hne) hd h hk hx
theorem allLt_all {d : Nat} : ∀ {l : List (Addr × Obj)}, AllLt d l → ∀ p ∈ l, p.1 ≠ d
  | [], _, _, h => nomatch h
  | _ :: _, h, p, hp => by
    rcases List.mem_cons.mp hp with rfl | hp
    · exact Nat.ne_of_lt h.1
    · exact allLt_all h.2 p hp
theorem ints_at {vs : List Value} {ns : List Int} (h : IntsAre vs ns) : ∀ {i : Nat}, i < ns.length → ∃ t, vs[i]? = some (Value.int (ns.getD i 0) t) := by
  induction h with
  | nil => exact fun h => absurd h (Nat.not_lt_zero _)
  | cons a t r ih =>
    intro i hi
    cases i with
    | zero => exact ⟨_, rfl⟩
    | succ i => exact ih (Nat.lt_of_succ_lt_succ hi)
theorem colsL_length (l : Str) : (colsL l).length = 10 := by simp [colsL, rangeKs]
theorem cols_at {vs : List Value} {l : Str} (h : IntsAre vs (colsL l)) {k : Int} (h0 : 0 ≤ k) (h1 : k < 10) : ∃ t, vs[k.toNat]? = some (Value.int ((colsL l).getD k.toNat 0) t) :=
  ints_at h (by rw [colsL_length]; omega)
theorem allLt_memE {d : Nat} : ∀ {l : List (Addr × Obj)}, AllLt d l → ∀ p ∈ l, @LT.lt Nat _ p.1 d
  | [], _, _, h => nomatch h
  | _ :: _, h, p, hp => by
    rcases List.mem_cons.mp hp with rfl | hp
    · exact h.1
    · exact allLt_memE h.2 p hp
theorem lt_ne1 {l : List (Addr × Obj)} {a : Addr} (h : ∀ p ∈ l, @LT.lt Nat _ p.1 a) : ∀ p ∈ l, p.1 ≠ a + 1 := fun p hp => Nat.ne_of_lt (Nat.lt_succ_of_lt (h p hp))
theorem lt_ne2 {l : List (Addr × Obj)} {a : Addr} (h : ∀ p ∈ l, @LT.lt Nat _ p.1 a) : ∀ p ∈ l, p.1 ≠ a + 1 + 1 := fun p hp => Nat.ne_of_lt (Nat.lt_succ_of_lt (Nat.lt_succ_of_lt (h p hp)))
theorem all_app {a b : List (Addr × Obj)} {d : Addr} (h1 : ∀ p ∈ a, p.1 ≠ d) (h2 : ∀ p ∈ b, p.1 ≠ d) : ∀ p ∈ a ++ b, p.1 ≠ d := fun p hp => (List.mem_append.mp hp).elim (h1 p) (h2 p)
theorem all_cons {x : Addr × Obj} {b : List (Addr × Obj)} {d : Addr} (h1 : x.1 ≠ d) (h2 : ∀ p ∈ b, p.1 ≠ d) : ∀ p ∈ x :: b, p.1 ≠ d := List.forall_mem_cons.mpr ⟨h1, h2⟩
set_option hygiene false in
local macro_rules | `(tactic| k_all) => `(tactic| first | assumption | (refine all_app ?_ ?_ <;> k_all) | (refine all_cons (by first | assumption | exact Ne.symm (by assumption) | k_ne) ?_ <;> k_all))
variable {prog : Program} {w : World} {s : Shared} {base g : Heap} {fr : List Env} {gd : Option (List Code)}
  {p : Program} {loose : List Str} {mean : ExcName → Option Value} {mg mb : Str → Option Value}
/-- one row as it was drawn -/
structure EvD where
  raw : Str
  beg : Int
  lead : Str
  line : Int
  kind : Int
noncomputable def longL (bes lead : Str) : Int := ((Txt.split (bes ++ Str.ofString "\t" ++ lead) (Str.ofString "\t")).map fun r => (r.length : Int)).foldl max 0
theorem max_le {ns : List Int} {M : Int} (hle : ∀ a ∈ ns, a ≤ M) : ∀ {b : Int}, b ≤ M → ns.foldl max b ≤ M := by
  induction ns with
  | nil => exact fun h => h
  | cons x r ih => exact fun h => ih (fun a ha => hle a (.tail _ ha)) (Int.max_le.mpr ⟨h, hle x (.head _)⟩)
theorem max_ge {ns : List Int} : ∀ {b : Int}, b ≤ ns.foldl max b ∧ ∀ a ∈ ns, a ≤ ns.foldl max b := by
  induction ns with
  | nil => exact fun {b} => ⟨Int.le_refl b, fun _ h => nomatch h⟩
  | cons x r ih =>
    intro b
    obtain ⟨h1, h2⟩ := ih (b := max b x)
    refine ⟨Int.le_trans (Int.le_max_left b x) h1, fun a ha => ?_⟩
    rcases List.mem_cons.mp ha with rfl | ha
    · exact Int.le_trans (Int.le_max_right b a) h1
    · exact h2 a ha
theorem max_fold {ns : List Int} {M : Int} (hm : M ∈ ns) (hle : ∀ a ∈ ns, a ≤ M) (h0 : 0 ≤ M) : M = ns.foldl max 0 :=
  Int.le_antisymm (max_ge.2 M hm) (max_le hle h0)
structure EvOk (bes : Str) (d : EvD) : Prop where
  lg : longL bes d.lead ≤ 9
  len : d.raw.length ≤ 50
  ll : d.lead.length ≤ 9
  b0 : 0 ≤ d.beg
  b1 : d.beg ≤ 1000
  l0 : 0 ≤ d.line
  l1 : d.line ≤ 4
  k0 : 0 ≤ d.kind
  k1 : d.kind ≤ 16
noncomputable def EvsAt (led : List (Addr × Obj)) (bes : Str) (D : List EvD) (vs bs ds : List Value) : Prop :=
  ∀ (k : Nat) (d : EvD), D[k]? = some d → EvOk bes d ∧ ∃ t tb x e t1 t2 t3, vs[k]? = some (Value.str d.raw t) ∧ bs[k]? = some (Value.int d.beg tb) ∧ ds[k]? = some (Value.ref x) ∧ (x, tupO [.str d.lead t1, .int d.line t2, .int d.kind t3] e) ∈ led
noncomputable def cmpL (c : Int → Int → Bool) (one other : List Int) : List Int := (rangeKs 0 10).filter fun z => c (one.getD z.toNat 0) (other.getD z.toNat 0)
noncomputable def unlikeL (one other : List Int) (longest : Int) : List Dat :=
  ((rangeKs 1 (longest + 1).toNat).filter fun z => one.getD (z - 1).toNat 0 != other.getD (z - 1).toNat 0).map fun z => Dat.tuple [.int z, .int (one.getD (z - 1).toNat 0), .int (other.getD (z - 1).toNat 0)]
noncomputable def evOut (bes : Str) (k : Nat) (d : EvD) : Out :=
  if 12 < d.kind then .bad
  else if cmpL (fun a b => decide (b ≤ a)) (colsL bes) (colsL d.lead) = [] then (if d.line ≤ 2 then .hit d.beg (d.beg + (d.raw.length : Int)) else .none)
  else if colsL bes = colsL d.lead ∨ cmpL (fun a b => decide (a ≤ b)) (colsL bes) (colsL d.lead) = [] then .none
  else .nag ((k : Int) + 1) (unlikeL (colsL bes) (colsL d.lead) (longL bes d.lead)) d.raw
/-- an event as the ledger holds it -/
inductive EvV (ch : List (Addr × Obj)) : Value → Out → Prop
  | none : EvV ch .none .none
  | bad {t : Tok} : EvV ch (.str (Str.ofString "spoilt") t) .bad
  | hit {x : Addr} {a b : Int} {t u : Tok} {e : Nat} : (x, tupO [.int a t, .int b u] e) ∈ ch → EvV ch (.ref x) (.hit a b)
  | nag {x l : Addr} {k : Int} {t u : Tok} {e e2 : Nat} {vs : List Value} {ds : List Dat} {row : Str} : (x, W.listOf #[.int k t, .ref l, .str row u] e) ∈ ch → (l, W.listOf vs.toArray e2) ∈ ch → DatAll ch vs ds → (∃ (l : List Int) (f g : Int → Int), ds = l.map fun z => Dat.tuple [.int z, .int (f z), .int (g z)]) → EvV ch (.ref x) (.nag k ds row)
structure ES where
  oc : Obj
  evs : List Value
  e : Nat
  ch : List (Addr × Obj)
structure PEv (bes : Str) (D : List EvD) (led : List (Addr × Obj)) (lev cO : Addr) (i : Nat) (c : ES) : Prop where
  len : c.evs.length = i
  cell : ∃ ov, c.oc.data = .cell ov
  off1 : ∀ p ∈ c.ch, p.1 ≠ lev
  off2 : ∀ p ∈ c.ch, p.1 ≠ cO
  off3 : ∀ p ∈ c.ch, ∀ q ∈ led, p.1 ≠ q.1
  evs : ∀ (j : Nat) (v : Value), c.evs[j]? = some v → ∃ d, D[j]? = some d ∧ EvV c.ch v (evOut bes j d)
theorem off1_mem {D : Addr} : ∀ {l : List (Addr × Obj)}, Off1 D l → ∀ p ∈ l, p.1 ≠ D
  | [], _, _, h => nomatch h
  | _ :: _, h, p, hp => by
    rcases List.mem_cons.mp hp with rfl | hp
    · exact h.1
    · exact off1_mem h.2 p hp
theorem own_far {lev cO lc cN : Addr} {o1 o1' o2 o2' o3 o4 : Obj} {ch new led own : List (Addr × Obj)} (h : ∀ p ∈ own, ∀ q ∈ (lev, o1) :: (cO, o2) :: (ch ++ ((lc, o3) :: (cN, o4) :: led)), p.1 ≠ q.1) (hn : ∀ p ∈ new, ∀ q ∈ own, p.1 ≠ q.1) :
    ∀ p ∈ own, ∀ q ∈ (lev, o1') :: (cO, o2') :: ((new ++ ch) ++ ((lc, o3) :: (cN, o4) :: led)), p.1 ≠ q.1 := fun p hp q hq => by
  rcases List.mem_cons.mp hq with e | hq
  · rw [e]; exact h p hp (lev, o1) (.head _)
  rcases List.mem_cons.mp hq with e | hq
  · rw [e]; exact h p hp (cO, o2) (.tail _ (.head _))
  rw [List.append_assoc] at hq
  rcases List.mem_append.mp hq with hq | hq
  · exact Ne.symm (hn q hq p hp)
  · exact h p hp q (.tail _ (.tail _ hq))
theorem pickH {h₀ h : Heap} {L T : Addr} {o : Obj} {r : List (Addr × Obj)} {R : Prop} (_ : News h₀ L h ((T, o) :: r)) (k : ∀ T', T' = T → R) : R := k T rfl
/-- all that the turn makes lies off what stood -/
theorem new_cons {T : Addr} {o : Obj} {new bse : List (Addr × Obj)} (h1 : ∀ q ∈ bse, q.1 ≠ T) (h2 : ∀ p ∈ new, ∀ q ∈ bse, p.1 ≠ q.1) : ∀ p ∈ (T, o) :: new, ∀ q ∈ bse, p.1 ≠ q.1 := fun p hp q hq => by
  rcases List.mem_cons.mp hp with rfl | hp
  · exact Ne.symm (h1 q hq)
  · exact h2 p hp q hq
theorem PEv.snoc {bes : Str} {D : List EvD} {led : List (Addr × Obj)} {lev cO : Addr} {i : Nat} {oc oc' : Obj} {evs : List Value} {e e' : Nat} {ch new : List (Addr × Obj)} {d : EvD} {v : Value} {ov : Option Value} (h : PEv bes D led lev cO i ⟨oc, evs, e, ch⟩) (hd : D[i]? = some d) (hoc : oc'.data = .cell ov)
    (h1 : ∀ p ∈ new, p.1 ≠ lev) (h2 : ∀ p ∈ new, p.1 ≠ cO) (h3 : ∀ p ∈ new, ∀ q ∈ led, p.1 ≠ q.1) (hv : EvV new v (evOut bes i d) ∨ EvV (new ++ ch) v (evOut bes i d)) : PEv bes D led lev cO (i + 1) ⟨oc', evs ++ [v], e', new ++ ch⟩ := by
  have mono : ∀ {l1 l2 : List (Addr × Obj)} {v : Value} {o : Out}, (∀ q ∈ l1, q ∈ l2) → EvV l1 v o → EvV l2 v o := fun k h => by
    cases h with
    | none => exact .none
    | bad => exact .bad
    | hit m => exact .hit (k _ m)
    | nag m1 m2 da hs => exact .nag (k _ m1) (k _ m2) (da.mono k) hs
  have hv' : EvV (new ++ ch) v (evOut bes i d) := hv.elim (mono fun q hq => List.mem_append_left _ hq) id
  refine ⟨by simp [h.len], ⟨_, hoc⟩, all_app h1 h.off1, all_app h2 h.off2, fun p hp => (List.mem_append.mp hp).elim (h3 p) (h.off3 p), fun j w hj => ?_⟩
  dsimp only at hj
  rcases Nat.lt_trichotomy j evs.length with q | q | q
  · rw [List.getElem?_append_left q] at hj
    obtain ⟨d', hd', ev⟩ := h.evs j w hj
    exact ⟨d', hd', mono (fun q hq => List.mem_append_right _ hq) ev⟩
  · subst q
    have hl : evs.length = i := h.len
    rw [List.getElem?_append_right (Nat.le_refl _), Nat.sub_self] at hj
    cases hj
    rw [hl]
    exact ⟨d, hd, hv'⟩
  · rw [List.getElem?_eq_none (by simp; omega)] at hj
    cases hj
theorem same5 {z a b c d e : Str} (h : [a, b, c, d, e].contains z = false) : z ≠ a ∧ z ≠ b ∧ z ≠ c ∧ z ≠ d ∧ z ≠ e := by
  simpa using h
theorem pickO {h₀ h : Heap} {L T : Addr} {o : Obj} {r : List (Addr × Obj)} {R : Prop} (_ : News h₀ L h ((T, o) :: r)) (k : ∀ T' o', T' = T → o' = o → R) : R := k T o rfl rfl
theorem pickL {h₀ h : Heap} {L : Addr} {m : Str → Option Value} {R : Prop} (_ : Fr h₀ L h m) (k : ∀ L', L' = L → R) : R := k L rfl
theorem pickE {h₀ h : Heap} {L lev lc cO cN : Addr} {o1 o3 o4 : Obj} {vc : List Value} {ec : Nat} {r : List (Addr × Obj)} {R : Prop} (_ : News h₀ L h ((lev, o1) :: (lc, W.listOf vc.toArray ec) :: (cO, o3) :: (cN, o4) :: r)) (k : ∀ lev' lc' cO' cN' o3' o4' vc' ec', lev' = lev → lc' = lc → cO' = cO → cN' = cN → o3' = o3 → o4' = o4 → vc' = vc → ec' = ec → R) : R := k lev lc cO cN o3 o4 vc ec rfl rfl rfl rfl rfl rfl rfl rfl
/-- the statement of ev_spec over its data -/
noncomputable def ev_spec_P (prog : Program) (w : World) (s : Shared) (base : Heap) (g : Heap) (fr : List Env) (gd : Option (List Code)) (p : Program) (loose : List Str) (mean : ExcName → Option Value) (mg : Str → Option Value) (mb : Str → Option Value) (Q : Value → Shared → Prop) (E : Value → Shared → Prop) (ar : Addr) (ab : Addr) (ad : Addr) (er : Nat) (eb : Nat) (ed : Nat) (vs : List Value) (bs : List Value) (ds : List Value) (D : List EvD) (bes : Str) (tw : Tok) (led : List (Addr × Obj)) : Prop :=
  ∀ (S : Std (AT 500 1000 fr gd) base fr g (Mine.hd.heap_1 w.params) p loose mean mg mb s.heap led) (mr : (ar, W.listOf vs.toArray er) ∈ led) (mbg : (ab, W.listOf bs.toArray eb) ∈ led) (md : (ad, W.listOf ds.toArray ed) ∈ led) (hvs : vs.length = 5) (hDl : D.length = 5) (hD : EvsAt led bes D vs bs ds) (lb : bes.length ≤ 9) (hret : ∀ (lev : Addr) (evs : List Value) (e : Nat) (ch : List (Addr × Obj)) (h' : Heap) (tk' : Nat), s.heap.StaysIn h' → (∀ q ∈ (lev, W.listOf evs.toArray e) :: ch, h'.get? q.1 = some q.2 ∧ s.heap.get? q.1 = none) → evs.length = 5 → (∀ (j : Nat) (v : Value), evs[j]? = some v → ∃ d, D[j]? = some d ∧ EvV ch v (evOut bes j d)) → Q (.ref lev) { s with heap := h', toks := tk' }), wpAny (model prog w) (AT 500 1000 fr gd) (call (.ref 180) [.ref ar, .ref ab, .ref ad, .str bes tw]) Q E s
noncomputable def ev_spec_R (p : Program × World × Shared × Heap × Heap × (List Env) × (Option (List Code)) × Program × (List Str) × (ExcName → Option Value) × (Str → Option Value) × (Str → Option Value) × (Value → Shared → Prop) × (Value → Shared → Prop) × Addr × Addr × Addr × Nat × Nat × Nat × (List Value) × (List Value) × (List Value) × (List EvD) × Str × Tok × (List (Addr × Obj))) : Prop := ev_spec_P p.1 p.2.1 p.2.2.1 p.2.2.2.1 p.2.2.2.2.1 p.2.2.2.2.2.1 p.2.2.2.2.2.2.1 p.2.2.2.2.2.2.2.1 p.2.2.2.2.2.2.2.2.1 p.2.2.2.2.2.2.2.2.2.1 p.2.2.2.2.2.2.2.2.2.2.1 p.2.2.2.2.2.2.2.2.2.2.2.1 p.2.2.2.2.2.2.2.2.2.2.2.2.1 p.2.2.2.2.2.2.2.2.2.2.2.2.2.1 p.2.2.2.2.2.2.2.2.2.2.2.2.2.2.1 p.2.2.2.2.2.2.2.2.2.2.2.2.2.2.2.1 p.2.2.2.2.2.2.2.2.2.2.2.2.2.2.2.2.1 p.2.2.2.2.2.2.2.2.2.2.2.2.2.2.2.2.2.1 p.2.2.2.2.2.2.2.2.2.2.2.2.2.2.2.2.2.2.1 p.2.2.2.2.2.2.2.2.2.2.2.2.2.2.2.2.2.2.2.1 p.2.2.2.2.2.2.2.2.2.2.2.2.2.2.2.2.2.2.2.2.1 p.2.2.2.2.2.2.2.2.2.2.2.2.2.2.2.2.2.2.2.2.2.1 p.2.2.2.2.2.2.2.2.2.2.2.2.2.2.2.2.2.2.2.2.2.2.1 p.2.2.2.2.2.2.2.2.2.2.2.2.2.2.2.2.2.2.2.2.2.2.2.1 p.2.2.2.2.2.2.2.2.2.2.2.2.2.2.2.2.2.2.2.2.2.2.2.2.1 p.2.2.2.2.2.2.2.2.2.2.2.2.2.2.2.2.2.2.2.2.2.2.2.2.2.1 p.2.2.2.2.2.2.2.2.2.2.2.2.2.2.2.2.2.2.2.2.2.2.2.2.2.2
noncomputable def ev_spec_c : Program × World × Shared × Heap × Heap × (List Env) × (Option (List Code)) × Program × (List Str) × (ExcName → Option Value) × (Str → Option Value) × (Str → Option Value) × (Value → Shared → Prop) × (Value → Shared → Prop) × Addr × Addr × Addr × Nat × Nat × Nat × (List Value) × (List Value) × (List Value) × (List EvD) × Str × Tok × (List (Addr × Obj)) := pick (neP inferInstance (neP neW (neP neS (neP inferInstance (neP inferInstance (neP inferInstance (neP inferInstance (neP inferInstance (neP inferInstance (neP inferInstance (neP inferInstance (neP inferInstance (neP inferInstance (neP inferInstance (neP inferInstance (neP inferInstance (neP inferInstance (neP inferInstance (neP inferInstance (neP inferInstance (neP inferInstance (neP inferInstance (neP inferInstance (neP inferInstance (neP inferInstance (neP inferInstance inferInstance)))))))))))))))))))))))))) ev_spec_R
set_option maxHeartbeats 1600000 in
set_option pp.deepTerms false in
set_option pp.deepTerms.threshold 6 in
set_option pp.maxSteps 1500 in
theorem ev_spec_core : ev_spec_R ev_spec_c := (by
  intro prog w s base g fr gd p loose mean mg mb Q E ar ab ad er eb ed vs bs ds D bes tw led S mr mbg md hvs hDl hD lb hret
  refine wpAny_call ?_
  k_dflt (refine' enterCC ?kS ?k6 ?k7 ?k8 ?k9 ?kB ?kD ?_ ?c2 ?c3 ?c4; (case kS => assumption); (case k6 => k_is); (case k7 => k_is); (case k8 => exact Nat.le_of_ble_eq_true rfl); (case k9 => exact BindsTo.of_eq rfl); (case kB => exact rfl); (case kD => decide +kernel); (case c2 => exact rfl); (case c3 => exact rfl); (case c4 => exact rfl); k_whole; intro zzL' zzh' zztk' zzcells' zzB' zzX' zzT' zzF' zzN' zzY' zzl1; (try k_lt zzl1); k_cells zzY'; (try simp only [List.cons_append, List.nil_append] at zzN'); (try dsimp only); (try k_fold))
  repeat' (first | (k_unfold; (try dsimp only)) | (k_end; wrow_close) | ((fail_if_success (with_reducible show wpAny _ _ (storeName _ _ _) _ _ _)); walk1) | ((fail_if_success (with_reducible show wpAny _ _ (storeName _ _ _) _ _ _));dsimp only; walk1) | (leave1; walk_say "STEP leave1"; try dsimp only) | fail "no step")
  rename ∀ q : Addr × Obj, q ∈ (_ : List (Addr × Obj)) → q.1 ≠ _ => ne1
  rename ∀ p ∈ led, p.1 < _ => ll
  have ll1 := lt_ne1 ll
  have ll2 := lt_ne2 ll
  clear ll
  rename Fr _ _ _ _ => lF
  rename News _ _ _ _ => lN
  rename IntsAre _ (colsL bes) => I1
  simp only [List.forall_mem_cons] at ne1
  obtain ⟨n1, n2, n3⟩ := ne1
  have n1 : @Ne Nat _ _ := n1
  have n2 : @Ne Nat _ _ := n2
  repeat' (first | (k_unfold; (try dsimp only)) | (k_end; wrow_close) | ((fail_if_success (with_reducible show wpAny _ _ (pyIter _) _ _ _)); walk1) | ((fail_if_success (with_reducible show wpAny _ _ (pyIter _) _ _ _));dsimp only; walk1) | (leave1; walk_say "STEP leave1"; try dsimp only) | fail "no step")
  rename Fr _ _ _ _ => lF
  rename News _ _ _ _ => lN
  rename IsRange _ _ _ _ _ _ _ _ => rgX
  refine pickL lF ?_
  rintro L9 rfl
  refine pickE lN ?_
  rintro lev lc cO cN oc oN vc ec hlev rfl hcO hcN rfl rfl rfl rfl
  rename _ ∧ _ ∧ _ ∧ AllLt _ _ => lt5
  obtain ⟨lt1, lt2, lt3, lt4⟩ := lt5
  have v1 : @Ne Nat lev cO := by rw [hlev, hcO]; exact Nat.ne_of_gt lt2
  have v2 : @Ne Nat lev cN := by rw [hlev, hcN]; exact Nat.ne_of_gt lt3
  have v3 : @Ne Nat lev lc := by rw [hlev]; exact Nat.ne_of_gt lt1
  have v4 : @Ne Nat lc cO := by rw [hcO]; exact Ne.symm n1
  have v5 : @Ne Nat cN cO := by rw [hcO, hcN]; exact Nat.ne_of_lt (Nat.lt_succ_self _)
  have v6 : ∀ p ∈ led, p.1 ≠ lev := by rw [hlev]; exact allLt_all lt4
  have v7 : ∀ p ∈ led, p.1 ≠ cO := by rw [hcO]; exact ll2
  have hP0 : PEv bes D led lev cO 0 ⟨oc, [], 0, []⟩ := ⟨rfl, ⟨_, by assumption⟩, (fun _ h => nomatch h), (fun _ h => nomatch h), (fun _ h => nomatch h), fun _ _ h => nomatch h⟩
  rw [← hlev, ← hcO, ← hcN] at lN
  refine' g_range (n := 5) (fun c : ES => (lev, W.listOf c.evs.toArray c.e) :: (cO, c.oc) :: (c.ch ++ ((lc, W.listOf vc.toArray ec) :: (cN, oN) :: led))) (fun _ => []) [Str.ofString "lead", Str.ofString "line", Str.ofString "kind", Str.ofString "longest", Str.ofString "unlike"] (PEv bes D led lev cO) ⟨oc, [], 0, []⟩ rfl rgX rfl rfl lF lN ?kN (List.forall_mem_nil _) hP0 ?_ ?_
  case kN =>
    intro p hp
    rcases List.mem_cons.mp hp with rfl | hp
    · exact .head _
    rcases List.mem_cons.mp hp with rfl | hp
    · exact .tail _ (.tail _ (.head _))
    rcases List.mem_cons.mp hp with rfl | hp
    · exact .tail _ (.head _)
    · exact .tail _ (.tail _ (.tail _ hp))
  · clear lF lN
    rintro ⟨oc1, evs1, e1, ch1⟩ i k t u h tk own hk hi hoff hP F9 N9
    obtain ⟨d, hd⟩ : ∃ d, D[i]? = some d := ⟨_, List.getElem?_eq_getElem (by omega)⟩
    obtain ⟨hok, t9, tb9, x9, e9, t91, t92, t93, ev, eb9, el9, mx9⟩ := hD _ _ hd
    have ek : k.toNat = i := by omega
    rw [← ek] at ev eb9 el9
    obtain ⟨hlg, hlen, hll, hb0, hb1, hl0, hl1, hk0, hk1⟩ := hok
    obtain ⟨q1, ⟨ov1, q2⟩, q3, q4, q7, q5⟩ := hP
    subst hlev hcO hcN
    have own1 : ∀ p ∈ own, ∀ q ∈ (lev, W.listOf evs1.toArray e1) :: (L9 + 1 + 1, oc1) :: (ch1 ++ ((lc, W.listOf vc.toArray ec) :: (L9 + 1, oN) :: led)), p.1 ≠ q.1 := hoff
    have hoff1 := fun p hp => hoff p hp _ (.head _)
    have hoff2 := fun p hp => hoff p hp _ (.tail _ (.head _))
    dsimp only [kstB] at F9 N9 q1 q2 q3 q4 q5 q7 hoff1 hoff2
    have kMark9 : KstMark := KstMark.mark trivial
    with_reducible show wpAny _ _ _ _ _ _
    k_fold
    repeat' (first | (k_unfold; (try dsimp only)) | (k_end; wrow_close) | ((fail_if_success (with_reducible show wpAny _ _ (call (Value.ref 175) _) _ _ _)); walk1) | ((fail_if_success (with_reducible show wpAny _ _ (call (Value.ref 175) _) _ _ _)); dsimp only; walk1) | fail "no step")
    rename Fr _ _ _ _ => F8
    rename News _ _ _ _ => N8
    rename Below _ _ _ _ => B8
    rename Frag.In _ _ => X8
    rename Top _ _ _ _ _ _ => T8
    k_dflt refine' col_use B8 F8 X8 T8 N8 ?yl ?yd ?yu ?yf ?yk ?_
    case yl => exact Nat.le_trans hll (by decide)
    case yd => exact Nat.le_of_ble_eq_true rfl
    case yu => exact Nat.le_of_ble_eq_true rfl
    case yf => exact rfl
    case yk => exact rfl
    intro lo vo eo h8 tk8 F7 N7 ne7 I7 K7
    clear F8 N8
    have ne1 := ne7 _ (.head _)
    have ne2 := ne7 _ (.tail _ (.head _))
    have nl1 : @Ne Nat _ _ := ne1
    have nl2 : @Ne Nat _ _ := ne2
    dsimp only [List.cons_append] at nl1 nl2 ne7
    repeat' (first | (k_unfold; (try dsimp only)) | (k_end; wrow_close) | ((fail_if_success (with_reducible show wpAny _ _ (storeName _ _ _) _ _ _)); walk1) | ((fail_if_success (with_reducible show wpAny _ _ (storeName _ _ _) _ _ _)); dsimp only; walk1) | fail "no step")
    k_dflt refine' store_cellR (o := oc1) (rest := (lev, W.listOf evs1.toArray e1) :: (lo, W.listOf vo.toArray eo) :: (lc, W.listOf vc.toArray ec) :: (L9 + 1, oN) :: (ch1 ++ (led ++ own))) F7 N7 ?sc ?sm ?sr ?sn q2 ?_ ?sa ?sb
    case sa => rfl
    case sb => rfl
    case sc => rfl
    case sm => k_mem
    case sr => walk_at "M subs"
    case sn => k_all
    intro h9 oc2 F6 N6 q6
    clear F7 N7
    repeat' (first | (k_unfold; (try dsimp only)) | (k_end; wrow_close) | ((fail_if_success (with_reducible show LCg.CompSrc _ _ _ _ _ _ _ _ _ _ _ _ _ _)); walk1) | ((fail_if_success (with_reducible show LCg.CompSrc _ _ _ _ _ _ _ _ _ _ _ _ _ _)); dsimp only; walk1) | fail "no step")
    rename Fr _ _ _ _ => F5
    rename News _ _ _ _ => N5
    rename List.map _ _ = Txt.split _ _ => es5
    refine LCg.CompSrc.ledger rfl F5 N5 (.head _) ?z5 ?_
    case z5 =>
      rw [List.size_toArray, sizeLine_eq]
      have := len_le_of_split es5
      simp only [Str.length_append] at this
      have e1 : (Str.ofString "\t").length = 1 := by decide
      rw [e1] at this
      simp only [strValues, List.length_map]
      omega
    intro g5
    clear F5 N5
    have hrl5 : (bes ++ Str.ofString "\t" ++ d.lead).length ≤ 19 := by
      have e1 : (Str.ofString "\t").length = 1 := by decide
      simp only [Str.length_append, e1]
      omega
    refine comp_lens (by simp [strValues]) (.inr ⟨_, .head _, rfl, _, rfl⟩) ?_ ?_
    · intro i r u I oI C oC D ys news m₂ h tk E' Q hl hC hx F N hret
      have hr5 : r.length ≤ 19 := Nat.le_trans (part_short (by rw [← es5]; exact List.mem_map.mpr ⟨(r, u), List.mem_of_getElem? hl, rfl⟩)) hrl5
      clear hrl5
      repeat' (first | (k_unfold; (try dsimp only)) | (k_end; wrow_close) | (walk1) | (dsimp only; walk1) | fail "no step")
      exact hret _ _ _ (by assumption) (by assumption)
    · intro zs Iz
      repeat' (first | (k_unfold; (try dsimp only)) | (k_end; wrow_close) | ((fail_if_success (with_reducible show wpAny _ _ (call _ _) _ _ _)); walk1) | ((fail_if_success (with_reducible show wpAny _ _ (call _ _) _ _ _)); dsimp only; walk1) | fail "no step")
      rename Fr _ _ _ _ => F5
      rename News _ _ _ _ => N5
      refine' kso_max F5 N5 (News.isList N5 (.head _)) Iz ?hns rfl ?_
      case hns =>
        rw [List.length_map]
        exact len_of_split es5
      intro h5 M t5 tk5 F4 N4 hM hle
      have hMe : M = longL bes d.lead := by
        unfold longL
        rw [← es5, List.map_map]
        refine max_fold hM hle ?_
        obtain ⟨p5, _, rfl⟩ := List.mem_map.mp hM
        exact Int.natCast_nonneg _
      have hM0 : 0 ≤ M := by
        obtain ⟨p5, _, rfl⟩ := List.mem_map.mp hM
        exact Int.natCast_nonneg _
      clear hM hle
      have hM9 : M ≤ 9 := hMe ▸ hlg
      repeat' (first | (k_unfold; (try dsimp only)) | (k_end; wrow_close) | ((fail_if_success (with_reducible show LCt.CompSrcT _ _ _ _ _ _ _ _ _ _ _ _ _ _ _)); walk1) | ((fail_if_success (with_reducible show LCt.CompSrcT _ _ _ _ _ _ _ _ _ _ _ _ _ _ _)); dsimp only; walk1) | fail "no step")
      rename Fr _ _ _ _ => F3
      rename News _ _ _ _ => N3
      rename IsRange _ _ _ _ _ _ _ _ => rg3
      have N2 := cb_drop (news := (L9 + 1 + 1, oc2) :: (lev, W.listOf evs1.toArray e1) :: (lo, W.listOf vo.toArray eo) :: (lc, W.listOf vc.toArray ec) :: (L9 + 1, oN) :: (ch1 ++ (led ++ own))) N3 (by walk_at "M subs")
      clear N3
      refine LCt.CompSrcT.range (n := (M + 1).toNat) rfl F3 N2 rg3 ?sm3 ?sz3 ?zz3 ?_
      case sm3 => exact small_one (by omega) (by omega) (by omega) (by omega)
      case sz3 => 
        rw [rangeSize_nat]
        omega
      case zz3 =>
        rw [sizeLine_eq]
        omega
      intro g3
      clear F3 N2
      refine comp_tups (T := fun z => (colsL bes).getD (z - 1).toNat 0 != (colsL d.lead).getD (z - 1).toNat 0) (f := fun z => (colsL bes).getD (z - 1).toNat 0) (g := fun z => (colsL d.lead).getD (z - 1).toNat 0) ?_ ?_
      · intro k3 t3 I oI C oC D3 ys m₂ h3 tk3 E' Qy Qn nw hk3 hl3 hC hx F N hy hn
        obtain ⟨ta, ha⟩ := cols_at I1 (k := k3 - 1) (by omega) (by omega)
        obtain ⟨tb, hb⟩ := cols_at I7 (k := k3 - 1) (by omega) (by omega)
        repeat' (first | (k_unfold; (try dsimp only)) | (k_end; wrow_close) | (walk1) | (dsimp only; walk1) | fail "no step")
        · rename _ ∧ _ ∧ _ ∧ AllLt _ _ => lt9
          exact hy (bne_iff_ne.mpr (by assumption)) _ _ _ _ _ _ _ (by assumption) (by assumption) (allLt_memE (l := (I, oI) :: (C, oC) :: (D3, lst ys) :: _) lt9)
        · exact hn (bne_eq_false_iff_eq.mpr (by assumption)) _ _ (by assumption) (by assumption)
      · intro zs ch hdat hlt
        repeat' (first | (k_unfold; (try dsimp only)) | (k_end; wrow_close) | ((fail_if_success (with_reducible show wpAny _ _ (execs _ _) _ _ _)); walk1) | ((fail_if_success (with_reducible show wpAny _ _ (execs _ _) _ _ _)); dsimp only; walk1) | fail "no step")
        rename News _ _ _ _ => N1
        rename Off1 _ _ => oDu
        refine pickH N1 ?_
        rintro Du rfl
        repeat' (first | (k_unfold; (try dsimp only)) | (k_end; wrow_close) | ((fail_if_success (with_reducible show LCt.CompSrcT _ _ _ _ _ _ _ _ _ _ _ _ _ _ _)); (fail_if_success (with_reducible show wpAny _ _ (call (Value.builtin "list.append") _) _ _ _)); walk1) | ((fail_if_success (with_reducible show LCt.CompSrcT _ _ _ _ _ _ _ _ _ _ _ _ _ _ _));  (fail_if_success (with_reducible show wpAny _ _ (call (Value.builtin "list.append") _) _ _ _)); dsimp only; walk1) | fail "no step")
        · rename Fr _ _ _ _ => F1
          rename News _ _ _ _ => N1
          have hnw : ∀ p ∈ ([] : List (Addr × Obj)), ∀ q ∈ (L9 + 1 + 1, oc2) :: (lev, W.listOf evs1.toArray e1) :: (lo, W.listOf vo.toArray eo) :: (lc, W.listOf vc.toArray ec) :: (L9 + 1, oN) :: (ch1 ++ (led ++ own)), p.1 ≠ q.1 := fun _ h => nomatch h
          k_dflt refine' app_lst (rest := (L9 + 1 + 1, oc2) :: ((([] : List (Addr × Obj)) ++ ch1) ++ ((lc, W.listOf vc.toArray ec) :: (L9 + 1, oN) :: (led ++ own)))) F1 N1 ?am ?ar ?an ?az ?_
          case am => k_mem
          case ar => walk_at "M subs"
          case an => exact all_cons (by k_ne) (all_app (all_app (fun p hp => hnw p hp (lev, W.listOf evs1.toArray e1) (by k_mem)) q3) (all_cons (by k_ne) (all_cons (by k_ne) (by k_all))))
          case az => omega
          intro h0 F0 N0
          clear F1 N1
          repeat' (first | (k_unfold; (try dsimp only)) | (k_end; wrow_close) | walk1 | (dsimp only; walk1) | fail "no step")
          refine g_end (⟨oc2, evs1 ++ [_], e1 + 1, ([] : List (Addr × Obj)) ++ ch1⟩ : ES) F0 N0 (by walk_at "M subs") (by walk_at "M sub") (own_far (new := ([] : List (Addr × Obj))) own1 fun p hp q hq => hnw p hp q (.tail _ (.tail _ (.tail _ (.tail _ (.tail _ (List.mem_append_right _ (List.mem_append_right _ hq)))))))) (List.forall_mem_nil _) ?hr (PEv.snoc (e := e1) ⟨q1, ⟨_, q2⟩, q3, q4, q7, q5⟩ hd q6 (fun p hp => hnw p hp (lev, W.listOf evs1.toArray e1) (by k_mem)) (fun p hp => hnw p hp (L9 + 1 + 1, oc2) (by k_mem)) (fun p hp q hq => hnw p hp q (.tail _ (.tail _ (.tail _ (.tail _ (.tail _ (List.mem_append_right _ (List.mem_append_left _ hq)))))))) (.inl ?hv))
          case hr =>
            intro z h1 _ h3
            obtain ⟨z1, z2, z3, z4, z5⟩ := same5 h3
            simp only [if_neg h1, if_neg z1, if_neg z2, if_neg z3, if_neg z4, if_neg z5, kstB, h3, Bool.false_eq_true, if_false]
          case hv =>
            unfold evOut
            rw [if_pos (by assumption)]
            exact .bad
        · rename Fr _ _ _ _ => F3
          rename News _ _ _ _ => N3
          rename IsRange _ _ _ _ _ _ _ _ => rg4
          refine LCt.CompSrcT.range (n := 10) rfl F3 N3 rg4 rfl rfl (by rw [sizeLine_eq]; omega) ?_
          intro g4
          clear F3 N3
          refine comp_ints (T := fun z => decide ((colsL d.lead).getD z.toNat 0 ≤ (colsL bes).getD z.toNat 0)) ?_ ?_
          · intro k3 t3 I oI C oC D3 ys m₂ h3 tk3 E' Qy Qn nw hk3 hl3 hC hx F N hy hn
            obtain ⟨ta, ha⟩ := cols_at I1 (k := k3) (by omega) (by omega)
            obtain ⟨tb, hb⟩ := cols_at I7 (k := k3) (by omega) (by omega)
            repeat' (first | (k_unfold; (try dsimp only)) | (k_end; wrow_close) | walk1 | (dsimp only; walk1) | fail "no step")
            · exact hy (decide_eq_true (by assumption)) _ _ (by assumption) (by assumption)
            · exact hn (decide_eq_false (by assumption)) _ _ (by assumption) (by assumption)
          · intro zs2 Iz2
            repeat' (first | (k_unfold; (try dsimp only)) | (k_end; wrow_close) | ((fail_if_success (with_reducible show wpAny _ _ (call (Value.builtin "list.append") _) _ _ _)); (fail_if_success (with_reducible show wpAny _ _ (compareOp _ (Value.ref lc) (Value.ref lo)) _ _ _)); walk1) | ((fail_if_success (with_reducible show wpAny _ _ (call (Value.builtin "list.append") _) _ _ _)); (fail_if_success (with_reducible show wpAny _ _ (compareOp _ (Value.ref lc) (Value.ref lo)) _ _ _)); dsimp only; walk1) | fail "no step")
            · rename Fr _ _ _ _ => F1
              rename News _ _ _ _ => N1
              rename _ ∧ _ ∧ _ ∧ AllLt _ _ => lt9
              refine pickO N1 ?_
              rintro T1 oT rfl hoT
              rw [← hoT] at N1
              obtain ⟨_, _, _, lt9⟩ := lt9
              have hnw : ∀ p ∈ [(T1, oT)], ∀ q ∈ (L9 + 1 + 1, oc2) :: (lev, W.listOf evs1.toArray e1) :: (lo, W.listOf vo.toArray eo) :: (lc, W.listOf vc.toArray ec) :: (L9 + 1, oN) :: (ch1 ++ (led ++ own)), p.1 ≠ q.1 := new_cons (fun q hq => Nat.ne_of_lt (allLt_memE (l := ch ++ ((L9 + 1 + 1, oc2) :: (lev, W.listOf evs1.toArray e1) :: (lo, W.listOf vo.toArray eo) :: (lc, W.listOf vc.toArray ec) :: (L9 + 1, oN) :: (ch1 ++ (led ++ own)))) lt9 q (List.mem_append_right _ hq))) (fun _ h => nomatch h)
              k_dflt refine' app_lst (rest := (L9 + 1 + 1, oc2) :: (([(T1, oT)] ++ ch1) ++ ((lc, W.listOf vc.toArray ec) :: (L9 + 1, oN) :: (led ++ own)))) F1 N1 ?am ?ar ?an ?az ?_
              case am => k_mem
              case ar => walk_at "M subs"
              case an => exact all_cons (by k_ne) (all_app (all_app (fun p hp => hnw p hp (lev, W.listOf evs1.toArray e1) (by k_mem)) q3) (all_cons (by k_ne) (all_cons (by k_ne) (by k_all))))
              case az => omega
              intro h0 F0 N0
              clear F1 N1
              repeat' (first | (k_unfold; (try dsimp only)) | (k_end; wrow_close) | walk1 | (dsimp only; walk1) | fail "no step")
              refine g_end (⟨oc2, evs1 ++ [_], e1 + 1, [(T1, oT)] ++ ch1⟩ : ES) F0 N0 (by walk_at "M subs") (by walk_at "M sub") (own_far (new := [(T1, oT)]) own1 fun p hp q hq => hnw p hp q (.tail _ (.tail _ (.tail _ (.tail _ (.tail _ (List.mem_append_right _ (List.mem_append_right _ hq)))))))) (List.forall_mem_nil _) ?hr (PEv.snoc (e := e1) ⟨q1, ⟨_, q2⟩, q3, q4, q7, q5⟩ hd q6 (fun p hp => hnw p hp (lev, W.listOf evs1.toArray e1) (by k_mem)) (fun p hp => hnw p hp (L9 + 1 + 1, oc2) (by k_mem)) (fun p hp q hq => hnw p hp q (.tail _ (.tail _ (.tail _ (.tail _ (.tail _ (List.mem_append_right _ (List.mem_append_left _ hq)))))))) (.inl ?hv))
              case hr =>
                intro z h1 _ h3
                obtain ⟨z1, z2, z3, z4, z5⟩ := same5 h3
                simp only [if_neg h1, if_neg z1, if_neg z2, if_neg z3, if_neg z4, if_neg z5, kstB, h3, Bool.false_eq_true, if_false]
              case hv =>
                unfold evOut
                rw [if_neg (by assumption), if_pos (of_decide_eq_true (by assumption)), if_pos (by assumption), hoT]
                exact .hit (.head _)
            · rename Fr _ _ _ _ => F1
              rename News _ _ _ _ => N1
              have hnw : ∀ p ∈ ([] : List (Addr × Obj)), ∀ q ∈ (L9 + 1 + 1, oc2) :: (lev, W.listOf evs1.toArray e1) :: (lo, W.listOf vo.toArray eo) :: (lc, W.listOf vc.toArray ec) :: (L9 + 1, oN) :: (ch1 ++ (led ++ own)), p.1 ≠ q.1 := fun _ h => nomatch h
              k_dflt refine' app_lst (rest := (L9 + 1 + 1, oc2) :: ((([] : List (Addr × Obj)) ++ ch1) ++ ((lc, W.listOf vc.toArray ec) :: (L9 + 1, oN) :: (led ++ own)))) F1 N1 ?am ?ar ?an ?az ?_
              case am => k_mem
              case ar => walk_at "M subs"
              case an => exact all_cons (by k_ne) (all_app (all_app (fun p hp => hnw p hp (lev, W.listOf evs1.toArray e1) (by k_mem)) q3) (all_cons (by k_ne) (all_cons (by k_ne) (by k_all))))
              case az => omega
              intro h0 F0 N0
              clear F1 N1
              repeat' (first | (k_unfold; (try dsimp only)) | (k_end; wrow_close) | walk1 | (dsimp only; walk1) | fail "no step")
              refine g_end (⟨oc2, evs1 ++ [_], e1 + 1, ([] : List (Addr × Obj)) ++ ch1⟩ : ES) F0 N0 (by walk_at "M subs") (by walk_at "M sub") (own_far (new := ([] : List (Addr × Obj))) own1 fun p hp q hq => hnw p hp q (.tail _ (.tail _ (.tail _ (.tail _ (.tail _ (List.mem_append_right _ (List.mem_append_right _ hq)))))))) (List.forall_mem_nil _) ?hr (PEv.snoc (e := e1) ⟨q1, ⟨_, q2⟩, q3, q4, q7, q5⟩ hd q6 (fun p hp => hnw p hp (lev, W.listOf evs1.toArray e1) (by k_mem)) (fun p hp => hnw p hp (L9 + 1 + 1, oc2) (by k_mem)) (fun p hp q hq => hnw p hp q (.tail _ (.tail _ (.tail _ (.tail _ (.tail _ (List.mem_append_right _ (List.mem_append_left _ hq)))))))) (.inl ?hv))
              case hr =>
                intro z h1 _ h3
                obtain ⟨z1, z2, z3, z4, z5⟩ := same5 h3
                simp only [if_neg h1, if_neg z1, if_neg z2, if_neg z3, if_neg z4, if_neg z5, kstB, h3, Bool.false_eq_true, if_false]
              case hv =>
                unfold evOut
                rw [if_neg (by assumption), if_pos (of_decide_eq_true (by assumption)), if_neg (by assumption)]
                exact .none
            · rename Fr _ _ _ _ => F1
              rename News _ _ _ _ => N1
              k_dflt refine' eq_intsK (News.isList N1 ?m1) I1 (News.isList N1 ?m2) I7 ?u1 ?_
              case m1 => k_mem
              case m2 => k_mem
              case u1 => units_room
              repeat' (first | (k_unfold; (try dsimp only)) | (k_end; wrow_close) | ((fail_if_success (with_reducible show wpAny _ _ (call (Value.builtin "list.append") _) _ _ _)); (fail_if_success (with_reducible show LCt.CompSrcT _ _ _ _ _ _ _ _ _ _ _ _ _ _ _)); walk1) | ((fail_if_success (with_reducible show wpAny _ _ (call (Value.builtin "list.append") _) _ _ _)); (fail_if_success (with_reducible show LCt.CompSrcT _ _ _ _ _ _ _ _ _ _ _ _ _ _ _)); dsimp only; walk1) | fail "no step")
              · rename Fr _ _ _ _ => F1
                rename News _ _ _ _ => N1
                have hnw : ∀ p ∈ ([] : List (Addr × Obj)), ∀ q ∈ (L9 + 1 + 1, oc2) :: (lev, W.listOf evs1.toArray e1) :: (lo, W.listOf vo.toArray eo) :: (lc, W.listOf vc.toArray ec) :: (L9 + 1, oN) :: (ch1 ++ (led ++ own)), p.1 ≠ q.1 := fun _ h => nomatch h
                k_dflt refine' app_lst (rest := (L9 + 1 + 1, oc2) :: ((([] : List (Addr × Obj)) ++ ch1) ++ ((lc, W.listOf vc.toArray ec) :: (L9 + 1, oN) :: (led ++ own)))) F1 N1 ?am ?ar ?an ?az ?_
                case am => k_mem
                case ar => walk_at "M subs"
                case an => exact all_cons (by k_ne) (all_app (all_app (fun p hp => hnw p hp (lev, W.listOf evs1.toArray e1) (by k_mem)) q3) (all_cons (by k_ne) (all_cons (by k_ne) (by k_all))))
                case az => omega
                intro h0 F0 N0
                clear F1 N1
                repeat' (first | (k_unfold; (try dsimp only)) | (k_end; wrow_close) | walk1 | (dsimp only; walk1) | fail "no step")
                refine g_end (⟨oc2, evs1 ++ [_], e1 + 1, ([] : List (Addr × Obj)) ++ ch1⟩ : ES) F0 N0 (by walk_at "M subs") (by walk_at "M sub") (own_far (new := ([] : List (Addr × Obj))) own1 fun p hp q hq => hnw p hp q (.tail _ (.tail _ (.tail _ (.tail _ (.tail _ (List.mem_append_right _ (List.mem_append_right _ hq)))))))) (List.forall_mem_nil _) ?hr (PEv.snoc (e := e1) ⟨q1, ⟨_, q2⟩, q3, q4, q7, q5⟩ hd q6 (fun p hp => hnw p hp (lev, W.listOf evs1.toArray e1) (by k_mem)) (fun p hp => hnw p hp (L9 + 1 + 1, oc2) (by k_mem)) (fun p hp q hq => hnw p hp q (.tail _ (.tail _ (.tail _ (.tail _ (.tail _ (List.mem_append_right _ (List.mem_append_left _ hq)))))))) (.inl ?hv))
                case hr =>
                  intro z h1 _ h3
                  obtain ⟨z1, z2, z3, z4, z5⟩ := same5 h3
                  simp only [if_neg h1, if_neg z1, if_neg z2, if_neg z3, if_neg z4, if_neg z5, kstB, h3, Bool.false_eq_true, if_false]
                case hv =>
                  unfold evOut
                  rw [if_neg (by assumption), if_neg (of_decide_eq_false (by assumption)), if_pos (.inl (by assumption))]
                  exact .none
              · rename Fr _ _ _ _ => F3
                rename News _ _ _ _ => N3
                rename IsRange _ _ _ _ _ _ _ _ => rg4
                refine LCt.CompSrcT.range (n := 10) rfl F3 N3 rg4 rfl rfl (by rw [sizeLine_eq]; omega) ?_
                intro g5
                clear F3 N3
                refine comp_ints (T := fun z => decide ((colsL bes).getD z.toNat 0 ≤ (colsL d.lead).getD z.toNat 0)) ?_ ?_
                · intro k3 t3 I oI C oC D3 ys m₂ h3 tk3 E' Qy Qn nw hk3 hl3 hC hx F N hy hn
                  obtain ⟨ta, ha⟩ := cols_at I1 (k := k3) (by omega) (by omega)
                  obtain ⟨tb, hb⟩ := cols_at I7 (k := k3) (by omega) (by omega)
                  repeat' (first | (k_unfold; (try dsimp only)) | (k_end; wrow_close) | walk1 | (dsimp only; walk1) | fail "no step")
                  · exact hy (decide_eq_true (by assumption)) _ _ (by assumption) (by assumption)
                  · exact hn (decide_eq_false (by assumption)) _ _ (by assumption) (by assumption)
                · intro zs3 Iz3
                  repeat' (first | (k_unfold; (try dsimp only)) | (k_end; wrow_close) | ((fail_if_success (with_reducible show wpAny _ _ (call (Value.builtin "list.append") _) _ _ _)); walk1) | ((fail_if_success (with_reducible show wpAny _ _ (call (Value.builtin "list.append") _) _ _ _)); dsimp only; walk1) | fail "no step")
                  · rename Fr _ _ _ _ => F1
                    rename News _ _ _ _ => N1
                    have hnw : ∀ p ∈ ([] : List (Addr × Obj)), ∀ q ∈ (L9 + 1 + 1, oc2) :: (lev, W.listOf evs1.toArray e1) :: (lo, W.listOf vo.toArray eo) :: (lc, W.listOf vc.toArray ec) :: (L9 + 1, oN) :: (ch1 ++ (led ++ own)), p.1 ≠ q.1 := fun _ h => nomatch h
                    k_dflt refine' app_lst (rest := (L9 + 1 + 1, oc2) :: ((([] : List (Addr × Obj)) ++ ch1) ++ ((lc, W.listOf vc.toArray ec) :: (L9 + 1, oN) :: (led ++ own)))) F1 N1 ?am ?ar ?an ?az ?_
                    case am => k_mem
                    case ar => walk_at "M subs"
                    case an => exact all_cons (by k_ne) (all_app (all_app (fun p hp => hnw p hp (lev, W.listOf evs1.toArray e1) (by k_mem)) q3) (all_cons (by k_ne) (all_cons (by k_ne) (by k_all))))
                    case az => omega
                    intro h0 F0 N0
                    clear F1 N1
                    repeat' (first | (k_unfold; (try dsimp only)) | (k_end; wrow_close) | walk1 | (dsimp only; walk1) | fail "no step")
                    refine g_end (⟨oc2, evs1 ++ [_], e1 + 1, ([] : List (Addr × Obj)) ++ ch1⟩ : ES) F0 N0 (by walk_at "M subs") (by walk_at "M sub") (own_far (new := ([] : List (Addr × Obj))) own1 fun p hp q hq => hnw p hp q (.tail _ (.tail _ (.tail _ (.tail _ (.tail _ (List.mem_append_right _ (List.mem_append_right _ hq)))))))) (List.forall_mem_nil _) ?hr (PEv.snoc (e := e1) ⟨q1, ⟨_, q2⟩, q3, q4, q7, q5⟩ hd q6 (fun p hp => hnw p hp (lev, W.listOf evs1.toArray e1) (by k_mem)) (fun p hp => hnw p hp (L9 + 1 + 1, oc2) (by k_mem)) (fun p hp q hq => hnw p hp q (.tail _ (.tail _ (.tail _ (.tail _ (.tail _ (List.mem_append_right _ (List.mem_append_left _ hq)))))))) (.inl ?hv))
                    case hr =>
                      intro z h1 _ h3
                      obtain ⟨z1, z2, z3, z4, z5⟩ := same5 h3
                      simp only [if_neg h1, if_neg z1, if_neg z2, if_neg z3, if_neg z4, if_neg z5, kstB, h3, Bool.false_eq_true, if_false]
                    case hv =>
                      unfold evOut
                      rw [if_neg (by assumption), if_neg (of_decide_eq_false (by assumption)), if_pos (.inr (of_decide_eq_true (by assumption)))]
                      exact .none
                  · rename Fr _ _ _ _ => F1
                    rename News _ _ _ _ => N1
                    rename _ ∧ _ ∧ _ ∧ _ ∧ _ ∧ AllLt _ _ => lt9
                    refine pickO N1 ?_
                    rintro T1 oT rfl hoT
                    rw [← hoT] at N1
                    obtain ⟨_, _, _, _, _, lt9⟩ := lt9
                    have hnw : ∀ p ∈ (T1, oT) :: (Du, lst zs) :: ch, ∀ q ∈ (L9 + 1 + 1, oc2) :: (lev, W.listOf evs1.toArray e1) :: (lo, W.listOf vo.toArray eo) :: (lc, W.listOf vc.toArray ec) :: (L9 + 1, oN) :: (ch1 ++ (led ++ own)), p.1 ≠ q.1 := new_cons (fun q hq => Nat.ne_of_lt (allLt_memE (l := ch ++ ((L9 + 1 + 1, oc2) :: (lev, W.listOf evs1.toArray e1) :: (lo, W.listOf vo.toArray eo) :: (lc, W.listOf vc.toArray ec) :: (L9 + 1, oN) :: (ch1 ++ (led ++ own)))) lt9 q (List.mem_append_right _ hq))) (new_cons (fun q hq => off1_mem oDu q (List.mem_append_right _ hq)) fun p hp q hq => Nat.ne_of_gt (hlt q hq p hp))
                    k_dflt refine' app_lst (rest := (L9 + 1 + 1, oc2) :: ((((T1, oT) :: (Du, lst zs) :: ch) ++ ch1) ++ ((lc, W.listOf vc.toArray ec) :: (L9 + 1, oN) :: (led ++ own)))) F1 N1 ?am ?ar ?an ?az ?_
                    case am => k_mem
                    case ar => walk_at "M subs"
                    case an => exact all_cons (by k_ne) (all_app (all_app (fun p hp => hnw p hp (lev, W.listOf evs1.toArray e1) (by k_mem)) q3) (all_cons (by k_ne) (all_cons (by k_ne) (by k_all))))
                    case az => omega
                    intro h0 F0 N0
                    clear F1 N1
                    repeat' (first | (k_unfold; (try dsimp only)) | (k_end; wrow_close) | walk1 | (dsimp only; walk1) | fail "no step")
                    refine g_end (⟨oc2, evs1 ++ [_], e1 + 1, ((T1, oT) :: (Du, lst zs) :: ch) ++ ch1⟩ : ES) F0 N0 (by walk_at "M subs") (by walk_at "M sub") (own_far (new := ((T1, oT) :: (Du, lst zs) :: ch)) own1 fun p hp q hq => hnw p hp q (.tail _ (.tail _ (.tail _ (.tail _ (.tail _ (List.mem_append_right _ (List.mem_append_right _ hq)))))))) (List.forall_mem_nil _) ?hr (PEv.snoc (e := e1) ⟨q1, ⟨_, q2⟩, q3, q4, q7, q5⟩ hd q6 (fun p hp => hnw p hp (lev, W.listOf evs1.toArray e1) (by k_mem)) (fun p hp => hnw p hp (L9 + 1 + 1, oc2) (by k_mem)) (fun p hp q hq => hnw p hp q (.tail _ (.tail _ (.tail _ (.tail _ (.tail _ (List.mem_append_right _ (List.mem_append_left _ hq)))))))) (.inl ?hv))
                    case hr =>
                      intro z h1 _ h3
                      obtain ⟨z1, z2, z3, z4, z5⟩ := same5 h3
                      simp only [if_neg h1, if_neg z1, if_neg z2, if_neg z3, if_neg z4, if_neg z5, kstB, h3, Bool.false_eq_true, if_false]
                    case hv =>
                      unfold evOut
                      rw [if_neg (by assumption), if_neg (of_decide_eq_false (by assumption)), if_neg (fun h => h.elim (by assumption) (of_decide_eq_false (by assumption)))]
                      have ek1 : (i : Int) + 1 = k + 1 := by omega
                      rw [ek1, hoT]
                      refine .nag (.head _) (.tail _ (.head _)) (DatAll.mono (fun q hq => .tail _ (.tail _ hq)) ?_) ⟨_, _, _, rfl⟩
                      unfold unlikeL
                      rw [← hMe]
                      exact hdat
  · clear lF lN
    rintro ⟨oc1, evs1, e1, ch1⟩ u h tk hP F9 N9
    obtain ⟨q1, _, q3, q4, q7, q5⟩ := hP
    subst hlev hcO hcN
    dsimp only [kstB] at F9 N9 q1 q3 q4 q5 q7
    k_steps
    change Q (Value.ref _) _
    rename Fr _ _ _ _ => F9
    rename News _ _ _ _ => N9
    refine hret _ evs1 e1 ch1 _ _ (S.keeps F9 N9 (by walk_at "M sub")) (fun q hq => ?_) q1 q5
    have hq' : q ∈ (lev, W.listOf evs1.toArray e1) :: (L9 + 1 + 1, oc1) :: (ch1 ++ ((lc, W.listOf vc.toArray ec) :: (L9 + 1, oN) :: led)) := by
      rcases List.mem_cons.mp hq with rfl | hq
      · exact .head _
      · exact .tail _ (.tail _ (List.mem_append_left _ hq))
    refine ⟨(N9 q hq').1, S.freshN (a := q.1) (o := q.2) N9 hq' fun z hz => ?_⟩
    rcases List.mem_cons.mp hq with rfl | hq
    · exact v6 z hz
    · exact Ne.symm (q7 q hq z hz) : ∀ (prog : Program) (w : World) (s : Shared) (base : Heap) (g : Heap) (fr : List Env) (gd : Option (List Code)) (p : Program) (loose : List Str) (mean : ExcName → Option Value) (mg : Str → Option Value) (mb : Str → Option Value) (Q : Value → Shared → Prop) (E : Value → Shared → Prop) (ar : Addr) (ab : Addr) (ad : Addr) (er : Nat) (eb : Nat) (ed : Nat) (vs : List Value) (bs : List Value) (ds : List Value) (D : List EvD) (bes : Str) (tw : Tok) (led : List (Addr × Obj)), ev_spec_P prog w s base g fr gd p loose mean mg mb Q E ar ab ad er eb ed vs bs ds D bes tw led) _ _ _ _ _ _ _ _ _ _ _ _ _ _ _ _ _ _ _ _ _ _ _ _ _ _ _
theorem ev_spec {Q E : Value → Shared → Prop} {ar ab ad : Addr} {er eb ed : Nat} {vs bs ds : List Value} {D : List EvD} {bes : Str} {tw : Tok} {led : List (Addr × Obj)}
    (S : Std (AT 500 1000 fr gd) base fr g (Mine.hd.heap_1 w.params) p loose mean mg mb s.heap led)
    (mr : (ar, W.listOf vs.toArray er) ∈ led) (mbg : (ab, W.listOf bs.toArray eb) ∈ led) (md : (ad, W.listOf ds.toArray ed) ∈ led)
    (hvs : vs.length = 5) (hDl : D.length = 5) (hD : EvsAt led bes D vs bs ds) (lb : bes.length ≤ 9)
    (hret : ∀ (lev : Addr) (evs : List Value) (e : Nat) (ch : List (Addr × Obj)) (h' : Heap) (tk' : Nat), s.heap.StaysIn h' → (∀ q ∈ (lev, W.listOf evs.toArray e) :: ch, h'.get? q.1 = some q.2 ∧ s.heap.get? q.1 = none) → evs.length = 5 → (∀ (j : Nat) (v : Value), evs[j]? = some v → ∃ d, D[j]? = some d ∧ EvV ch v (evOut bes j d)) → Q (.ref lev) { s with heap := h', toks := tk' }) :
    wpAny (model prog w) (AT 500 1000 fr gd) (call (.ref 180) [.ref ar, .ref ab, .ref ad, .str bes tw]) Q E s :=
  (show ev_spec_P prog w s base g fr gd p loose mean mg mb Q E ar ab ad er eb ed vs bs ds D bes tw led from close1 (R := ev_spec_R) _ ev_spec_core (prog, w, s, base, g, fr, gd, p, loose, mean, mg, mb, Q, E, ar, ab, ad, er, eb, ed, vs, bs, ds, D, bes, tw, led)) S mr mbg md hvs hDl hD lb hret
end

section
open PySem PySem.W PyProof.Rows PySem.Calls PyProof.Rows.LCg PySem.Spec
set_option maxRecDepth 100000
/-- an exception that flies, its dict, and what holds of all that outlives it -/
noncomputable def FlewP (P : Heap → Prop) (base G : Heap) (l : List Env) (e : Addr) (cls : Value) (dx : Option Addr) (news : List (Addr × Obj)) (h : Heap) : Prop :=
  ∃ B a0, base.StaysIn B ∧ (∀ b o, G.get? b = some o → b ∉ l.filterMap (·.frame) → B.get? b = some o) ∧ (∀ q ∈ news, B.get? q.1 = some q.2 ∧ G.get? q.1 = none ∧ base.get? q.1 = none) ∧ Heap.FlyingW B l e cls a0 h ∧ P B ∧ ∃ o, h.get? e = some o ∧ o.dict = dx
theorem FlewP.flew {P : Heap → Prop} {base G : Heap} {l : List Env} {e : Addr} {cls : Value} {dx : Option Addr} {news : List (Addr × Obj)} {h : Heap} (R : FlewP P base G l e cls dx news h) : Flew base G l e cls dx news h :=
  R.elim fun B r => r.elim fun a0 h => ⟨⟨B, a0, h.1, h.2.1, h.2.2.1, h.2.2.2.1⟩, h.2.2.2.2.2⟩
theorem Flew.withT {base G : Heap} {l : List Env} {e : Addr} {cls : Value} {dx : Option Addr} {news : List (Addr × Obj)} {h : Heap} (R : Flew base G l e cls dx news h) : FlewP (fun _ => True) base G l e cls dx news h :=
  R.1.elim fun B r => r.elim fun a0 h => ⟨B, a0, h.1, h.2.1, h.2.2.1, h.2.2.2, trivial, R.2⟩
/-- the data of a chunk outlives -/
theorem Flew.withRD {base G : Heap} {l : List Env} {e : Addr} {cls : Value} {dx : Option Addr} {ch news : List (Addr × Obj)} {h : Heap} {v : Value} {d : Dat} (R : Flew base G l e cls dx (ch ++ news) h) (hd : KtsDicts (l.filterMap (·.frame)) G) (r : RDV G ch v d) :
    FlewP (fun B => RD B v d) base G l e cls dx news h := by
  obtain ⟨⟨B, a0, h1, h2, h3, h4⟩, h6⟩ := R
  refine ⟨B, a0, h1, h2, fun q hq => h3 q (List.mem_append_right _ hq), h4, r B (fun b o ho hs => h2 b o ho fun hm => ?_) fun q hq => (h3 q (List.mem_append_left _ hq)).1, h6⟩
  obtain ⟨o', es, n, ho', hd'⟩ := hd b hm
  rw [ho] at ho'
  cases ho'
  obtain ⟨vs, k, hv⟩ := hs
  rw [hd'] at hv
  cases hv
theorem dicts_push {env : Env} {outer : List Env} {h₀ h : Heap} {L : Addr} {m : Str → Option Value} (D : KtsDicts (outer.filterMap (·.frame)) h₀) (F : Fr h₀ L h m) (hf : env.frame = some L) : KtsDicts ((env :: outer).filterMap (·.frame)) h := fun b hb => by
  rcases fly_mem hf hb with rfl | z
  · obtain ⟨o, es, ep, ho, hd, _⟩ := F.ns
    exact ⟨o, es, ep, ho, hd⟩
  · obtain ⟨o, es, n, ho, hd⟩ := D b z
    exact ⟨o, es, n, F.keep _ _ ho, hd⟩
section
variable {M : Model} {A : Around} {E : Value → Shared → Prop} {s' : Shared} {base g g₂ : Heap} {outer : List Env} {env : Env} {L e : Addr} {m : Str → Option Value} {Q : Unit → Shared → Prop} {news : List (Addr × Obj)} {cls : Value} {dx : Option Addr} {P : Heap → Prop}
theorem fly_onP (K : Below A base outer g) (F : Fr g L g₂ m) (R : FlewP P base g₂ (env :: outer) e cls dx news s'.heap) (hsm : g₂.UpToSlots s'.heap) (hf : env.frame = some L)
    (hQ : ∀ h', FlewP P base g outer e cls dx news h' → g.UpToSlots h' → Q () { s' with heap := h' }) : wpAny M (A.deeper env) (leaving env (.ref e)) Q E s' := by
  obtain ⟨B, a0, hB, hBG, hl, hfl, hP, o, ho, hdx⟩ := R
  refine with_dict (P := fun h' => Heap.FlyingW B outer e cls a0 h' ∧ s'.heap.UpToSlots h') (dk_leaving _ _) (fun Q k => wpAny_leaves_onW (Around.frames_deeper K.stack) hf hfl fun h' x1 x2 => k h' ⟨x1, x2⟩) fun h' x ds => ?_
  refine hQ h' ⟨B, a0, hB, fun b o q nm => hBG b o (F.keep b o q) (fun hm => ?_), fun q hq => ⟨(hl q hq).1, kts_none F.keep (hl q hq).2.1, (hl q hq).2.2⟩, x.1, hP, ?_⟩ ((Heap.UpToSlots.of_keeps F.keep).trans (hsm.trans x.2))
  · rcases fly_mem hf hm with z | z
    · rw [z, kts_self F] at q
      cases q
    · exact nm z
  · obtain ⟨o', e', d'⟩ := ds _ _ ho
    exact ⟨o', e', d'.trans hdx⟩
end
/-- a code object of that name -/
noncomputable def CodeQ (o : Obj) (q : Str) : Prop := ∃ vs t, o.data = .fields vs ∧ vs[1]? = some (Value.str q t)
theorem CodeQ.rec' {h : Heap} {a : Addr} {o : Obj} {q : Str} (c : CodeQ o q) (e : h.get? a = some o) : h.CodeRec (.ref a) q :=
  let ⟨vs, t, d, v⟩ := c; ⟨a, o, vs, t, rfl, e, d, v⟩
theorem RowsAt.mono {led led' : List (Addr × Obj)} {D : List RowD} {vs bs ls : List Value} (h : RowsAt led D vs bs ls) (k : ∀ q ∈ led, q ∈ led') : RowsAt led' D vs bs ls := fun i d hd =>
  (h i d hd).imp_right fun q => q.imp fun t q => q.imp fun tb q => q.imp fun x q => ⟨q.1, q.2.1, q.2.2.1, q.2.2.2.mono k⟩
/-- the data of the inner search -/
structure SeR where
  c : Addr
  td : Addr
  cT : Addr
  cR : Addr
  cL : Addr
  cB : Addr
  cG : Addr
  ar : Addr
  ab : Addr
  al : Addr
  xb : Addr
  qual : Str
  ps : Arguments
  body : List Stmt
  sc : Scope
  doc : Value
  pm : Value
  ct : Value
  oC : Obj
  oT : Obj
  oR : Obj
  oL : Obj
  oB : Obj
  oG : Obj
  t0 : Tok
  tt : Tok
  er : Nat
  eb : Nat
  el : Nat
  vs : List Value
  bs : List Value
  ls : List Value
/-- the inner search, its cells and what they hold -/
structure SeW (w : World) (led : List (Addr × Obj)) (sf : Addr) (D : List RowD) (bes text : Str) (r : SeR) : Prop where
  hs : sDef (Mine.hd.heap_1 w.params) = some (r.ps, r.body, r.sc)
  hf : (sf, kdv_obj (Str.ofString "search") r.qual r.ps (.stmts r.body) r.sc [(Str.ofString "text", r.cT), (Str.ofString "rows", r.cR), (Str.ofString "leads", r.cL), (Str.ofString "beside", r.cB), (Str.ofString "begins", r.cG)] (.ref r.td) r.doc r.pm r.c r.ct) ∈ led
  mC : (r.c, r.oC) ∈ led
  dC : CodeQ r.oC r.qual
  mD : (r.td, kdv_tup [.int 0 r.t0]) ∈ led
  mT : (r.cT, r.oT) ∈ led
  dT : r.oT.data = .cell (some (.str text r.tt))
  mR : (r.cR, r.oR) ∈ led
  dR : r.oR.data = .cell (some (.ref r.ar))
  mL : (r.cL, r.oL) ∈ led
  dL : r.oL.data = .cell (some (.ref r.al))
  mB : (r.cB, r.oB) ∈ led
  dB : r.oB.data = .cell (some (.ref r.xb))
  mG : (r.cG, r.oG) ∈ led
  dG : r.oG.data = .cell (some (.ref r.ab))
  mr : (r.ar, W.listOf r.vs.toArray r.er) ∈ led
  mbg : (r.ab, W.listOf r.bs.toArray r.eb) ∈ led
  ml : (r.al, W.listOf r.ls.toArray r.el) ∈ led
  hvs : r.vs.length = 5
  hDl : D.length = 5
  hD : RowsAt led D r.vs r.bs r.ls
  WB : WsAt led r.xb bes
  lb : bes.length ≤ 50
  htx : text.length ≤ 1000
noncomputable def SeAt (w : World) (led : List (Addr × Obj)) (sf : Addr) (D : List RowD) (bes text : Str) : Prop :=
  ∃ r, SeW w led sf D bes text r
theorem SeW.mono {w : World} {led led' : List (Addr × Obj)} {sf : Addr} {D : List RowD} {bes text : Str} {r : SeR} (S : SeW w led sf D bes text r) (k : ∀ q ∈ led, q ∈ led') : SeW w led' sf D bes text r :=
  ⟨S.hs, k _ S.hf, k _ S.mC, S.dC, k _ S.mD, k _ S.mT, S.dT, k _ S.mR, S.dR, k _ S.mL, S.dL, k _ S.mB, S.dB, k _ S.mG, S.dG, k _ S.mr, k _ S.mbg, k _ S.ml, S.hvs, S.hDl, S.hD.mono k, S.WB.mono k, S.lb, S.htx⟩
theorem SeAt.mono {w : World} {led led' : List (Addr × Obj)} {sf : Addr} {D : List RowD} {bes text : Str} (h : SeAt w led sf D bes text) (k : ∀ q ∈ led, q ∈ led') : SeAt w led' sf D bes text :=
  h.elim fun r S => ⟨r, S.mono k⟩
theorem fill_me16 : PySem.Challenge.rw_mr0234_01 = PySem.Challenge.rw_mr0234_01 ∧ Mine.hd.heap_1 = Mine.hd.heap_1 := by
  k_fill
  exact ⟨rfl, rfl⟩
section
variable {prog : Program} {w : World} {A₀ : Around} {s : Shared} {base h₀ : Heap} {outer : List Env} {env : Env} {L : Addr} {m : Str → Option Value} {tc led : List (Addr × Obj)} {gd : Option (List Code)} {dp un : Nat}
  {p : Program} {loose : List Str} {mean : ExcName → Option Value} {mg mb : Str → Option Value} {Q E : Value → Shared → Prop} {sf : Addr} {D : List RowD} {bes text : Str} {tx tb : Tok} {begin : Int} {args : Args}
/-- how the two calls bind -/
noncomputable def BindOk (w : World) (begin : Int) (text : Str) (args : Args) : Prop := ∀ (s : Shared) (name qual : Str) (ps : Arguments) (body : List Stmt) (sc : Scope) (cl : List (Str × Addr)) (td : Addr) (doc pm cd ct : Value) (t0 : Tok), sDef (Mine.hd.heap_1 w.params) = some (ps, body, sc) → s.heap.get? td = some (kdv_tup [.int 0 t0]) →
  ∃ tx tb, BindsTo s (kdv_fn name qual ps (.stmts body) sc cl (.ref td) doc pm cd ct) args [(Str.ofString "chars", .str text tx), (Str.ofString "begin", .int begin tb)]
theorem bind_two : BindOk w begin text ⟨[.str text tx, .int begin tb], []⟩ := fun s name qual ps body sc cl td doc pm cd ct t0 h ht => by
  refine' use_eq (sDef_of ?kx) h ?_
  case kx => k_is
  intro e
  injection e with e
  injection e with e1 e
  injection e with e2 e3
  subst e1 e2 e3
  exact ⟨tx, tb, BindsTo.of_defaults rfl ht rfl rfl rfl⟩
theorem bind_one : BindOk w 0 text ⟨[.str text tx], []⟩ := fun s name qual ps body sc cl td doc pm cd ct t0 h ht => by
  refine' use_eq (sDef_of ?kx) h ?_
  case kx => k_is
  intro e
  injection e with e
  injection e with e1 e
  injection e with e2 e3
  subst e1 e2 e3
  exact ⟨tx, t0, BindsTo.of_defaults rfl ht rfl rfl rfl⟩
theorem search_use (B : Below A₀ base outer h₀) (F : Fr h₀ L s.heap m) (X : (Mine.hd.heap_1 w.params).In h₀) (T : Top p loose mean mg mb h₀) (N : News h₀ L s.heap (tc ++ led)) (DK : KtsDicts (outer.filterMap (·.frame)) h₀)
    (P : SeAt w led sf D bes text) (C : CodeHd h₀ 155 151) (ht : TabC tc) (hne : ∀ q ∈ led, q.1 ≠ 151) (hb : BindOk w begin text args)
    (hd : dp ≤ 550) (hu : un ≤ 1500) (hf : env.frame = some L) (hke : env.scope.kind = .function)
    (hnone : searchL bes begin 0 D = .none → ∀ h' tk', Fr h₀ L h' m → News h₀ L h' (tc ++ led) → s.heap.StaysIn h' → Q .none { s with heap := h', toks := tk' })
    (hhit : ∀ a b, searchL bes begin 0 D = .hit a b → ∀ f ch tc' h' tk', Fr h₀ L h' m → News h₀ L h' (tc' ++ (ch ++ led)) → TabC tc' → HitC w ch f a b → (∀ q ∈ ch, q.1 ≠ 151) → s.heap.get? f = none → ButT s.heap h' → Q (.ref f) { s with heap := h', toks := tk' })
    (hnag : ∀ k wit row, searchL bes begin 0 D = .nag k wit row → ∀ e d od v2 t1 t3 g₂ h' tk', Fr h₀ L g₂ m → FlewP (fun B => RD B v2 (.list wit)) base g₂ (env :: outer) e (.ref 73) (some d) ((d, od) :: (tc ++ led)) h' → g₂.UpToSlots h' → DObj od (nagM (.int k t1) v2 (.str row t3)) → E (.ref e) { s with heap := h', toks := tk' })
    (hbad : searchL bes begin 0 D = .bad → ∀ e dx g₂ h' tk', Fr h₀ L g₂ m → FlewP (fun _ => True) base g₂ (env :: outer) e (.type "ValueError") dx (tc ++ led) h' → g₂.UpToSlots h' → E (.ref e) { s with heap := h', toks := tk' }) :
    codeAny (model prog w) { handled := none, depth := dp, frames := some (env :: outer), guards := gd, units := un } (.call (.ref sf) args) (fun r s' => match r with | .ok (.ret v) => Q v s' | .ok _ => False | .error e => E e s') s := by
  obtain ⟨r, W⟩ := P
  have S := std_of (A := AT 550 1500 (env :: outer) gd) (led := tc ++ led) B F X T N (fun q hq => hq) rfl hf hke
  have FG := fr_hide F N
  have sub : ∀ q ∈ led, q ∈ tc ++ led := fun q hq => List.mem_append_right _ hq
  obtain ⟨tx, tb, hbind⟩ := hb s (Str.ofString "search") r.qual r.ps r.body r.sc _ r.td r.doc r.pm (.ref r.c) r.ct r.t0 W.hs (N _ (sub _ W.mD)).1
  have st : h₀.StaysIn (hideAll s.heap ((tc ++ led).map (·.1))) := FG.keep
  refine depth_leC (A' := AT 550 1500 (env :: outer) gd) (search_walk S W.hs W.hf (W.dC.rec' (N _ (sub _ W.mC)).1) hbind W.mD W.mT W.dT W.mR W.dR W.mL W.dL W.mB W.dB W.mG W.dG W.mr W.mbg W.ml W.hvs W.hDl W.hD W.WB W.lb W.htx (C.keeps st) ht hne ?_ ?_ ?_ ?_) rfl hd rfl rfl hu
  · intro h h' tk' k
    exact hnone h h' tk' (fr_stay F k) (news_stay N k) k
  · intro a b h f ch tc' h' tk' hT hN H hc hn k
    obtain ⟨ps', hps⟩ := ht.has
    have n0 := N _ (List.mem_append_left _ hps)
    have new : ∀ q ∈ tc' ++ ch, h'.get? q.1 = some q.2 ∧ q.1 ≠ L ∧ h₀.get? q.1 = none := fun q hq => by
      refine ⟨(hN q hq).1, fun z => ?_, kts_none st (hN q hq).2⟩
      obtain ⟨oL, es, ep, hL, _⟩ := FG.ns
      rw [← z, (hN q hq).2] at hL
      cases hL
    refine hhit a b h f ch tc' h' tk' (fr_but1 F k (Ne.symm n0.2.1) n0.2.2) (fun q hq => ?_) hT H hc hn k
    rcases List.mem_append.mp hq with hq | hq
    · exact new q (List.mem_append_left _ hq)
    rcases List.mem_append.mp hq with hq | hq
    · exact new q (List.mem_append_right _ hq)
    · have Nq := N q (sub q hq)
      exact ⟨k _ _ (hne q hq) Nq.1, Nq.2⟩
  · intro k wit row h e d od v2 t1 t3 ch h' tk' R U Dn RV
    have hdk := dicts_push (env := env) DK FG hf
    refine hnag k wit row h e d od v2 t1 t3 _ h' tk' FG (Flew.withRD (ch := ch) (R.drop fun q hq => ?_) hdk RV) U Dn
    rcases List.mem_append.mp hq with hq | hq
    · exact .tail _ (List.mem_append_left _ hq)
    rcases List.mem_cons.mp hq with rfl | hq
    · exact .head _
    · exact .tail _ (List.mem_append_right _ hq)
  · intro h e dx h' tk' R U
    exact hbad h e dx _ h' tk' FG R.withT U
end
end

section
open PySem PySem.W PyProof.Rows PySem.Calls PyProof.Rows.LCg PySem.Spec
set_option maxRecDepth 100000
/-- what search_reverse comes to -/
inductive Res where
  | ret (o : Option (Int × Int))
  | nag (k : Int) (wit : List Dat) (row : Str)
  | bad
noncomputable def revGo (S : Int → Out) (col : Int) : Nat → Option (Int × Int) → Int → Int → Res
  | 0, fd, _, _ => .ret fd
  | n + 1, fd, i, j => if i < col ∧ j ≤ col then
      (match S (if i = j then j + 1 else j) with
      | .none => .ret (some (i, j))
      | .hit a b => revGo S col n (some (i, j)) a b
      | .nag k w r => .nag k w r
      | .bad => .bad)
    else .ret fd
noncomputable def revTop (S : Int → Out) (col : Int) : Res := match S 0 with
  | .none => .ret none
  | .hit a b => revGo S col 1200 none a b
  | .nag k w r => .nag k w r
  | .bad => .bad
theorem rowOut_fin {bes : Str} {begin : Int} {k : Nat} {d : RowD} {a b : Int} (h : rowOut bes begin k d = some (.hit a b)) : begin < b ∧ b = d.fin := by
  unfold rowOut at h
  split at h
  · rename_i hb
    split at h
    · cases h
    · split at h
      · split at h
        · cases h
          exact ⟨hb, rfl⟩
        · cases h
      · split at h <;> cases h
  · cases h
theorem searchL_fin {bes : Str} {begin : Int} {a b : Int} : ∀ {l : List RowD} {k : Nat}, searchL bes begin k l = .hit a b → begin < b ∧ ∃ d ∈ l, b = d.fin
  | [], _, h => by cases h
  | c :: r, k, h => by
    unfold searchL at h
    split at h
    · rename_i o ho
      subst h
      have := rowOut_fin ho
      exact ⟨this.1, c, .head _, this.2⟩
    · obtain ⟨h1, d, hd, e⟩ := searchL_fin h
      exact ⟨h1, d, .tail _ hd, e⟩
theorem RowsAt.ok {led : List (Addr × Obj)} {D : List RowD} {vs bs ls : List Value} (h : RowsAt led D vs bs ls) : ∀ d ∈ D, RowOk d := fun d hd => by
  obtain ⟨i, hi⟩ := List.getElem?_of_mem hd
  exact (h i d hi).1
theorem SeAt.fin {w : World} {led : List (Addr × Obj)} {sf : Addr} {D : List RowD} {bes text : Str} (P : SeAt w led sf D bes text) : ∀ d ∈ D, d.fin ≤ 1050 := fun d hd => by
  obtain ⟨r, S⟩ := P
  have := S.hD.ok d hd
  have h1 := this.len
  have h2 := this.b1
  unfold RowD.fin
  omega
theorem SeAt.fn {w : World} {led : List (Addr × Obj)} {sf : Addr} {D : List RowD} {bes text : Str} (P : SeAt w led sf D bes text) : ∃ (oc : Value) (od : Option Addr) (fd : FuncData) (sl : Array (Option Value)), (sf, (⟨oc, od, .func fd, sl⟩ : Obj)) ∈ led := by
  obtain ⟨r, S⟩ := P
  exact ⟨_, _, _, _, S.hf⟩
/-- the object prog -/
noncomputable def PrAt (w : World) (led : List (Addr × Obj)) (pf : Addr) (D : List RowD) (bes text : Str) : Prop :=
  ∃ (sf pd : Addr) (fd : FuncData) (sl : Array (Option Value)) (hsh : Int) (t : Tok) (n : Nat), (pf, (⟨.type "function", some pd, .func fd, sl⟩ : Obj)) ∈ led ∧ (pd, dictOf [⟨hsh, .str (Str.ofString "search") t, .ref sf⟩] n) ∈ led ∧ SeAt w led sf D bes text
theorem PrAt.mono {w : World} {led led' : List (Addr × Obj)} {pf : Addr} {D : List RowD} {bes text : Str} (h : PrAt w led pf D bes text) (k : ∀ q ∈ led, q ∈ led') : PrAt w led' pf D bes text := by
  obtain ⟨sf, pd, fd, sl, hsh, t, n, a, b, c⟩ := h
  exact ⟨sf, pd, fd, sl, hsh, t, n, k _ a, k _ b, c.mono k⟩
noncomputable def FoundOk (w : World) (led : List (Addr × Obj)) (fv : Value) (fo : Option (Int × Int)) : Prop := (fo = none ∧ fv = .none) ∨ ∃ f a b, fo = some (a, b) ∧ fv = .ref f ∧ HitC w led f a b
structure RS where
  tc : List (Addr × Obj)
  led : List (Addr × Obj)
  fv : Value
  fo : Option (Int × Int)
  mf : Addr
  i : Int
  j : Int
  ti : Tok
  tj : Tok
structure RSOk (w : World) (led : List (Addr × Obj)) (c : RS) : Prop where
  ht : TabC c.tc
  off : ∀ q ∈ c.led, q.1 ≠ 151
  sub : ∀ q ∈ led, q ∈ c.led
  m : HitC w c.led c.mf c.i c.j
  f : FoundOk w c.led c.fv c.fo
noncomputable def RSP (S : Int → Out) (col : Int) (R : Res) (c : RS) : Prop := ∃ n, (1100 - c.j).toNat < n ∧ revGo S col n c.fo c.i c.j = R
theorem FF.noBool : typeLookup (.type "function") (Str.ofString "__bool__") = pure none := by rw [typeLookup_type, builtinLookup_eq_fast]; kernel_rfl
theorem FF.noLen : typeLookup (.type "function") (Str.ofString "__len__") = pure none := by rw [typeLookup_type, builtinLookup_eq_fast]; kernel_rfl
section
variable {prog : Program} {w : World} {A : Around} {E : Value → Shared → Prop} {s : Shared} {h₀ : Heap} {L f : Addr} {m : Str → Option Value} {news led : List (Addr × Obj)} {a b : Int}
theorem HitC.at (H : HitC w led f a b) (N : News h₀ L s.heap news) (sub : ∀ q ∈ led, q ∈ news) : HitAt w s.heap f a b := H _ fun q hq _ => (N q (sub q hq)).1
theorem truthy_hit {Q : Bool → Shared → Prop} (N : News h₀ L s.heap news) (H : HitC w led f a b) (sub : ∀ q ∈ led, q ∈ news) (h : Q true s) : wpAny (model prog w) A (truthy (.ref f)) Q E s := by
  obtain ⟨d, fs, fd, sl, hsh, t, n, e1, e2, FA, SF⟩ := H.at N sub
  have hT : s.TypeIs (.ref f) "function" := ⟨_, e1, rfl⟩
  unfold truthy
  dsimp only
  refine wpAny_bind ?_
  unfold callSpecial?
  refine wpAny_bind (wpAny_specialOf hT FF.noBool ?_)
  dsimp only
  refine wpAny_pure ?_
  dsimp only
  refine wpAny_bind (wpAny_specialOf hT FF.noLen ?_)
  exact wpAny_pure h
theorem method_hit {pl : Sem Bool} {Q : Value × List Value → Shared → Prop} (N : News h₀ L s.heap news) (H : HitC w led f a b) (sub : ∀ q ∈ led, q ∈ news)
    (h : ∀ fs, FnAt fs s.heap → SpanFn w s.heap fs a b → Q (.ref fs, []) { s with toks := s.toks + 1 }) : wpAny (model prog w) A (getMethod (.ref f) (Str.ofString "span") pl) Q E s := by
  obtain ⟨d, fs, fd, sl, hsh, t, n, e1, e2, FA, SF⟩ := H.at N sub
  exact getMethod_fn e1 e2 FF.look_span rfl (h fs FA SF)
theorem call_span {fs : Addr} {hh : Heap} {p : Program} {loose : List Str} {mean : ExcName → Option Value} {mg mb : Str → Option Value} {Q : Value → Shared → Prop} (F : Fr h₀ L s.heap m) (N : News h₀ L s.heap news) (T : Top p loose mean mg mb h₀) (SF : SpanFn w hh fs a b) (eh : hh = s.heap) (hroom : A.depth < recursionLimit)
    (h : ∀ (D : Addr) t u e h' tk', Fr h₀ L h' m → News h₀ L h' ((D, tupO [.int a t, .int b u] e) :: news) → (∀ q ∈ news, q.1 ≠ D) → Q (.ref D) { s with heap := h', toks := tk' }) :
    wpAny (model prog w) A (call (.ref fs) []) Q E s := by
  subst eh
  refine SF prog A s Q E (fun _ _ _ e => e) (T.nolimit.keeps F.keep) hroom fun D h' tk' k P => ?_
  obtain ⟨hn, t1, u1, e1, hT⟩ := P
  refine h D t1 u1 e1 h' tk' (fr_stay F k) (fun q hq => ?_) (fun q hq z => ?_)
  · rcases List.mem_cons.mp hq with rfl | hq
    · refine ⟨hT, fun z => ?_, kts_none F.keep hn⟩
      obtain ⟨oL, es, ep, hL, _⟩ := F.ns
      rw [show (D, tupO [Value.int a t1, Value.int b u1] e1).1 = D from rfl] at z
      rw [← z, hn] at hL; cases hL
    · exact news_stay N k q hq
  · have := (N q hq).1
    rw [z, hn] at this; cases this
end
end

section
theorem sepSr : True := by
  w_top off
  trivial
open PySem PySem.W PyProof.Rows PySem.Calls PyProof.Rows.LCg PySem.Spec
set_option maxRecDepth 100000
theorem fill_me17 : PySem.Challenge.rw_mr0234_01 = PySem.Challenge.rw_mr0234_01 ∧ Mine.hd.heap_1 = Mine.hd.heap_1 := by
  k_fill
  exact ⟨rfl, rfl⟩
set_option hygiene false in
local macro_rules | `(tactic| k_mem) => `(tactic| first | (refine memL ?_; k_mem) | (refine memR ?_; k_mem) | (refine memV ?_; ktr_member))
section
variable {S : Int → Out} {col : Int}
theorem revTop_none (h : S 0 = .none) : revTop S col = .ret none := by unfold revTop; rw [h]
theorem revTop_hit {a b : Int} (h : S 0 = .hit a b) : revTop S col = revGo S col 1200 none a b := by unfold revTop; rw [h]
theorem revTop_nag {k : Int} {wit : List Dat} {row : Str} (h : S 0 = .nag k wit row) : revTop S col = .nag k wit row := by unfold revTop; rw [h]
theorem revTop_bad (h : S 0 = .bad) : revTop S col = .bad := by unfold revTop; rw [h]
variable {n : Nat} {fd : Option (Int × Int)} {i j bg : Int}
theorem revGo_stop1 (h : ¬ i < col) : revGo S col (n + 1) fd i j = .ret fd := by unfold revGo; rw [if_neg (fun z => h z.1)]
theorem revGo_stop2 (h : ¬ j ≤ col) : revGo S col (n + 1) fd i j = .ret fd := by unfold revGo; rw [if_neg (fun z => h z.2)]
theorem revGo_none (h1 : i < col) (h2 : j ≤ col) (hb : (if i = j then j + 1 else j) = bg) (h : S bg = .none) : revGo S col (n + 1) fd i j = .ret (some (i, j)) := by unfold revGo; rw [if_pos ⟨h1, h2⟩, hb, h]
theorem revGo_hit {a b : Int} (h1 : i < col) (h2 : j ≤ col) (hb : (if i = j then j + 1 else j) = bg) (h : S bg = .hit a b) : revGo S col (n + 1) fd i j = revGo S col n (some (i, j)) a b := by rw [revGo]; rw [if_pos ⟨h1, h2⟩, hb, h]
theorem revGo_nag {k : Int} {wit : List Dat} {row : Str} (h1 : i < col) (h2 : j ≤ col) (hb : (if i = j then j + 1 else j) = bg) (h : S bg = .nag k wit row) : revGo S col (n + 1) fd i j = .nag k wit row := by unfold revGo; rw [if_pos ⟨h1, h2⟩, hb, h]
theorem revGo_bad (h1 : i < col) (h2 : j ≤ col) (hb : (if i = j then j + 1 else j) = bg) (h : S bg = .bad) : revGo S col (n + 1) fd i j = .bad := by unfold revGo; rw [if_pos ⟨h1, h2⟩, hb, h]
end
theorem pick2 {h₀ h : Heap} {L : Addr} {m : Str → Option Value} (F : Fr h₀ L h m) (x y : Str) {a b : Int} {R : Prop} (hx : ∃ t, m x = some (.int a t)) (hy : ∃ t, m y = some (.int b t)) (k : ∀ t u, m x = some (.int a t) → m y = some (.int b u) → R) : R :=
  let ⟨t, e⟩ := hx; let ⟨u, e'⟩ := hy; k t u e e'
variable {prog : Program} {w : World} {s : Shared} {base g : Heap} {fr : List Env} {gd : Option (List Code)}
  {p : Program} {loose : List Str} {mean : ExcName → Option Value} {mg mb : Str → Option Value}
/-- the statement of srev_walk over its data -/
noncomputable def srev_walk_P (prog : Program) (w : World) (s : Shared) (base : Heap) (g : Heap) (fr : List Env) (gd : Option (List Code)) (p : Program) (loose : List Str) (mean : ExcName → Option Value) (mg : Str → Option Value) (mb : Str → Option Value) (Q : Value → Shared → Prop) (E : Value → Shared → Prop) (tc : List (Addr × Obj)) (led : List (Addr × Obj)) (pf : Addr) (D : List RowD) (bes : Str) (text : Str) (col : Int) (tx : Tok) (tcl : Tok) (R₀ : Res) : Prop :=
  ∀ (S : Std (AT 520 1200 fr gd) base fr g (Mine.hd.heap_1 w.params) p loose mean mg mb s.heap (tc ++ led)) (DK : KtsDicts (fr.filterMap (·.frame)) g) (P : PrAt w led pf D bes text) (C : CodeHd g 155 151) (ht : TabC tc) (hne : ∀ q ∈ led, q.1 ≠ 151) (hR : revTop (fun b => searchL bes b 0 D) col = R₀) (h0 : R₀ = .ret none → ∀ tc' led' h' tk', TabC tc' → (∀ q ∈ led, q ∈ led') → (∀ q ∈ led', q.1 ≠ 151) → (∀ q ∈ tc' ++ led', h'.get? q.1 = some q.2 ∧ g.get? q.1 = none) → (∀ b o, g.get? b = some o → h'.get? b = some o) → Q .none { s with heap := h', toks := tk' }) (h1 : ∀ a b, R₀ = .ret (some (a, b)) → ∀ f tc' led' h' tk', TabC tc' → (∀ q ∈ led, q ∈ led') → (∀ q ∈ led', q.1 ≠ 151) → (∀ q ∈ tc' ++ led', h'.get? q.1 = some q.2 ∧ g.get? q.1 = none) → (∀ b o, g.get? b = some o → h'.get? b = some o) → HitC w led' f a b → Q (.ref f) { s with heap := h', toks := tk' }) (h2 : ∀ k wit row, R₀ = .nag k wit row → ∀ e d od v2 t1 t3 tc' led' h' tk', TabC tc' → (∀ q ∈ led, q ∈ led') → FlewP (fun B => RD B v2 (.list wit)) base g fr e (.ref 73) (some d) ((d, od) :: (tc' ++ led')) h' → g.UpToSlots h' → DObj od (nagM (.int k t1) v2 (.str row t3)) → E (.ref e) { s with heap := h', toks := tk' }) (h3 : R₀ = .bad → ∀ e dx tc' led' h' tk', TabC tc' → (∀ q ∈ led, q ∈ led') → FlewP (fun _ => True) base g fr e (.type "ValueError") dx (tc' ++ led') h' → g.UpToSlots h' → E (.ref e) { s with heap := h', toks := tk' }), wpAny (model prog w) (AT 520 1200 fr gd) (call (.ref 28) [.ref pf, .str text tx, .int col tcl]) Q E s
noncomputable def srev_walk_R (p : Program × World × Shared × Heap × Heap × (List Env) × (Option (List Code)) × Program × (List Str) × (ExcName → Option Value) × (Str → Option Value) × (Str → Option Value) × (Value → Shared → Prop) × (Value → Shared → Prop) × (List (Addr × Obj)) × (List (Addr × Obj)) × Addr × (List RowD) × Str × Str × Int × Tok × Tok × Res) : Prop := srev_walk_P p.1 p.2.1 p.2.2.1 p.2.2.2.1 p.2.2.2.2.1 p.2.2.2.2.2.1 p.2.2.2.2.2.2.1 p.2.2.2.2.2.2.2.1 p.2.2.2.2.2.2.2.2.1 p.2.2.2.2.2.2.2.2.2.1 p.2.2.2.2.2.2.2.2.2.2.1 p.2.2.2.2.2.2.2.2.2.2.2.1 p.2.2.2.2.2.2.2.2.2.2.2.2.1 p.2.2.2.2.2.2.2.2.2.2.2.2.2.1 p.2.2.2.2.2.2.2.2.2.2.2.2.2.2.1 p.2.2.2.2.2.2.2.2.2.2.2.2.2.2.2.1 p.2.2.2.2.2.2.2.2.2.2.2.2.2.2.2.2.1 p.2.2.2.2.2.2.2.2.2.2.2.2.2.2.2.2.2.1 p.2.2.2.2.2.2.2.2.2.2.2.2.2.2.2.2.2.2.1 p.2.2.2.2.2.2.2.2.2.2.2.2.2.2.2.2.2.2.2.1 p.2.2.2.2.2.2.2.2.2.2.2.2.2.2.2.2.2.2.2.2.1 p.2.2.2.2.2.2.2.2.2.2.2.2.2.2.2.2.2.2.2.2.2.1 p.2.2.2.2.2.2.2.2.2.2.2.2.2.2.2.2.2.2.2.2.2.2.1 p.2.2.2.2.2.2.2.2.2.2.2.2.2.2.2.2.2.2.2.2.2.2.2
noncomputable def srev_walk_c : Program × World × Shared × Heap × Heap × (List Env) × (Option (List Code)) × Program × (List Str) × (ExcName → Option Value) × (Str → Option Value) × (Str → Option Value) × (Value → Shared → Prop) × (Value → Shared → Prop) × (List (Addr × Obj)) × (List (Addr × Obj)) × Addr × (List RowD) × Str × Str × Int × Tok × Tok × Res := pick (neP inferInstance (neP neW (neP neS (neP inferInstance (neP inferInstance (neP inferInstance (neP inferInstance (neP inferInstance (neP inferInstance (neP inferInstance (neP inferInstance (neP inferInstance (neP inferInstance (neP inferInstance (neP inferInstance (neP inferInstance (neP inferInstance (neP inferInstance (neP inferInstance (neP inferInstance (neP inferInstance (neP inferInstance (neP inferInstance ((⟨Res.bad⟩ : Nonempty Res))))))))))))))))))))))))) srev_walk_R
set_option maxHeartbeats 4000000 in
set_option pp.deepTerms false in
set_option pp.deepTerms.threshold 6 in
set_option pp.maxSteps 1500 in
theorem srev_walk_core : srev_walk_R srev_walk_c := (by
  intro prog w s base g fr gd p loose mean mg mb Q E tc led pf D bes text col tx tcl R₀ S DK P C ht hne hR h0 h1 h2 h3
  obtain ⟨sf, pd, fd, sl, hsh, t, n, m1, m2, P⟩ := P
  obtain ⟨oc, od, fd2, sl2, m3⟩ := P.fn
  refine wpAny_call ?_
  k_dflt (refine' enterC ?kS ?k6 ?k7 ?k8 ?k9 ?kB ?_ ?c2 ?c3 ?c4 ?c5; (case kS => assumption); (case k6 => k_is); (case k7 => k_is); (case k8 => exact Nat.le_of_ble_eq_true rfl); (case k9 => exact BindsTo.of_eq rfl); (case c5 => decide); (case kB => exact locs rfl); (case c2 => exact rfl); (case c3 => exact rfl); (case c4 => exact rfl); k_whole; intro zzL' zzh' zzB' zzX' zzT' zzF' zzN'; (try dsimp only); (try k_fold))
  repeat' (first | (k_unfold; (try dsimp only)) | (k_end; wrow_close) | ((fail_if_success (with_reducible show wpAny _ _ (call _ _) _ _ _)); (first | ((with_reducible show wpAny _ _ (call (Value.ref _) _) _ _ _); first | with_reducible (k_here; (with_reducible show wpAny _ _ (call (Value.ref _) []) _ _ _); k_dflt (refine' call_span ?F ?N ?T ?S ?e ?r ?_; (case F => k_asm); (case N => k_asm); (case T => k_asm); (case S => assumption); (case e => rfl); (case r => exact Nat.le_of_ble_eq_true rfl); k_whole); intro zzD' zzt' zzu' zze' zzh' zztk' zzF' zzN' zzne'; (try dsimp only); (try k_sweep); (try k_fold))) | ((with_reducible show wpAny _ _ (callWith _ _ _ _ _) _ _ _); first | with_reducible (k_here; k_dflt (first | (refine' callWith_F ?k1 ?_; (case k1 => exact FnAt.of (by k_asm) (by k_mem)); k_whole) | (refine' callWith_F0 ?k1 ?_; (case k1 => assumption); k_whole; try dsimp only [List.nil_append, List.cons_append])))) | ((with_reducible show wpAny _ _ (truthy (Value.ref _)) _ _ _); first | with_reducible (k_here; k_dflt (refine' truthy_hit ?h1 ?h2 ?h3 ?_; (case h1 => k_asm); (case h2 => assumption); (case h3 => walk_at "M sub"); k_whole))) | ((with_reducible show wpAny _ _ (getMethod (Value.ref _) _ _) _ _ _); first | with_reducible (k_here; (with_reducible show wpAny _ _ (getMethod (Value.ref _) (Str.ofString "span") _) _ _ _); k_dflt (refine' method_hit ?h1 ?h2 ?h3 ?_; (case h1 => k_asm); (case h2 => assumption); (case h3 => walk_at "M sub"); k_whole); intro zzfs' zzFA' zzSF') | with_reducible (k_here; (with_reducible show wpAny _ _ (getMethod (Value.ref _) (Str.ofString "search") _) _ _ _); k_dflt (refine' getMethod_fn ?h1 ?h2 ?h3 ?h4 ?_; (case h1 => exact News.get (by k_asm) (by k_mem)); (case h2 => exact News.get (by k_asm) (by k_mem)); (case h3 => exact FF.look_search); (case h4 => exact rfl); k_whole))) | walk1)) | ((fail_if_success (with_reducible show wpAny _ _ (call _ _) _ _ _)); dsimp only; (first | ((with_reducible show wpAny _ _ (call (Value.ref _) _) _ _ _); first | with_reducible (k_here; (with_reducible show wpAny _ _ (call (Value.ref _) []) _ _ _); k_dflt (refine' call_span ?F ?N ?T ?S ?e ?r ?_; (case F => k_asm); (case N => k_asm); (case T => k_asm); (case S => assumption); (case e => rfl); (case r => exact Nat.le_of_ble_eq_true rfl); k_whole); intro zzD' zzt' zzu' zze' zzh' zztk' zzF' zzN' zzne'; (try dsimp only); (try k_sweep); (try k_fold))) | ((with_reducible show wpAny _ _ (callWith _ _ _ _ _) _ _ _); first | with_reducible (k_here; k_dflt (first | (refine' callWith_F ?k1 ?_; (case k1 => exact FnAt.of (by k_asm) (by k_mem)); k_whole) | (refine' callWith_F0 ?k1 ?_; (case k1 => assumption); k_whole; try dsimp only [List.nil_append, List.cons_append])))) | ((with_reducible show wpAny _ _ (truthy (Value.ref _)) _ _ _); first | with_reducible (k_here; k_dflt (refine' truthy_hit ?h1 ?h2 ?h3 ?_; (case h1 => k_asm); (case h2 => assumption); (case h3 => walk_at "M sub"); k_whole))) | ((with_reducible show wpAny _ _ (getMethod (Value.ref _) _ _) _ _ _); first | with_reducible (k_here; (with_reducible show wpAny _ _ (getMethod (Value.ref _) (Str.ofString "span") _) _ _ _); k_dflt (refine' method_hit ?h1 ?h2 ?h3 ?_; (case h1 => k_asm); (case h2 => assumption); (case h3 => walk_at "M sub"); k_whole); intro zzfs' zzFA' zzSF') | with_reducible (k_here; (with_reducible show wpAny _ _ (getMethod (Value.ref _) (Str.ofString "search") _) _ _ _); k_dflt (refine' getMethod_fn ?h1 ?h2 ?h3 ?h4 ?_; (case h1 => exact News.get (by k_asm) (by k_mem)); (case h2 => exact News.get (by k_asm) (by k_mem)); (case h3 => exact FF.look_search); (case h4 => exact rfl); k_whole))) | walk1)) | (leave1; walk_say "STEP leave1"; try dsimp only) | fail "no step")
  rename Fr _ _ _ _ => F9
  rename News _ _ _ _ => N9
  refine wpAny_call ?_
  k_dflt refine' search_use S.B F9 S.X S.T N9 DK P C ht hne bind_one ?yd ?yu ?yf ?yk ?y0 ?y1 ?y2 ?y3
  case yd => exact Nat.le_of_ble_eq_true rfl
  case yu => exact Nat.le_of_ble_eq_true rfl
  case yf => exact rfl
  case yk => exact rfl
  case y0 =>
    intro e0 h' tk' F' N' K'
    have eR := (revTop_none (S := fun b => searchL bes b 0 D) (col := col) e0).symm.trans hR
    clear F9 N9
    repeat' (first | (k_unfold; (try dsimp only)) | (k_end; wrow_close) | (first | ((with_reducible show wpAny _ _ (call (Value.ref _) _) _ _ _); first | with_reducible (k_here; (with_reducible show wpAny _ _ (call (Value.ref _) []) _ _ _); k_dflt (refine' call_span ?F ?N ?T ?S ?e ?r ?_; (case F => k_asm); (case N => k_asm); (case T => k_asm); (case S => assumption); (case e => rfl); (case r => exact Nat.le_of_ble_eq_true rfl); k_whole); intro zzD' zzt' zzu' zze' zzh' zztk' zzF' zzN' zzne'; (try dsimp only); (try k_sweep); (try k_fold))) | ((with_reducible show wpAny _ _ (callWith _ _ _ _ _) _ _ _); first | with_reducible (k_here; k_dflt (first | (refine' callWith_F ?k1 ?_; (case k1 => exact FnAt.of (by k_asm) (by k_mem)); k_whole) | (refine' callWith_F0 ?k1 ?_; (case k1 => assumption); k_whole; try dsimp only [List.nil_append, List.cons_append])))) | ((with_reducible show wpAny _ _ (truthy (Value.ref _)) _ _ _); first | with_reducible (k_here; k_dflt (refine' truthy_hit ?h1 ?h2 ?h3 ?_; (case h1 => k_asm); (case h2 => assumption); (case h3 => walk_at "M sub"); k_whole))) | ((with_reducible show wpAny _ _ (getMethod (Value.ref _) _ _) _ _ _); first | with_reducible (k_here; (with_reducible show wpAny _ _ (getMethod (Value.ref _) (Str.ofString "span") _) _ _ _); k_dflt (refine' method_hit ?h1 ?h2 ?h3 ?_; (case h1 => k_asm); (case h2 => assumption); (case h3 => walk_at "M sub"); k_whole); intro zzfs' zzFA' zzSF') | with_reducible (k_here; (with_reducible show wpAny _ _ (getMethod (Value.ref _) (Str.ofString "search") _) _ _ _); k_dflt (refine' getMethod_fn ?h1 ?h2 ?h3 ?h4 ?_; (case h1 => exact News.get (by k_asm) (by k_mem)); (case h2 => exact News.get (by k_asm) (by k_mem)); (case h3 => exact FF.look_search); (case h4 => exact rfl); k_whole))) | walk1) | (dsimp only; (first | ((with_reducible show wpAny _ _ (call (Value.ref _) _) _ _ _); first | with_reducible (k_here; (with_reducible show wpAny _ _ (call (Value.ref _) []) _ _ _); k_dflt (refine' call_span ?F ?N ?T ?S ?e ?r ?_; (case F => k_asm); (case N => k_asm); (case T => k_asm); (case S => assumption); (case e => rfl); (case r => exact Nat.le_of_ble_eq_true rfl); k_whole); intro zzD' zzt' zzu' zze' zzh' zztk' zzF' zzN' zzne'; (try dsimp only); (try k_sweep); (try k_fold))) | ((with_reducible show wpAny _ _ (callWith _ _ _ _ _) _ _ _); first | with_reducible (k_here; k_dflt (first | (refine' callWith_F ?k1 ?_; (case k1 => exact FnAt.of (by k_asm) (by k_mem)); k_whole) | (refine' callWith_F0 ?k1 ?_; (case k1 => assumption); k_whole; try dsimp only [List.nil_append, List.cons_append])))) | ((with_reducible show wpAny _ _ (truthy (Value.ref _)) _ _ _); first | with_reducible (k_here; k_dflt (refine' truthy_hit ?h1 ?h2 ?h3 ?_; (case h1 => k_asm); (case h2 => assumption); (case h3 => walk_at "M sub"); k_whole))) | ((with_reducible show wpAny _ _ (getMethod (Value.ref _) _ _) _ _ _); first | with_reducible (k_here; (with_reducible show wpAny _ _ (getMethod (Value.ref _) (Str.ofString "span") _) _ _ _); k_dflt (refine' method_hit ?h1 ?h2 ?h3 ?_; (case h1 => k_asm); (case h2 => assumption); (case h3 => walk_at "M sub"); k_whole); intro zzfs' zzFA' zzSF') | with_reducible (k_here; (with_reducible show wpAny _ _ (getMethod (Value.ref _) (Str.ofString "search") _) _ _ _); k_dflt (refine' getMethod_fn ?h1 ?h2 ?h3 ?h4 ?_; (case h1 => exact News.get (by k_asm) (by k_mem)); (case h2 => exact News.get (by k_asm) (by k_mem)); (case h3 => exact FF.look_search); (case h4 => exact rfl); k_whole))) | walk1)) | (leave1; walk_say "STEP leave1"; try dsimp only) | fail "no step")
    change Q Value.none _
    rename Fr _ _ _ _ => F8
    rename News _ _ _ _ => N8
    exact h0 eR.symm _ _ _ _ ht (fun _ h => h) hne (fun q hq => ⟨(N8 q hq).1, (N8 q hq).2.2⟩) F8.keep
  case y2 =>
    intro k wit row e0 e d od v2 t1 t3 g2 h' tk' FG R U Dn
    have eR := (revTop_nag (S := fun b => searchL bes b 0 D) (col := col) e0).symm.trans hR
    refine fly_onP S.B FG R U rfl fun h'' R' U' => ?_
    exact h2 _ _ _ eR.symm _ _ _ _ _ _ _ _ _ _ ht (fun _ h => h) R' U' Dn
  case y3 =>
    intro e0 e dx g2 h' tk' FG R U
    have eR := (revTop_bad (S := fun b => searchL bes b 0 D) (col := col) e0).symm.trans hR
    refine fly_onP S.B FG R U rfl fun h'' R' U' => ?_
    exact h3 eR.symm _ _ _ _ _ _ ht (fun _ h => h) R' U'
  case y1 =>
    intro a b e0 f ch tc' h' tk' F' N' T' H' o' n' K'
    have eR := (revTop_hit (S := fun b => searchL bes b 0 D) (col := col) e0).symm.trans hR
    clear F9 N9
    have H8 := H'.mono (ch' := tc' ++ (ch ++ led)) (fun q hq => List.mem_append_right _ (List.mem_append_left _ hq))
    repeat' (first | (k_unfold; (try dsimp only)) | (k_end; wrow_close) | ((fail_if_success (with_reducible show wpAny _ _ (exec (Stmt.While _ _ _ _) _) _ _ _)); (first | ((with_reducible show wpAny _ _ (call (Value.ref _) _) _ _ _); first | with_reducible (k_here; (with_reducible show wpAny _ _ (call (Value.ref _) []) _ _ _); k_dflt (refine' call_span ?F ?N ?T ?S ?e ?r ?_; (case F => k_asm); (case N => k_asm); (case T => k_asm); (case S => assumption); (case e => rfl); (case r => exact Nat.le_of_ble_eq_true rfl); k_whole); intro zzD' zzt' zzu' zze' zzh' zztk' zzF' zzN' zzne'; (try dsimp only); (try k_sweep); (try k_fold))) | ((with_reducible show wpAny _ _ (callWith _ _ _ _ _) _ _ _); first | with_reducible (k_here; k_dflt (first | (refine' callWith_F ?k1 ?_; (case k1 => exact FnAt.of (by k_asm) (by k_mem)); k_whole) | (refine' callWith_F0 ?k1 ?_; (case k1 => assumption); k_whole; try dsimp only [List.nil_append, List.cons_append])))) | ((with_reducible show wpAny _ _ (truthy (Value.ref _)) _ _ _); first | with_reducible (k_here; k_dflt (refine' truthy_hit ?h1 ?h2 ?h3 ?_; (case h1 => k_asm); (case h2 => assumption); (case h3 => walk_at "M sub"); k_whole))) | ((with_reducible show wpAny _ _ (getMethod (Value.ref _) _ _) _ _ _); first | with_reducible (k_here; (with_reducible show wpAny _ _ (getMethod (Value.ref _) (Str.ofString "span") _) _ _ _); k_dflt (refine' method_hit ?h1 ?h2 ?h3 ?_; (case h1 => k_asm); (case h2 => assumption); (case h3 => walk_at "M sub"); k_whole); intro zzfs' zzFA' zzSF') | with_reducible (k_here; (with_reducible show wpAny _ _ (getMethod (Value.ref _) (Str.ofString "search") _) _ _ _); k_dflt (refine' getMethod_fn ?h1 ?h2 ?h3 ?h4 ?_; (case h1 => exact News.get (by k_asm) (by k_mem)); (case h2 => exact News.get (by k_asm) (by k_mem)); (case h3 => exact FF.look_search); (case h4 => exact rfl); k_whole))) | walk1)) | ((fail_if_success (with_reducible show wpAny _ _ (exec (Stmt.While _ _ _ _) _) _ _ _)); dsimp only; (first | ((with_reducible show wpAny _ _ (call (Value.ref _) _) _ _ _); first | with_reducible (k_here; (with_reducible show wpAny _ _ (call (Value.ref _) []) _ _ _); k_dflt (refine' call_span ?F ?N ?T ?S ?e ?r ?_; (case F => k_asm); (case N => k_asm); (case T => k_asm); (case S => assumption); (case e => rfl); (case r => exact Nat.le_of_ble_eq_true rfl); k_whole); intro zzD' zzt' zzu' zze' zzh' zztk' zzF' zzN' zzne'; (try dsimp only); (try k_sweep); (try k_fold))) | ((with_reducible show wpAny _ _ (callWith _ _ _ _ _) _ _ _); first | with_reducible (k_here; k_dflt (first | (refine' callWith_F ?k1 ?_; (case k1 => exact FnAt.of (by k_asm) (by k_mem)); k_whole) | (refine' callWith_F0 ?k1 ?_; (case k1 => assumption); k_whole; try dsimp only [List.nil_append, List.cons_append])))) | ((with_reducible show wpAny _ _ (truthy (Value.ref _)) _ _ _); first | with_reducible (k_here; k_dflt (refine' truthy_hit ?h1 ?h2 ?h3 ?_; (case h1 => k_asm); (case h2 => assumption); (case h3 => walk_at "M sub"); k_whole))) | ((with_reducible show wpAny _ _ (getMethod (Value.ref _) _ _) _ _ _); first | with_reducible (k_here; (with_reducible show wpAny _ _ (getMethod (Value.ref _) (Str.ofString "span") _) _ _ _); k_dflt (refine' method_hit ?h1 ?h2 ?h3 ?_; (case h1 => k_asm); (case h2 => assumption); (case h3 => walk_at "M sub"); k_whole); intro zzfs' zzFA' zzSF') | with_reducible (k_here; (with_reducible show wpAny _ _ (getMethod (Value.ref _) (Str.ofString "search") _) _ _ _); k_dflt (refine' getMethod_fn ?h1 ?h2 ?h3 ?h4 ?_; (case h1 => exact News.get (by k_asm) (by k_mem)); (case h2 => exact News.get (by k_asm) (by k_mem)); (case h3 => exact FF.look_search); (case h4 => exact rfl); k_whole))) | walk1)) | (leave1; walk_say "STEP leave1"; try dsimp only) | fail "no step")
    rename Fr _ _ _ _ => F8
    rename News _ _ _ _ => N8
    have hb := searchL_fin e0
    obtain ⟨hb1, d0, hd0, hb2⟩ := hb
    have hb3 := P.fin d0 hd0
    refine pick2 F8 (Str.ofString "i") (Str.ofString "j") ⟨_, rfl⟩ ⟨_, rfl⟩ ?_
    intro ti0 tj0 hi0 hj0
    k_dflt refine' ksw_while (fun c : RS => c.tc ++ c.led) (fun c => [(Str.ofString "found", c.fv), (Str.ofString "m", .ref c.mf), (Str.ofString "i", .int c.i c.ti), (Str.ofString "j", .int c.j c.tj)]) (RSOk w led) [] (RSP (fun b => searchL bes b 0 D) col R₀) (fun c => (1100 - c.j).toNat) ⟨tc', ch ++ led, .none, none, f, a, b, ti0, tj0⟩ F8 (cb_drop N8 ?kN) ?kf ?kk ?kp ?_
    case kN => walk_at "M sub"
    case kk => exact List.forall_mem_cons.mpr ⟨rfl, List.forall_mem_cons.mpr ⟨rfl, List.forall_mem_cons.mpr ⟨hi0, List.forall_mem_cons.mpr ⟨hj0, List.forall_mem_nil _⟩⟩⟩⟩
    case kf => exact ⟨T', fun q hq => (List.mem_append.mp hq).elim (o' q) (hne q), fun q hq => List.mem_append_right _ hq, H'.mono fun q hq => List.mem_append_left _ hq, .inl ⟨rfl, rfl⟩⟩
    case kp => exact ⟨1200, by show (1100 - b).toNat < 1200; omega, eR⟩
    clear F8 N8 H8 H' hb1 hb2 hb3 hd0
    rintro ⟨tc1, led1, fv, fo, mf, i1, j1, ti, tj⟩ u h tk ⟨ht1, off1, sub1, hm1, hf1⟩ ⟨n0, hn0, hr0⟩ F7 N7
    dsimp only [kstB] at ht1 off1 sub1 hm1 hf1 hn0 hr0 F7 N7
    obtain ⟨n1, rfl⟩ : ∃ k, n0 = k + 1 := ⟨n0 - 1, by omega⟩
    have P1 := P.mono sub1
    have m11 := sub1 _ m1
    have m21 := sub1 _ m2
    have m31 := sub1 _ m3
    with_reducible show wpAny _ _ _ _ _ _
    k_fold
    repeat' (first | (k_unfold; (try dsimp only)) | (k_end; wrow_close) | ((fail_if_success (with_reducible show wpAny _ _ (call _ _) _ _ _)); (first | ((with_reducible show wpAny _ _ (call (Value.ref _) _) _ _ _); first | with_reducible (k_here; (with_reducible show wpAny _ _ (call (Value.ref _) []) _ _ _); k_dflt (refine' call_span ?F ?N ?T ?S ?e ?r ?_; (case F => k_asm); (case N => k_asm); (case T => k_asm); (case S => assumption); (case e => rfl); (case r => exact Nat.le_of_ble_eq_true rfl); k_whole); intro zzD' zzt' zzu' zze' zzh' zztk' zzF' zzN' zzne'; (try dsimp only); (try k_sweep); (try k_fold))) | ((with_reducible show wpAny _ _ (callWith _ _ _ _ _) _ _ _); first | with_reducible (k_here; k_dflt (first | (refine' callWith_F ?k1 ?_; (case k1 => exact FnAt.of (by k_asm) (by k_mem)); k_whole) | (refine' callWith_F0 ?k1 ?_; (case k1 => assumption); k_whole; try dsimp only [List.nil_append, List.cons_append])))) | ((with_reducible show wpAny _ _ (truthy (Value.ref _)) _ _ _); first | with_reducible (k_here; k_dflt (refine' truthy_hit ?h1 ?h2 ?h3 ?_; (case h1 => k_asm); (case h2 => assumption); (case h3 => walk_at "M sub"); k_whole))) | ((with_reducible show wpAny _ _ (getMethod (Value.ref _) _ _) _ _ _); first | with_reducible (k_here; (with_reducible show wpAny _ _ (getMethod (Value.ref _) (Str.ofString "span") _) _ _ _); k_dflt (refine' method_hit ?h1 ?h2 ?h3 ?_; (case h1 => k_asm); (case h2 => assumption); (case h3 => walk_at "M sub"); k_whole); intro zzfs' zzFA' zzSF') | with_reducible (k_here; (with_reducible show wpAny _ _ (getMethod (Value.ref _) (Str.ofString "search") _) _ _ _); k_dflt (refine' getMethod_fn ?h1 ?h2 ?h3 ?h4 ?_; (case h1 => exact News.get (by k_asm) (by k_mem)); (case h2 => exact News.get (by k_asm) (by k_mem)); (case h3 => exact FF.look_search); (case h4 => exact rfl); k_whole))) | walk1)) | ((fail_if_success (with_reducible show wpAny _ _ (call _ _) _ _ _)); dsimp only; (first | ((with_reducible show wpAny _ _ (call (Value.ref _) _) _ _ _); first | with_reducible (k_here; (with_reducible show wpAny _ _ (call (Value.ref _) []) _ _ _); k_dflt (refine' call_span ?F ?N ?T ?S ?e ?r ?_; (case F => k_asm); (case N => k_asm); (case T => k_asm); (case S => assumption); (case e => rfl); (case r => exact Nat.le_of_ble_eq_true rfl); k_whole); intro zzD' zzt' zzu' zze' zzh' zztk' zzF' zzN' zzne'; (try dsimp only); (try k_sweep); (try k_fold))) | ((with_reducible show wpAny _ _ (callWith _ _ _ _ _) _ _ _); first | with_reducible (k_here; k_dflt (first | (refine' callWith_F ?k1 ?_; (case k1 => exact FnAt.of (by k_asm) (by k_mem)); k_whole) | (refine' callWith_F0 ?k1 ?_; (case k1 => assumption); k_whole; try dsimp only [List.nil_append, List.cons_append])))) | ((with_reducible show wpAny _ _ (truthy (Value.ref _)) _ _ _); first | with_reducible (k_here; k_dflt (refine' truthy_hit ?h1 ?h2 ?h3 ?_; (case h1 => k_asm); (case h2 => assumption); (case h3 => walk_at "M sub"); k_whole))) | ((with_reducible show wpAny _ _ (getMethod (Value.ref _) _ _) _ _ _); first | with_reducible (k_here; (with_reducible show wpAny _ _ (getMethod (Value.ref _) (Str.ofString "span") _) _ _ _); k_dflt (refine' method_hit ?h1 ?h2 ?h3 ?_; (case h1 => k_asm); (case h2 => assumption); (case h3 => walk_at "M sub"); k_whole); intro zzfs' zzFA' zzSF') | with_reducible (k_here; (with_reducible show wpAny _ _ (getMethod (Value.ref _) (Str.ofString "search") _) _ _ _); k_dflt (refine' getMethod_fn ?h1 ?h2 ?h3 ?h4 ?_; (case h1 => exact News.get (by k_asm) (by k_mem)); (case h2 => exact News.get (by k_asm) (by k_mem)); (case h3 => exact FF.look_search); (case h4 => exact rfl); k_whole))) | walk1)) | (leave1; walk_say "STEP leave1"; try dsimp only) | fail "no step")
    any_goals (
      (with_reducible show wpAny _ _ (call _ _) _ _ _)
      rename Fr _ _ _ _ => F6
      rename News _ _ _ _ => N6
      rename i1 < col => hi6
      rename j1 ≤ col => hj6
      refine wpAny_call ?_
      k_dflt refine' search_use S.B F6 S.X S.T (cb_drop (news := tc1 ++ led1) N6 ?ks) DK P1 C ht1 off1 bind_two ?zd ?zu ?zf ?zk ?z0 ?z1 ?z2 ?z3
      case ks => walk_at "M sub"
      case zd => exact Nat.le_of_ble_eq_true rfl
      case zu => exact Nat.le_of_ble_eq_true rfl
      case zf => exact rfl
      case zk => exact rfl
      case z0 =>
        intro e6 h' tk' F' N' K'
        have eR6 := (revGo_none (S := fun b => searchL bes b 0 D) (n := n1) (fd := fo) hi6 hj6 (by first | exact if_pos (by assumption) | exact if_neg (by assumption)) e6).symm.trans hr0
        clear F6 N6
        repeat' (first | (k_unfold; (try dsimp only)) | (k_end; wrow_close) | (first | ((with_reducible show wpAny _ _ (call (Value.ref _) _) _ _ _); first | with_reducible (k_here; (with_reducible show wpAny _ _ (call (Value.ref _) []) _ _ _); k_dflt (refine' call_span ?F ?N ?T ?S ?e ?r ?_; (case F => k_asm); (case N => k_asm); (case T => k_asm); (case S => assumption); (case e => rfl); (case r => exact Nat.le_of_ble_eq_true rfl); k_whole); intro zzD' zzt' zzu' zze' zzh' zztk' zzF' zzN' zzne'; (try dsimp only); (try k_sweep); (try k_fold))) | ((with_reducible show wpAny _ _ (callWith _ _ _ _ _) _ _ _); first | with_reducible (k_here; k_dflt (first | (refine' callWith_F ?k1 ?_; (case k1 => exact FnAt.of (by k_asm) (by k_mem)); k_whole) | (refine' callWith_F0 ?k1 ?_; (case k1 => assumption); k_whole; try dsimp only [List.nil_append, List.cons_append])))) | ((with_reducible show wpAny _ _ (truthy (Value.ref _)) _ _ _); first | with_reducible (k_here; k_dflt (refine' truthy_hit ?h1 ?h2 ?h3 ?_; (case h1 => k_asm); (case h2 => assumption); (case h3 => walk_at "M sub"); k_whole))) | ((with_reducible show wpAny _ _ (getMethod (Value.ref _) _ _) _ _ _); first | with_reducible (k_here; (with_reducible show wpAny _ _ (getMethod (Value.ref _) (Str.ofString "span") _) _ _ _); k_dflt (refine' method_hit ?h1 ?h2 ?h3 ?_; (case h1 => k_asm); (case h2 => assumption); (case h3 => walk_at "M sub"); k_whole); intro zzfs' zzFA' zzSF') | with_reducible (k_here; (with_reducible show wpAny _ _ (getMethod (Value.ref _) (Str.ofString "search") _) _ _ _); k_dflt (refine' getMethod_fn ?h1 ?h2 ?h3 ?h4 ?_; (case h1 => exact News.get (by k_asm) (by k_mem)); (case h2 => exact News.get (by k_asm) (by k_mem)); (case h3 => exact FF.look_search); (case h4 => exact rfl); k_whole))) | walk1) | (dsimp only; (first | ((with_reducible show wpAny _ _ (call (Value.ref _) _) _ _ _); first | with_reducible (k_here; (with_reducible show wpAny _ _ (call (Value.ref _) []) _ _ _); k_dflt (refine' call_span ?F ?N ?T ?S ?e ?r ?_; (case F => k_asm); (case N => k_asm); (case T => k_asm); (case S => assumption); (case e => rfl); (case r => exact Nat.le_of_ble_eq_true rfl); k_whole); intro zzD' zzt' zzu' zze' zzh' zztk' zzF' zzN' zzne'; (try dsimp only); (try k_sweep); (try k_fold))) | ((with_reducible show wpAny _ _ (callWith _ _ _ _ _) _ _ _); first | with_reducible (k_here; k_dflt (first | (refine' callWith_F ?k1 ?_; (case k1 => exact FnAt.of (by k_asm) (by k_mem)); k_whole) | (refine' callWith_F0 ?k1 ?_; (case k1 => assumption); k_whole; try dsimp only [List.nil_append, List.cons_append])))) | ((with_reducible show wpAny _ _ (truthy (Value.ref _)) _ _ _); first | with_reducible (k_here; k_dflt (refine' truthy_hit ?h1 ?h2 ?h3 ?_; (case h1 => k_asm); (case h2 => assumption); (case h3 => walk_at "M sub"); k_whole))) | ((with_reducible show wpAny _ _ (getMethod (Value.ref _) _ _) _ _ _); first | with_reducible (k_here; (with_reducible show wpAny _ _ (getMethod (Value.ref _) (Str.ofString "span") _) _ _ _); k_dflt (refine' method_hit ?h1 ?h2 ?h3 ?_; (case h1 => k_asm); (case h2 => assumption); (case h3 => walk_at "M sub"); k_whole); intro zzfs' zzFA' zzSF') | with_reducible (k_here; (with_reducible show wpAny _ _ (getMethod (Value.ref _) (Str.ofString "search") _) _ _ _); k_dflt (refine' getMethod_fn ?h1 ?h2 ?h3 ?h4 ?_; (case h1 => exact News.get (by k_asm) (by k_mem)); (case h2 => exact News.get (by k_asm) (by k_mem)); (case h3 => exact FF.look_search); (case h4 => exact rfl); k_whole))) | walk1)) | (leave1; walk_say "STEP leave1"; try dsimp only) | fail "no step")
        change Q (Value.ref mf) _
        rename Fr _ _ _ _ => F8
        rename News _ _ _ _ => N8
        exact h1 _ _ eR6.symm _ _ _ _ _ ht1 sub1 off1 (fun q hq => ⟨(N8 q hq).1, (N8 q hq).2.2⟩) F8.keep hm1
      case z2 =>
        intro k wit row e6 e d od v2 t1 t3 g2 h' tk' FG R U Dn
        have eR6 := (revGo_nag (S := fun b => searchL bes b 0 D) (n := n1) (fd := fo) hi6 hj6 (by first | exact if_pos (by assumption) | exact if_neg (by assumption)) e6).symm.trans hr0
        refine fly_onP S.B FG R U rfl fun h'' R' U' => ?_
        exact h2 _ _ _ eR6.symm _ _ _ _ _ _ _ _ _ _ ht1 sub1 R' U' Dn
      case z3 =>
        intro e6 e dx g2 h' tk' FG R U
        have eR6 := (revGo_bad (S := fun b => searchL bes b 0 D) (n := n1) (fd := fo) hi6 hj6 (by first | exact if_pos (by assumption) | exact if_neg (by assumption)) e6).symm.trans hr0
        refine fly_onP S.B FG R U rfl fun h'' R' U' => ?_
        exact h3 eR6.symm _ _ _ _ _ _ ht1 sub1 R' U'
      case z1 =>
        intro a6 b6 e6 f6 ch6 tc6 h' tk' F' N' T' H' o6 n' K'
        have eR6 := (revGo_hit (S := fun b => searchL bes b 0 D) (n := n1) (fd := fo) hi6 hj6 (by first | exact if_pos (by assumption) | exact if_neg (by assumption)) e6).symm.trans hr0
        obtain ⟨hb1, d6, hd6, hb2⟩ := searchL_fin e6
        have hb3 := P.fin d6 hd6
        clear F6 N6
        have H8 := H'.mono (ch' := tc6 ++ (ch6 ++ led1)) (fun q hq => List.mem_append_right _ (List.mem_append_left _ hq))
        repeat' (first | (k_unfold; (try dsimp only)) | (k_end; wrow_close) | (first | ((with_reducible show wpAny _ _ (call (Value.ref _) _) _ _ _); first | with_reducible (k_here; (with_reducible show wpAny _ _ (call (Value.ref _) []) _ _ _); k_dflt (refine' call_span ?F ?N ?T ?S ?e ?r ?_; (case F => k_asm); (case N => k_asm); (case T => k_asm); (case S => assumption); (case e => rfl); (case r => exact Nat.le_of_ble_eq_true rfl); k_whole); intro zzD' zzt' zzu' zze' zzh' zztk' zzF' zzN' zzne'; (try dsimp only); (try k_sweep); (try k_fold))) | ((with_reducible show wpAny _ _ (callWith _ _ _ _ _) _ _ _); first | with_reducible (k_here; k_dflt (first | (refine' callWith_F ?k1 ?_; (case k1 => exact FnAt.of (by k_asm) (by k_mem)); k_whole) | (refine' callWith_F0 ?k1 ?_; (case k1 => assumption); k_whole; try dsimp only [List.nil_append, List.cons_append])))) | ((with_reducible show wpAny _ _ (truthy (Value.ref _)) _ _ _); first | with_reducible (k_here; k_dflt (refine' truthy_hit ?h1 ?h2 ?h3 ?_; (case h1 => k_asm); (case h2 => assumption); (case h3 => walk_at "M sub"); k_whole))) | ((with_reducible show wpAny _ _ (getMethod (Value.ref _) _ _) _ _ _); first | with_reducible (k_here; (with_reducible show wpAny _ _ (getMethod (Value.ref _) (Str.ofString "span") _) _ _ _); k_dflt (refine' method_hit ?h1 ?h2 ?h3 ?_; (case h1 => k_asm); (case h2 => assumption); (case h3 => walk_at "M sub"); k_whole); intro zzfs' zzFA' zzSF') | with_reducible (k_here; (with_reducible show wpAny _ _ (getMethod (Value.ref _) (Str.ofString "search") _) _ _ _); k_dflt (refine' getMethod_fn ?h1 ?h2 ?h3 ?h4 ?_; (case h1 => exact News.get (by k_asm) (by k_mem)); (case h2 => exact News.get (by k_asm) (by k_mem)); (case h3 => exact FF.look_search); (case h4 => exact rfl); k_whole))) | walk1) | (dsimp only; (first | ((with_reducible show wpAny _ _ (call (Value.ref _) _) _ _ _); first | with_reducible (k_here; (with_reducible show wpAny _ _ (call (Value.ref _) []) _ _ _); k_dflt (refine' call_span ?F ?N ?T ?S ?e ?r ?_; (case F => k_asm); (case N => k_asm); (case T => k_asm); (case S => assumption); (case e => rfl); (case r => exact Nat.le_of_ble_eq_true rfl); k_whole); intro zzD' zzt' zzu' zze' zzh' zztk' zzF' zzN' zzne'; (try dsimp only); (try k_sweep); (try k_fold))) | ((with_reducible show wpAny _ _ (callWith _ _ _ _ _) _ _ _); first | with_reducible (k_here; k_dflt (first | (refine' callWith_F ?k1 ?_; (case k1 => exact FnAt.of (by k_asm) (by k_mem)); k_whole) | (refine' callWith_F0 ?k1 ?_; (case k1 => assumption); k_whole; try dsimp only [List.nil_append, List.cons_append])))) | ((with_reducible show wpAny _ _ (truthy (Value.ref _)) _ _ _); first | with_reducible (k_here; k_dflt (refine' truthy_hit ?h1 ?h2 ?h3 ?_; (case h1 => k_asm); (case h2 => assumption); (case h3 => walk_at "M sub"); k_whole))) | ((with_reducible show wpAny _ _ (getMethod (Value.ref _) _ _) _ _ _); first | with_reducible (k_here; (with_reducible show wpAny _ _ (getMethod (Value.ref _) (Str.ofString "span") _) _ _ _); k_dflt (refine' method_hit ?h1 ?h2 ?h3 ?_; (case h1 => k_asm); (case h2 => assumption); (case h3 => walk_at "M sub"); k_whole); intro zzfs' zzFA' zzSF') | with_reducible (k_here; (with_reducible show wpAny _ _ (getMethod (Value.ref _) (Str.ofString "search") _) _ _ _); k_dflt (refine' getMethod_fn ?h1 ?h2 ?h3 ?h4 ?_; (case h1 => exact News.get (by k_asm) (by k_mem)); (case h2 => exact News.get (by k_asm) (by k_mem)); (case h3 => exact FF.look_search); (case h4 => exact rfl); k_whole))) | walk1)) | (leave1; walk_say "STEP leave1"; try dsimp only) | fail "no step")
        rename Fr _ _ _ _ => F8
        rename News _ _ _ _ => N8
        refine pick2 F8 (Str.ofString "i") (Str.ofString "j") ⟨_, rfl⟩ ⟨_, rfl⟩ ?_
        intro ti1 tj1 hi1 hj1
        refine ksw_end ⟨tc6, ch6 ++ led1, .ref mf, some (i1, j1), f6, a6, b6, ti1, tj1⟩ F8 N8 (by walk_at "M sub") ⟨T', fun q hq => (List.mem_append.mp hq).elim (o6 q) (off1 q), fun q hq => List.mem_append_right _ (sub1 q hq), H'.mono fun q hq => List.mem_append_left _ hq, .inr ⟨mf, i1, j1, rfl, rfl, hm1.mono fun q hq => List.mem_append_right _ hq⟩⟩
          (List.forall_mem_cons.mpr ⟨rfl, List.forall_mem_cons.mpr ⟨rfl, List.forall_mem_cons.mpr ⟨hi1, List.forall_mem_cons.mpr ⟨hj1, List.forall_mem_nil _⟩⟩⟩⟩) ?_ ⟨n1, ?_, eR6⟩ ?_
        · intro z hz _
          simp only [List.forall_mem_cons] at hz
          obtain ⟨a1, a2, a3, a4, _⟩ := hz
          simp only [if_neg a1, if_neg a2, if_neg a3, if_neg a4]
          rfl
        · show (1100 - b6).toNat < n1
          omega
        · show (1100 - b6).toNat < (1100 - j1).toNat
          omega)
    all_goals (
      rename Fr _ _ _ _ => F6
      rename News _ _ _ _ => N6
      change Q fv _
      have eR6 : Res.ret fo = R₀ := Eq.trans (Eq.symm (by first | exact revGo_stop1 (by assumption) | exact revGo_stop2 (by assumption))) hr0
      rcases hf1 with ⟨q1, q2⟩ | ⟨f6, a6, b6, q1, q2, q3⟩
      · rw [q2]
        exact h0 (by rw [← eR6, q1]) _ _ _ _ ht1 sub1 off1 (fun q hq => ⟨(N6 q hq).1, (N6 q hq).2.2⟩) F6.keep
      · rw [q2]
        exact h1 a6 b6 (by rw [← eR6, q1]) _ _ _ _ _ ht1 sub1 off1 (fun q hq => ⟨(N6 q hq).1, (N6 q hq).2.2⟩) F6.keep q3) : ∀ (prog : Program) (w : World) (s : Shared) (base : Heap) (g : Heap) (fr : List Env) (gd : Option (List Code)) (p : Program) (loose : List Str) (mean : ExcName → Option Value) (mg : Str → Option Value) (mb : Str → Option Value) (Q : Value → Shared → Prop) (E : Value → Shared → Prop) (tc : List (Addr × Obj)) (led : List (Addr × Obj)) (pf : Addr) (D : List RowD) (bes : Str) (text : Str) (col : Int) (tx : Tok) (tcl : Tok) (R₀ : Res), srev_walk_P prog w s base g fr gd p loose mean mg mb Q E tc led pf D bes text col tx tcl R₀) _ _ _ _ _ _ _ _ _ _ _ _ _ _ _ _ _ _ _ _ _ _ _ _
theorem srev_walk {Q E : Value → Shared → Prop} {tc led : List (Addr × Obj)} {pf : Addr} {D : List RowD} {bes text : Str} {col : Int} {tx tcl : Tok} {R₀ : Res}
    (S : Std (AT 520 1200 fr gd) base fr g (Mine.hd.heap_1 w.params) p loose mean mg mb s.heap (tc ++ led)) (DK : KtsDicts (fr.filterMap (·.frame)) g)
    (P : PrAt w led pf D bes text) (C : CodeHd g 155 151) (ht : TabC tc) (hne : ∀ q ∈ led, q.1 ≠ 151) (hR : revTop (fun b => searchL bes b 0 D) col = R₀)
    (h0 : R₀ = .ret none → ∀ tc' led' h' tk', TabC tc' → (∀ q ∈ led, q ∈ led') → (∀ q ∈ led', q.1 ≠ 151) → (∀ q ∈ tc' ++ led', h'.get? q.1 = some q.2 ∧ g.get? q.1 = none) → (∀ b o, g.get? b = some o → h'.get? b = some o) → Q .none { s with heap := h', toks := tk' })
    (h1 : ∀ a b, R₀ = .ret (some (a, b)) → ∀ f tc' led' h' tk', TabC tc' → (∀ q ∈ led, q ∈ led') → (∀ q ∈ led', q.1 ≠ 151) → (∀ q ∈ tc' ++ led', h'.get? q.1 = some q.2 ∧ g.get? q.1 = none) → (∀ b o, g.get? b = some o → h'.get? b = some o) → HitC w led' f a b → Q (.ref f) { s with heap := h', toks := tk' })
    (h2 : ∀ k wit row, R₀ = .nag k wit row → ∀ e d od v2 t1 t3 tc' led' h' tk', TabC tc' → (∀ q ∈ led, q ∈ led') → FlewP (fun B => RD B v2 (.list wit)) base g fr e (.ref 73) (some d) ((d, od) :: (tc' ++ led')) h' → g.UpToSlots h' → DObj od (nagM (.int k t1) v2 (.str row t3)) → E (.ref e) { s with heap := h', toks := tk' })
    (h3 : R₀ = .bad → ∀ e dx tc' led' h' tk', TabC tc' → (∀ q ∈ led, q ∈ led') → FlewP (fun _ => True) base g fr e (.type "ValueError") dx (tc' ++ led') h' → g.UpToSlots h' → E (.ref e) { s with heap := h', toks := tk' }) :
    wpAny (model prog w) (AT 520 1200 fr gd) (call (.ref 28) [.ref pf, .str text tx, .int col tcl]) Q E s :=
  (show srev_walk_P prog w s base g fr gd p loose mean mg mb Q E tc led pf D bes text col tx tcl R₀ from close1 (R := srev_walk_R) _ srev_walk_core (prog, w, s, base, g, fr, gd, p, loose, mean, mg, mb, Q, E, tc, led, pf, D, bes, text, col, tx, tcl, R₀)) S DK P C ht hne hR h0 h1 h2 h3
end

section
open PySem PySem.W PyProof.Rows PySem.Calls PyProof.Rows.LCg PySem.Spec
set_option maxRecDepth 100000
section
variable {prog : Program} {w : World} {A₀ : Around} {s : Shared} {base h₀ : Heap} {outer : List Env} {env : Env} {L : Addr} {m : Str → Option Value} {tc led : List (Addr × Obj)} {gd : Option (List Code)} {dp un : Nat}
  {p : Program} {loose : List Str} {mean : ExcName → Option Value} {mg mb : Str → Option Value} {Q E : Value → Shared → Prop} {pf : Addr} {D : List RowD} {bes text : Str} {tx tcl : Tok} {col : Int} {R₀ : Res}
theorem srev_use (B : Below A₀ base outer h₀) (F : Fr h₀ L s.heap m) (X : (Mine.hd.heap_1 w.params).In h₀) (T : Top p loose mean mg mb h₀) (N : News h₀ L s.heap (tc ++ led)) (DK : KtsDicts (outer.filterMap (·.frame)) h₀)
    (P : PrAt w led pf D bes text) (C : CodeHd h₀ 155 151) (ht : TabC tc) (hne : ∀ q ∈ led, q.1 ≠ 151) (hR : revTop (fun b => searchL bes b 0 D) col = R₀)
    (hd : dp ≤ 520) (hu : un ≤ 1200) (hf : env.frame = some L) (hke : env.scope.kind = .function)
    (h0 : R₀ = .ret none → ∀ tc' led' h' tk', TabC tc' → (∀ q ∈ led, q ∈ led') → Fr h₀ L h' m → News h₀ L h' (tc' ++ led') → Q .none { s with heap := h', toks := tk' })
    (h1 : ∀ a b, R₀ = .ret (some (a, b)) → ∀ f tc' led' h' tk', TabC tc' → (∀ q ∈ led, q ∈ led') → Fr h₀ L h' m → News h₀ L h' (tc' ++ led') → HitC w led' f a b → Q (.ref f) { s with heap := h', toks := tk' })
    (h2 : ∀ k wit row, R₀ = .nag k wit row → ∀ e d od v2 t1 t3 tc' led' g₂ h' tk', TabC tc' → (∀ q ∈ led, q ∈ led') → Fr h₀ L g₂ m → FlewP (fun B => RD B v2 (.list wit)) base g₂ (env :: outer) e (.ref 73) (some d) ((d, od) :: (tc' ++ led')) h' → g₂.UpToSlots h' → DObj od (nagM (.int k t1) v2 (.str row t3)) → E (.ref e) { s with heap := h', toks := tk' })
    (h3 : R₀ = .bad → ∀ e dx tc' led' g₂ h' tk', TabC tc' → (∀ q ∈ led, q ∈ led') → Fr h₀ L g₂ m → FlewP (fun _ => True) base g₂ (env :: outer) e (.type "ValueError") dx (tc' ++ led') h' → g₂.UpToSlots h' → E (.ref e) { s with heap := h', toks := tk' }) :
    wpAny (model prog w) { handled := none, depth := dp, frames := some (env :: outer), guards := gd, units := un } (call (.ref 28) [.ref pf, .str text tx, .int col tcl]) Q E s := by
  have S := std_of (A := AT 520 1200 (env :: outer) gd) (led := tc ++ led) B F X T N (fun q hq => hq) rfl hf hke
  have FG := fr_hide F N
  have st : h₀.StaysIn (hideAll s.heap ((tc ++ led).map (·.1))) := FG.keep
  have hdk := dicts_push (env := env) DK FG hf
  have up : ∀ {tc' led' : List (Addr × Obj)} {h' : Heap}, (∀ q ∈ tc' ++ led', h'.get? q.1 = some q.2 ∧ (hideAll s.heap ((tc ++ led).map (·.1))).get? q.1 = none) → (∀ b o, (hideAll s.heap ((tc ++ led).map (·.1))).get? b = some o → h'.get? b = some o) → Fr h₀ L h' m ∧ News h₀ L h' (tc' ++ led') := by
    intro tc' led' h' hN hk
    refine ⟨fr_stay FG hk, fun q hq => ⟨(hN q hq).1, fun z => ?_, kts_none st (hN q hq).2⟩⟩
    obtain ⟨oL, es, ep, hL, _⟩ := FG.ns
    rw [← z, (hN q hq).2] at hL
    cases hL
  refine depth_le (A' := AT 520 1200 (env :: outer) gd) (srev_walk S hdk P (C.keeps st) ht hne hR ?_ ?_ ?_ ?_) rfl hd rfl rfl hu
  · intro h tc' led' h' tk' hT sub off hN hk
    exact h0 h tc' led' h' tk' hT sub (up hN hk).1 (up hN hk).2
  · intro a b h f tc' led' h' tk' hT sub off hN hk H
    exact h1 a b h f tc' led' h' tk' hT sub (up hN hk).1 (up hN hk).2 H
  · intro k wit row h e d od v2 t1 t3 tc' led' h' tk' hT sub R U Dn
    exact h2 k wit row h e d od v2 t1 t3 tc' led' _ h' tk' hT sub FG R U Dn
  · intro h e dx tc' led' h' tk' hT sub R U
    exact h3 h e dx tc' led' _ h' tk' hT sub FG R U
end
/-- what _law_told gives back -/
noncomputable def toldD : Res → Dat
  | .ret none => .none
  | .ret (some (a, b)) => .tuple [.int a, .int b]
  | .nag k wit row => .list [.int k, .list wit, .str row]
  | .bad => .str (Str.ofString "spoilt")
theorem lookIn_D {od : Obj} {mA : Str → Option Value} (D : DObj od mA) (name : Str) : lookIn name od = some (mA name) := by
  obtain ⟨es, ep, hd, hs, hu, hf⟩ := D
  unfold lookIn
  rw [hd]
  dsimp only
  have e := hf name
  unfold nsFind findBy at e
  rw [← Array.find?_toList] at e
  cases q : es.toList.find? (·.key.isStr name) with
  | some x =>
    rw [q] at e
    rw [← e]
    rfl
  | none =>
    rw [q] at e
    dsimp only
    rw [← e]
    have : es.toList.any (·.refKey) = false := by
      rw [List.any_eq_false]
      intro x hx
      obtain ⟨s, t, hk⟩ := hs x (by simpa using hx)
      simp [DictEntry.refKey, hk]
    rw [this]
    rfl
end

section
set_option maxRecDepth 100000
/-- a row's event, wherever the search begins ahead of it -/
noncomputable def evRow (bes : Str) (k : Nat) (d : RowD) : Out :=
  match d.o with
  | none => .bad
  | some line => if lessS bes d.raw = true then (if line ≤ 2 then .hit d.beg d.fin else .none)
      else if lessS d.raw bes = false ∧ eqS d.raw bes = false then .nag ((k : Int) + 1) (witS bes d.raw) d.raw else .none
noncomputable def evsL (bes : Str) : Nat → List RowD → List Out
  | _, [] => []
  | k, d :: r => evRow bes k d :: evsL bes (k + 1) r
noncomputable def firstO : List Out → Out
  | [] => .none
  | .none :: r => firstO r
  | o :: _ => o
noncomputable def dueL (bound : Int) : Option (Int × Int) → List Out → Res
  | last, [] => .ret last
  | last, .none :: r => dueL bound last r
  | last, .hit a b :: r => if bound < b then .ret last else dueL bound (some (a, b)) r
  | _, .nag k w row :: _ => .nag k w row
  | _, .bad :: _ => .bad
/-- rows one behind the other, a sign between them -/
noncomputable def ConsR : Int → List RowD → Prop
  | _, [] => True
  | b, d :: r => d.beg = b ∧ d.beg < d.fin ∧ ConsR (d.fin + 1) r
theorem rowOut_before {bes : Str} {begin : Int} {k : Nat} {d : RowD} (h : d.fin ≤ begin) : rowOut bes begin k d = none := by
  unfold rowOut
  rw [if_neg (by omega)]
theorem rowOut_ahead {bes : Str} {begin : Int} {k : Nat} {d : RowD} (h : begin < d.fin) (hb : begin ≤ d.beg) : rowOut bes begin k d = match evRow bes k d with | .none => none | o => some o := by
  unfold rowOut evRow
  rw [if_pos h]
  cases d.o with
  | none => rfl
  | some line =>
    dsimp only
    by_cases h1 : lessS bes d.raw = true
    · rw [if_pos h1, if_pos h1]
      by_cases h2 : line ≤ 2
      · rw [if_pos h2, if_pos h2, Int.max_eq_left hb]
      · rw [if_neg h2, if_neg h2]
    · rw [if_neg h1, if_neg h1]
      by_cases h2 : lessS d.raw bes = false ∧ eqS d.raw bes = false
      · rw [if_pos h2, if_pos h2]
      · rw [if_neg h2, if_neg h2]
theorem search_first {bes : Str} {begin : Int} : ∀ {l : List RowD} {b : Int} {k : Nat}, ConsR b l → begin ≤ b → searchL bes begin k l = firstO (evsL bes k l)
  | [], _, _, _, _ => rfl
  | d :: r, b, k, h, hb => by
    obtain ⟨h1, h2, h3⟩ := h
    unfold searchL evsL
    rw [rowOut_ahead (by omega) (by omega)]
    cases e : evRow bes k d with
    | none => exact search_first h3 (by omega)
    | hit a b => rfl
    | nag x y z => rfl
    | bad => rfl
theorem search_skip {bes : Str} {begin : Int} {l : List RowD} : ∀ {pre : List RowD} {k : Nat}, (∀ d ∈ pre, d.fin ≤ begin) → searchL bes begin k (pre ++ l) = searchL bes begin (k + pre.length) l
  | [], _, _ => rfl
  | d :: r, k, h => by
    rw [List.cons_append]
    conv => lhs; unfold searchL
    rw [rowOut_before (h d (.head _))]
    dsimp only
    rw [search_skip fun e he => h e (.tail _ he), List.length_cons, Nat.add_assoc, Nat.add_comm 1]
noncomputable def goF (S : Int → Out) (col : Int) (n : Nat) (fd : Option (Int × Int)) : Out → Res
  | .none => .ret fd
  | .hit a b => revGo S col n fd a b
  | .nag k w r => .nag k w r
  | .bad => .bad
theorem revGo_goF {S : Int → Out} {col : Int} {n : Nat} {fd : Option (Int × Int)} {i j : Int} (hij : i < j) (hj : j ≤ col) : revGo S col (n + 1) fd i j = goF S col n (some (i, j)) (S j) := by
  unfold revGo
  rw [if_pos ⟨by omega, hj⟩, if_neg (by omega)]
  cases S j <;> rfl
theorem revTop_goF {S : Int → Out} {col : Int} : revTop S col = goF S col 1200 none (S 0) := by
  unfold revTop
  cases S 0 <;> rfl
theorem evRow_hit {bes : Str} {k : Nat} {d : RowD} {a b : Int} (h : evRow bes k d = .hit a b) : a = d.beg ∧ b = d.fin := by
  unfold evRow at h
  split at h
  · cases h
  · split at h
    · split at h
      · cases h
        exact ⟨rfl, rfl⟩
      · cases h
    · split at h <;> cases h
theorem goF_due {bes : Str} {col : Int} : ∀ {l pre : List RowD} {b : Int} {n : Nat} {fd : Option (Int × Int)} {D : List RowD}, D = pre ++ l → (∀ d ∈ pre, d.fin < b) → ConsR b l → l.length < n → goF (fun x => searchL bes x 0 D) col n fd (firstO (evsL bes pre.length l)) = dueL col fd (evsL bes pre.length l)
  | [], pre, b, n, fd, D, _, _, _, _ => rfl
  | d :: r, pre, b, n, fd, D, hD, hp, ⟨h1, h2, h3⟩, hn => by
    have hD' : D = (pre ++ [d]) ++ r := by rw [hD, List.append_assoc]; rfl
    have hp' : ∀ e ∈ pre ++ [d], e.fin < d.fin + 1 := fun e he => by
      rcases List.mem_append.mp he with he | he
      · have := hp e he; omega
      · rw [List.mem_singleton.mp he]; omega
    have hl : (pre ++ [d]).length = pre.length + 1 := by simp
    have IH := fun n fd (q : r.length < n) => goF_due (bes := bes) (col := col) (n := n) (fd := fd) hD' hp' h3 q
    rw [hl] at IH
    unfold evsL
    rw [List.length_cons] at hn
    cases e : evRow bes pre.length d with
    | none => exact IH n fd (by omega)
    | hit a c =>
      obtain ⟨rfl, rfl⟩ := evRow_hit e
      have ef : ∀ x : List Out, firstO (Out.hit d.beg d.fin :: x) = Out.hit d.beg d.fin := fun _ => rfl
      have eg : ∀ n, goF (fun x => searchL bes x 0 D) col n fd (Out.hit d.beg d.fin) = revGo (fun x => searchL bes x 0 D) col n fd d.beg d.fin := fun _ => rfl
      have ed : ∀ x : List Out, dueL col fd (Out.hit d.beg d.fin :: x) = if col < d.fin then .ret fd else dueL col (some (d.beg, d.fin)) x := fun _ => rfl
      rw [ef, eg, ed]
      by_cases hc : col < d.fin
      · rw [if_pos hc]
        obtain ⟨n', rfl⟩ : ∃ k, n = k + 1 := ⟨n - 1, by omega⟩
        unfold revGo
        rw [if_neg (by omega)]
      · rw [if_neg hc]
        obtain ⟨n', rfl⟩ : ∃ k, n = k + 1 := ⟨n - 1, by omega⟩
        rw [revGo_goF (by omega) (by omega)]
        have hs : searchL bes d.fin 0 D = firstO (evsL bes (pre.length + 1) r) := by
          rw [hD', search_skip (fun e he => by have := hp' e he; omega), hl, Nat.zero_add]
          exact search_first h3 (by omega)
        rw [hs]
        exact IH n' _ (by omega)
    | nag x y z => rfl
    | bad => rfl
theorem rev_due {bes : Str} {col : Int} {D : List RowD} (h : ConsR 0 D) (hl : D.length < 1200) : revTop (fun x => searchL bes x 0 D) col = dueL col none (evsL bes 0 D) := by
  rw [revTop_goF]
  rw [search_first h (Int.le_refl 0)]
  exact goF_due (pre := []) rfl (fun _ h => nomatch h) h hl
end

section
theorem sepDue : True := by
  w_top off
  trivial
open PySem PySem.W PyProof.Rows PySem.Calls PyProof.Rows.LCg
set_option maxRecDepth 100000
theorem fill_me23 : PySem.Challenge.rw_mr0234_01 = PySem.Challenge.rw_mr0234_01 ∧ Mine.hd.heap_1 = Mine.hd.heap_1 := by
  k_fill
  exact ⟨rfl, rfl⟩
set_option hygiene false in
local macro_rules | `(tactic| k_mem) => `(tactic| first | (refine mem1L ?_; k_mem) | (refine mem1R ?_; k_mem) | (refine mem1V ?_; ktr_member))
set_option hygiene false in
local macro_rules | `(tactic| walk_at "exec For Name Name cons nil") => `(tactic| (k_here; (rename Fr _ _ _ _ => lF'); (with_unfolding_all refine' For_invVF lF' ?k1 ?k2 ?_; (case k1 | k2 => exact rfl); k_whole)))
variable {prog : Program} {w : World} {s : Shared} {base g : Heap} {fr : List Env} {gd : Option (List Code)}
  {p : Program} {loose : List Str} {mean : ExcName → Option Value} {mg mb : Str → Option Value}
noncomputable def outR : Out → Res
  | .none => .ret none
  | .hit a b => .ret (some (a, b))
  | .nag k w r => .nag k w r
  | .bad => .bad
noncomputable def outL : Option (Int × Int) → Out
  | none => .none
  | some (a, b) => .hit a b
structure DS where
  lv : Value
  lo : Option (Int × Int)
structure PDue (led : List (Addr × Obj)) (O : List Out) (bound : Int) (R : Res) (i : Nat) (c : DS) : Prop where
  is : EvV led c.lv (outL c.lo)
  due : dueL bound c.lo (O.drop i) = R
theorem due_stop {bound : Int} {lo : Option (Int × Int)} {O : List Out} {i : Nat} {R : Res} {o : Out} (h : dueL bound lo (O.drop i) = R) (ho : O[i]? = some o) : dueL bound lo (o :: O.drop (i + 1)) = R := by
  have hi : i < O.length := (List.getElem?_eq_some_iff.mp ho).1
  rw [List.drop_eq_getElem_cons hi] at h
  rw [List.getElem?_eq_getElem hi] at ho
  rw [← Option.some.inj ho]
  exact h
theorem outL_R (lo : Option (Int × Int)) : outR (outL lo) = .ret lo := by
  cases lo with
  | none => rfl
  | some p => rfl
theorem da_cons {ch : List (Addr × Obj)} {vs : List Value} {d : Dat} {ds : List Dat} (h : DatAll ch vs (d :: ds)) : ∃ v r, vs = v :: r ∧ DatIn ch v d ∧ DatAll ch r ds := by
  cases h with
  | cons a b => exact ⟨_, _, rfl, a, b⟩
theorem da_nil {ch : List (Addr × Obj)} {vs : List Value} (h : DatAll ch vs []) : vs = [] := by
  cases h
  rfl
theorem di_int {ch : List (Addr × Obj)} {v : Value} {i : Int} (h : DatIn ch v (.int i)) : ∃ t, v = .int i t := by
  cases h
  exact ⟨_, rfl⟩
theorem ints_rds {ch : List (Addr × Obj)} {hh : Heap} (ns : List Int) : ∀ {vs : List Value}, DatAll ch vs (ns.map .int) → RDs hh vs (ns.map .int) := by
  induction ns with
  | nil =>
    intro vs h
    rw [da_nil h]
    exact RDs.nil
  | cons k r ih =>
    intro vs h
    obtain ⟨v, q, e, h1, h2⟩ := da_cons h
    obtain ⟨t, e1⟩ := di_int h1
    rw [e, e1]
    exact RDs.cons RD.int (ih h2)
theorem tup_rd {ch : List (Addr × Obj)} {hh : Heap} (k : ∀ q ∈ ch, hh.get? q.1 = some q.2) {v : Value} (ns : List Int) (h : DatIn ch v (.tuple (ns.map .int))) : RD hh v (.tuple (ns.map .int)) := by
  cases h with
  | tuple m r => exact RD.tuple (k _ m) (ints_rds ns r)
theorem tups_rds {ch : List (Addr × Obj)} {hh : Heap} (k : ∀ q ∈ ch, hh.get? q.1 = some q.2) {f g : Int → Int} {l : List Int} : ∀ {vs : List Value}, DatAll ch vs (l.map fun z => Dat.tuple [.int z, .int (f z), .int (g z)]) → RDs hh vs (l.map fun z => Dat.tuple [.int z, .int (f z), .int (g z)]) := by
  induction l with
  | nil =>
    intro vs h
    rw [da_nil h]
    exact RDs.nil
  | cons z l ih =>
    intro vs h
    obtain ⟨v, q, e, h1, h2⟩ := da_cons h
    rw [e]
    exact RDs.cons (tup_rd k [z, f z, g z] h1) (ih h2)
/-- the statement of due_spec over its data -/
noncomputable def due_spec_P (prog : Program) (w : World) (s : Shared) (base : Heap) (g : Heap) (fr : List Env) (gd : Option (List Code)) (p : Program) (loose : List Str) (mean : ExcName → Option Value) (mg : Str → Option Value) (mb : Str → Option Value) (Q : Value → Shared → Prop) (E : Value → Shared → Prop) (le : Addr) (evs : List Value) (e : Nat) (led : List (Addr × Obj)) (O : List Out) (bound : Int) (tb : Tok) (R : Res) : Prop :=
  ∀ (S : Std (AT 500 1000 fr gd) base fr g (Mine.hd.heap_1 w.params) p loose mean mg mb s.heap led) (ml : (le, W.listOf evs.toArray e) ∈ led) (hl : evs.length = 5) (hO : ∀ (j : Nat) (v : Value), evs[j]? = some v → ∃ o, O[j]? = some o ∧ EvV led v o) (hOl : O.length = 5) (hR : dueL bound none O = R) (hret : ∀ (v : Value) (o : Out) (h' : Heap) (tk' : Nat), s.heap.StaysIn h' → EvV led v o → outR o = R → Q v { s with heap := h', toks := tk' }), wpAny (model prog w) (AT 500 1000 fr gd) (call (.ref 187) [.ref le, .int bound tb]) Q E s
noncomputable def due_spec_R (p : Program × World × Shared × Heap × Heap × (List Env) × (Option (List Code)) × Program × (List Str) × (ExcName → Option Value) × (Str → Option Value) × (Str → Option Value) × (Value → Shared → Prop) × (Value → Shared → Prop) × Addr × (List Value) × Nat × (List (Addr × Obj)) × (List Out) × Int × Tok × Res) : Prop := due_spec_P p.1 p.2.1 p.2.2.1 p.2.2.2.1 p.2.2.2.2.1 p.2.2.2.2.2.1 p.2.2.2.2.2.2.1 p.2.2.2.2.2.2.2.1 p.2.2.2.2.2.2.2.2.1 p.2.2.2.2.2.2.2.2.2.1 p.2.2.2.2.2.2.2.2.2.2.1 p.2.2.2.2.2.2.2.2.2.2.2.1 p.2.2.2.2.2.2.2.2.2.2.2.2.1 p.2.2.2.2.2.2.2.2.2.2.2.2.2.1 p.2.2.2.2.2.2.2.2.2.2.2.2.2.2.1 p.2.2.2.2.2.2.2.2.2.2.2.2.2.2.2.1 p.2.2.2.2.2.2.2.2.2.2.2.2.2.2.2.2.1 p.2.2.2.2.2.2.2.2.2.2.2.2.2.2.2.2.2.1 p.2.2.2.2.2.2.2.2.2.2.2.2.2.2.2.2.2.2.1 p.2.2.2.2.2.2.2.2.2.2.2.2.2.2.2.2.2.2.2.1 p.2.2.2.2.2.2.2.2.2.2.2.2.2.2.2.2.2.2.2.2.1 p.2.2.2.2.2.2.2.2.2.2.2.2.2.2.2.2.2.2.2.2.2
noncomputable def due_spec_c : Program × World × Shared × Heap × Heap × (List Env) × (Option (List Code)) × Program × (List Str) × (ExcName → Option Value) × (Str → Option Value) × (Str → Option Value) × (Value → Shared → Prop) × (Value → Shared → Prop) × Addr × (List Value) × Nat × (List (Addr × Obj)) × (List Out) × Int × Tok × Res := pick (neP inferInstance (neP neW (neP neS (neP inferInstance (neP inferInstance (neP inferInstance (neP inferInstance (neP inferInstance (neP inferInstance (neP inferInstance (neP inferInstance (neP inferInstance (neP inferInstance (neP inferInstance (neP inferInstance (neP inferInstance (neP inferInstance (neP inferInstance (neP inferInstance (neP inferInstance (neP inferInstance ((⟨Res.bad⟩ : Nonempty Res))))))))))))))))))))))) due_spec_R
set_option maxHeartbeats 1500000 in
set_option pp.deepTerms false in
set_option pp.deepTerms.threshold 6 in
set_option pp.maxSteps 1500 in
theorem due_spec_core : due_spec_R due_spec_c := (by
  intro prog w s base g fr gd p loose mean mg mb Q E le evs e led O bound tb R S ml hl hO hOl hR hret
  refine wpAny_call ?_
  k_dflt (refine' enterC ?kS ?k6 ?k7 ?k8 ?k9 ?kB ?_ ?c2 ?c3 ?c4 ?c5; (case kS => assumption); (case k6 => k_is); (case k7 => k_is); (case k8 => exact Nat.le_of_ble_eq_true rfl); (case k9 => exact BindsTo.of_eq rfl); (case c5 => decide); (case kB => exact locs rfl); (case c2 => exact rfl); (case c3 => exact rfl); (case c4 => exact rfl); k_whole; intro zzL' zzh' zzB' zzX' zzT' zzF' zzN'; (try dsimp only); (try k_fold))
  repeat' (first | (k_unfold; (try dsimp only)) | (k_end; wrow_close) | ((fail_if_success (with_reducible show wpAny _ _ (pyIter _) _ _ _)); walk1) | ((fail_if_success (with_reducible show wpAny _ _ (pyIter _) _ _ _));dsimp only; walk1) | (leave1; walk_say "STEP leave1"; try dsimp only) | fail "no step")
  rename Fr _ _ _ _ => lF
  rename News _ _ _ _ => lN
  refine' g_list (l := le) (vs := evs) (nn := e) (fun _ : DS => led) (fun c => [(Str.ofString "last", c.lv)]) [] (PDue led O bound R) ⟨.none, none⟩ rfl (fun _ => ml) lF lN (by walk_at "M sub") ?kk ⟨.none, hR⟩ ?_ ?_
  case kk => exact List.forall_mem_cons.mpr ⟨rfl, List.forall_mem_nil _⟩
  · clear lF lN
    rintro ⟨lv, lo⟩ i v u h tk own hv hoff ⟨q1, q2⟩ F9 N9
    obtain ⟨o, ho, ev⟩ := hO i v hv
    have q3 := due_stop q2 ho
    dsimp only [kstB] at F9 N9 q1 q2 q3
    have kMark9 : KstMark := KstMark.mark trivial
    with_reducible show wpAny _ _ _ _ _ _
    cases ev with
    | none =>
      k_steps
      rename Fr _ _ _ _ => F8
      rename News _ _ _ _ => N8
      refine g_end (⟨lv, lo⟩ : DS) F8 N8 (by walk_at "M sub") (by walk_at "M sub") (fun p hp q hq => hoff p hp q hq) (List.forall_mem_cons.mpr ⟨rfl, List.forall_mem_nil _⟩) ?_ ⟨q1, q3⟩
      intro z h1 h2 h3
      have h4 : z ≠ Str.ofString "last" := h2 _ (.head _)
      simp only [if_neg h1, if_neg h4, h3, Bool.false_eq_true, if_false]
    | bad =>
      k_steps
      rename Fr _ _ _ _ => F8
      rename News _ _ _ _ => N8
      change Q (Value.str _ _) _
      exact hret _ .bad _ _ (S.keeps F8 N8 (by walk_at "M sub")) .bad q3
    | hit hm =>
      k_steps
      · rename Fr _ _ _ _ => F8
        rename News _ _ _ _ => N8
        change Q lv _
        refine hret _ (outL lo) _ _ (S.keeps F8 N8 (by walk_at "M sub")) q1 ?_
        rw [outL_R, ← q3]
        unfold dueL
        rw [if_pos (by assumption)]
      · rename Fr _ _ _ _ => F8
        rename News _ _ _ _ => N8
        refine g_end (⟨_, some (_, _)⟩ : DS) F8 N8 (by walk_at "M sub") (by walk_at "M sub") (fun p hp q hq => hoff p hp q hq) (List.forall_mem_cons.mpr ⟨rfl, List.forall_mem_nil _⟩) ?_ ⟨.hit hm, ?_⟩
        · intro z h1 h2 h3
          have h4 : z ≠ Str.ofString "last" := h2 _ (.head _)
          simp only [if_neg h1, if_neg h4, h3, Bool.false_eq_true, if_false]
        · unfold dueL at q3
          rw [if_neg (by assumption)] at q3
          exact q3
    | nag hm hm2 hda hds =>
      k_steps
      rename Fr _ _ _ _ => F8
      rename News _ _ _ _ => N8
      change Q (Value.ref _) _
      exact hret _ (.nag _ _ _) _ _ (S.keeps F8 N8 (by walk_at "M sub")) (.nag hm hm2 hda hds) q3
  · clear lF lN
    rintro ⟨lv, lo⟩ u h tk ⟨q1, q2⟩ F9 N9
    dsimp only [kstB] at F9 N9 q1 q2
    k_steps
    change Q lv _
    refine hret _ (outL lo) _ _ (S.keeps F9 N9 (fun _ h => h)) q1 ?_
    rw [outL_R, ← q2, hl, List.drop_eq_nil_of_le (by omega)]
    rfl : ∀ (prog : Program) (w : World) (s : Shared) (base : Heap) (g : Heap) (fr : List Env) (gd : Option (List Code)) (p : Program) (loose : List Str) (mean : ExcName → Option Value) (mg : Str → Option Value) (mb : Str → Option Value) (Q : Value → Shared → Prop) (E : Value → Shared → Prop) (le : Addr) (evs : List Value) (e : Nat) (led : List (Addr × Obj)) (O : List Out) (bound : Int) (tb : Tok) (R : Res), due_spec_P prog w s base g fr gd p loose mean mg mb Q E le evs e led O bound tb R) _ _ _ _ _ _ _ _ _ _ _ _ _ _ _ _ _ _ _ _ _ _
theorem due_spec {Q E : Value → Shared → Prop} {le : Addr} {evs : List Value} {e : Nat} {led : List (Addr × Obj)} {O : List Out} {bound : Int} {tb : Tok} {R : Res}
    (S : Std (AT 500 1000 fr gd) base fr g (Mine.hd.heap_1 w.params) p loose mean mg mb s.heap led)
    (ml : (le, W.listOf evs.toArray e) ∈ led) (hl : evs.length = 5) (hO : ∀ (j : Nat) (v : Value), evs[j]? = some v → ∃ o, O[j]? = some o ∧ EvV led v o) (hOl : O.length = 5) (hR : dueL bound none O = R)
    (hret : ∀ (v : Value) (o : Out) (h' : Heap) (tk' : Nat), s.heap.StaysIn h' → EvV led v o → outR o = R → Q v { s with heap := h', toks := tk' }) :
    wpAny (model prog w) (AT 500 1000 fr gd) (call (.ref 187) [.ref le, .int bound tb]) Q E s :=
  (show due_spec_P prog w s base g fr gd p loose mean mg mb Q E le evs e led O bound tb R from close1 (R := due_spec_R) _ due_spec_core (prog, w, s, base, g, fr, gd, p, loose, mean, mg, mb, Q, E, le, evs, e, led, O, bound, tb, R)) S ml hl hO hOl hR hret

/-- what an event reads as -/
theorem EvV.rd {ch : List (Addr × Obj)} {v : Value} {o : Out} (h : EvV ch v o) (h₀ : Heap) : RDV h₀ ch v (toldD (outR o)) := fun hh _ k => by
  cases h with
  | none => exact RD.none
  | bad => exact RD.str
  | hit m => exact RD.tuple (k _ m) (.cons .int (.cons .int .nil))
  | nag m m2 da hs =>
    obtain ⟨l, f, g, rfl⟩ := hs
    exact RD.list (k _ m) (.cons .int (.cons (RD.list (k _ m2) (tups_rds k da)) (.cons .str .nil)))
section
variable {prog : Program} {w : World} {A₀ : Around} {s : Shared} {base h₀ : Heap} {outer : List Env} {env : Env} {L : Addr} {m : Str → Option Value} {news led : List (Addr × Obj)} {gd : Option (List Code)} {dp un : Nat}
  {p : Program} {loose : List Str} {mean : ExcName → Option Value} {mg mb : Str → Option Value} {Q E : Value → Shared → Prop}
theorem due_use {le : Addr} {evs : List Value} {e : Nat} {O : List Out} {bound : Int} {tb : Tok} (B : Below A₀ base outer h₀) (F : Fr h₀ L s.heap m) (X : (Mine.hd.heap_1 w.params).In h₀) (T : Top p loose mean mg mb h₀) (N : News h₀ L s.heap news)
    (sub : ∀ q ∈ led, q ∈ news) (ml : (le, W.listOf evs.toArray e) ∈ led) (hl : evs.length = 5) (hO : ∀ (j : Nat) (v : Value), evs[j]? = some v → ∃ o, O[j]? = some o ∧ EvV led v o) (hOl : O.length = 5)
    (hd : dp ≤ 500) (hu : un ≤ 1000) (hf : env.frame = some L) (hke : env.scope.kind = .function)
    (h : ∀ v h' tk', Fr h₀ L h' m → News h₀ L h' news → s.heap.StaysIn h' → RDV h₀ led v (toldD (dueL bound none O)) → Q v { s with heap := h', toks := tk' }) :
    wpAny (model prog w) { handled := none, depth := dp, frames := some (env :: outer), guards := gd, units := un } (call (.ref 187) [.ref le, .int bound tb]) Q E s :=
  depth_le (A' := AT 500 1000 (env :: outer) gd) (due_spec (std_of B F X T N sub rfl hf hke) ml hl hO hOl rfl fun v o h' tk' k ev eo =>
    h v h' tk' (fr_stay F k) (news_stay N k) k (eo ▸ ev.rd h₀)) rfl hd rfl rfl hu
theorem ev_use {ar ab ad : Addr} {er eb ed : Nat} {vs bs ds : List Value} {D : List EvD} {bes : Str} {tw : Tok} (B : Below A₀ base outer h₀) (F : Fr h₀ L s.heap m) (X : (Mine.hd.heap_1 w.params).In h₀) (T : Top p loose mean mg mb h₀) (N : News h₀ L s.heap news)
    (sub : ∀ q ∈ led, q ∈ news) (mr : (ar, W.listOf vs.toArray er) ∈ led) (mbg : (ab, W.listOf bs.toArray eb) ∈ led) (md : (ad, W.listOf ds.toArray ed) ∈ led)
    (hvs : vs.length = 5) (hDl : D.length = 5) (hD : EvsAt led bes D vs bs ds) (lb : bes.length ≤ 9)
    (hd : dp ≤ 500) (hu : un ≤ 1000) (hf : env.frame = some L) (hke : env.scope.kind = .function)
    (h : ∀ (lev : Addr) (evs : List Value) (e : Nat) (ch : List (Addr × Obj)) (h' : Heap) (tk' : Nat), Fr h₀ L h' m → News h₀ L h' ((lev, W.listOf evs.toArray e) :: (ch ++ news)) → (∀ q ∈ news, ∀ p ∈ (lev, W.listOf evs.toArray e) :: ch, p.1 ≠ q.1) → evs.length = 5 → (∀ (j : Nat) (v : Value), evs[j]? = some v → ∃ d, D[j]? = some d ∧ EvV ch v (evOut bes j d)) → s.heap.StaysIn h' → Q (.ref lev) { s with heap := h', toks := tk' }) :
    wpAny (model prog w) { handled := none, depth := dp, frames := some (env :: outer), guards := gd, units := un } (call (.ref 180) [.ref ar, .ref ab, .ref ad, .str bes tw]) Q E s := by
  refine depth_le (A' := AT 500 1000 (env :: outer) gd) (ev_spec (std_of B F X T N sub rfl hf hke) mr mbg md hvs hDl hD lb fun lev evs e ch h' tk' k hn hl hev => ?_) rfl hd rfl rfl hu
  have new : ∀ q ∈ (lev, W.listOf evs.toArray e) :: ch, h'.get? q.1 = some q.2 ∧ q.1 ≠ L ∧ h₀.get? q.1 = none := fun q hq => by
    refine ⟨(hn q hq).1, fun z => ?_, kts_none F.keep (hn q hq).2⟩
    obtain ⟨oL, es, ep, hL, _⟩ := F.ns
    rw [← z, (hn q hq).2] at hL; cases hL
  refine h lev evs e ch h' tk' (fr_stay F k) (fun q hq => ?_) (fun q hq p hp z => ?_) hl hev k
  · rcases List.mem_cons.mp hq with rfl | hq
    · exact new _ (.head _)
    rcases List.mem_append.mp hq with hq | hq
    · exact new q (.tail _ hq)
    · exact news_stay N k q hq
  · have := (N q hq).1
    rw [← z, (hn p hp).2] at this; cases this
end
end

section
open PySem PySem.W PyProof.Rows PySem.Calls PyProof.Rows.LCg PySem.Spec
set_option maxRecDepth 100000
theorem fill_me18 : PySem.Challenge.rw_mr0234_01 = PySem.Challenge.rw_mr0234_01 ∧ Mine.hd.heap_1 = Mine.hd.heap_1 := by
  k_fill
  exact ⟨rfl, rfl⟩
/-- a NannyNag in the ledger -/
noncomputable def NagAt (news : List (Addr × Obj)) (e : Addr) (v1 v2 v3 : Value) : Prop :=
  ∃ oe d od ws, (e, oe) ∈ news ∧ oe.cls = .ref 73 ∧ oe.dict = some d ∧ oe.data = .fields ws ∧ (d, od) ∈ news ∧ DObj od (nagM v1 v2 v3)
theorem nagM_1 {v1 v2 v3 : Value} : nagM v1 v2 v3 (Str.ofString "lineno") = some v1 := by unfold nagM; rw [if_neg (by decide), if_neg (by decide), if_pos rfl]
theorem nagM_2 {v1 v2 v3 : Value} : nagM v1 v2 v3 (Str.ofString "msg") = some v2 := by unfold nagM; rw [if_neg (by decide), if_pos rfl]
theorem nagM_3 {v1 v2 v3 : Value} : nagM v1 v2 v3 (Str.ofString "line") = some v3 := by unfold nagM; rw [if_pos rfl]
theorem nagM_0 {v1 v2 v3 : Value} {y : Str} (h1 : y ≠ "line") (h2 : y ≠ "msg") (h3 : y ≠ "lineno") : nagM v1 v2 v3 y = none := by unfold nagM; rw [if_neg h1, if_neg h2, if_neg h3]
section
variable {prog : Program} {w : World} {A₀ : Around} {E : Value → Shared → Prop} {s' : Shared} {base g g₀ G : Heap} {outer : List Env} {L a e C : Addr} {m : Str → Option Value} {name : Str} {scope : Scope} {cd : Value}
  {n : Str} {b₀ : Stmt} {suite : List Stmt} {pos np : Pos} {rest : List ExceptHandler} {Q : Flow → Shared → Prop} {news : List (Addr × Obj)} {KF : Frag} {dx : Option Addr} {v : Value} {d : Dat}
  {p : Program} {loose : List Str} {mean : ExcName → Option Value} {mg mb : Str → Option Value} {x : Str}
/-- the statement of caught_ownP over its data -/
noncomputable def caught_ownP_P (prog : Program) (w : World) (A₀ : Around) (E : Value → Shared → Prop) (s' : Shared) (base : Heap) (g : Heap) (g₀ : Heap) (G : Heap) (outer : List Env) (L : Addr) (a : Addr) (e : Addr) (C : Addr) (m : Str → Option Value) (name : Str) (scope : Scope) (cd : Value) (n : Str) (b₀ : Stmt) (suite : List Stmt) (pos : Pos) (np : Pos) (rest : List ExceptHandler) (Q : Flow → Shared → Prop) (news : List (Addr × Obj)) (KF : Frag) (dx : Option Addr) (v : Value) (d : Dat) (p : Program) (loose : List Str) (mean : ExcName → Option Value) (mg : Str → Option Value) (mb : Str → Option Value) (x : Str) : Prop :=
  ∀ (R : FlewP (fun B => RD B v d) base G (envOf name scope L a cd :: outer) e (.ref C) dx news s'.heap) (F : Fr g L G m) (K : Below A₀ base outer g) (hsm : G.UpToSlots s'.heap) (XB : KF.In base) (TB : Top p loose mean mg mb base) (D : KtsDicts (outer.filterMap (·.frame)) g) (T0 : KtsTurn (outer.filterMap (·.frame)) g₀ g) (ex : nsIn KF mainGlobals x = some (some (.ref C))) (q : ktsIn KF C "BaseException" = true) (k : ∀ h' g' oe ws ch tk, KtsTurn (outer.filterMap (·.frame)) g₀ g' → Fr g' L h' (fun y => if y = n then some (.ref e) else m y) → News g' L h' ((e, oe) :: (news ++ ch)) → RDV g' ch v d → oe.cls = .ref C → oe.dict = dx → oe.data = .fields ws → Below A₀ base outer g' → KF.In g' → Top p loose mean mg mb g' → KtsDicts (outer.filterMap (·.frame)) g' →
      wpAny (model prog w) ((A₀.deeper (envOf name scope L a cd)).mark (some (.ref e))) (execs (b₀ :: suite) (envOf name scope L a cd))
        (fun f s₄ => wpAny (model prog w) (A₀.deeper (envOf name scope L a cd)) (do bindName (envOf name scope L a cd) n .none; unbindBehindTheSuite (envOf name scope L a cd) n pos) (fun _ s₅ => Q f s₅) E s₄)
        (AsSuiteRaised (model prog w) ((A₀.deeper (envOf name scope L a cd)).mark (some (.ref e))) (envOf name scope L a cd) n pos (notedBy (model prog w) ((A₀.deeper (envOf name scope L a cd)).mark (some (.ref e))) (envOf name scope L a cd) (cameBackBy (model prog w) (A₀.deeper (envOf name scope L a cd)) (envOf name scope L a cd) E)))
        { s' with heap := h', toks := tk }) (hk : scope.kind = .function) (hlo : (envOf name scope L a cd).kindOf n = some .local) (hx : (envOf name scope L a cd).kindOf x = some .globalImplicit) (hd : (x == ("__debug__" : Str)) = false), wpAny (model prog w) (A₀.deeper (envOf name scope L a cd)) (noteFrame (.ref e) (envOf name scope L a cd))
      (fun _ s₂ => wpAny (model prog w) (A₀.deeper (envOf name scope L a cd)) (setFlight (.ref e) none) (fun _ s₃ =>
        wpAny (model prog w) (A₀.deeper (envOf name scope L a cd)) (handleBy (.ref e) (envOf name scope L a cd) (.ExceptHandler (some (.Name x np)) (some n) (b₀ :: suite) pos :: rest)) Q E s₃) E s₂) E s'
noncomputable def caught_ownP_R (p : Program × World × Around × (Value → Shared → Prop) × Shared × Heap × Heap × Heap × Heap × (List Env) × Addr × Addr × Addr × Addr × (Str → Option Value) × Str × Scope × Value × Str × Stmt × (List Stmt) × Pos × Pos × (List ExceptHandler) × (Flow → Shared → Prop) × (List (Addr × Obj)) × Frag × (Option Addr) × Value × Dat × Program × (List Str) × (ExcName → Option Value) × (Str → Option Value) × (Str → Option Value) × Str) : Prop := caught_ownP_P p.1 p.2.1 p.2.2.1 p.2.2.2.1 p.2.2.2.2.1 p.2.2.2.2.2.1 p.2.2.2.2.2.2.1 p.2.2.2.2.2.2.2.1 p.2.2.2.2.2.2.2.2.1 p.2.2.2.2.2.2.2.2.2.1 p.2.2.2.2.2.2.2.2.2.2.1 p.2.2.2.2.2.2.2.2.2.2.2.1 p.2.2.2.2.2.2.2.2.2.2.2.2.1 p.2.2.2.2.2.2.2.2.2.2.2.2.2.1 p.2.2.2.2.2.2.2.2.2.2.2.2.2.2.1 p.2.2.2.2.2.2.2.2.2.2.2.2.2.2.2.1 p.2.2.2.2.2.2.2.2.2.2.2.2.2.2.2.2.1 p.2.2.2.2.2.2.2.2.2.2.2.2.2.2.2.2.2.1 p.2.2.2.2.2.2.2.2.2.2.2.2.2.2.2.2.2.2.1 p.2.2.2.2.2.2.2.2.2.2.2.2.2.2.2.2.2.2.2.1 p.2.2.2.2.2.2.2.2.2.2.2.2.2.2.2.2.2.2.2.2.1 p.2.2.2.2.2.2.2.2.2.2.2.2.2.2.2.2.2.2.2.2.2.1 p.2.2.2.2.2.2.2.2.2.2.2.2.2.2.2.2.2.2.2.2.2.2.1 p.2.2.2.2.2.2.2.2.2.2.2.2.2.2.2.2.2.2.2.2.2.2.2.1 p.2.2.2.2.2.2.2.2.2.2.2.2.2.2.2.2.2.2.2.2.2.2.2.2.1 p.2.2.2.2.2.2.2.2.2.2.2.2.2.2.2.2.2.2.2.2.2.2.2.2.2.1 p.2.2.2.2.2.2.2.2.2.2.2.2.2.2.2.2.2.2.2.2.2.2.2.2.2.2.1 p.2.2.2.2.2.2.2.2.2.2.2.2.2.2.2.2.2.2.2.2.2.2.2.2.2.2.2.1 p.2.2.2.2.2.2.2.2.2.2.2.2.2.2.2.2.2.2.2.2.2.2.2.2.2.2.2.2.1 p.2.2.2.2.2.2.2.2.2.2.2.2.2.2.2.2.2.2.2.2.2.2.2.2.2.2.2.2.2.1 p.2.2.2.2.2.2.2.2.2.2.2.2.2.2.2.2.2.2.2.2.2.2.2.2.2.2.2.2.2.2.1 p.2.2.2.2.2.2.2.2.2.2.2.2.2.2.2.2.2.2.2.2.2.2.2.2.2.2.2.2.2.2.2.1 p.2.2.2.2.2.2.2.2.2.2.2.2.2.2.2.2.2.2.2.2.2.2.2.2.2.2.2.2.2.2.2.2.1 p.2.2.2.2.2.2.2.2.2.2.2.2.2.2.2.2.2.2.2.2.2.2.2.2.2.2.2.2.2.2.2.2.2.1 p.2.2.2.2.2.2.2.2.2.2.2.2.2.2.2.2.2.2.2.2.2.2.2.2.2.2.2.2.2.2.2.2.2.2.1 p.2.2.2.2.2.2.2.2.2.2.2.2.2.2.2.2.2.2.2.2.2.2.2.2.2.2.2.2.2.2.2.2.2.2.2
noncomputable def caught_ownP_c : Program × World × Around × (Value → Shared → Prop) × Shared × Heap × Heap × Heap × Heap × (List Env) × Addr × Addr × Addr × Addr × (Str → Option Value) × Str × Scope × Value × Str × Stmt × (List Stmt) × Pos × Pos × (List ExceptHandler) × (Flow → Shared → Prop) × (List (Addr × Obj)) × Frag × (Option Addr) × Value × Dat × Program × (List Str) × (ExcName → Option Value) × (Str → Option Value) × (Str → Option Value) × Str := pick (neP inferInstance (neP neW (neP neA (neP inferInstance (neP neS (neP inferInstance (neP inferInstance (neP inferInstance (neP inferInstance (neP inferInstance (neP inferInstance (neP inferInstance (neP inferInstance (neP inferInstance (neP inferInstance (neP inferInstance (neP inferInstance (neP inferInstance (neP inferInstance (neP inferInstance (neP inferInstance (neP inferInstance (neP inferInstance (neP inferInstance (neP inferInstance (neP inferInstance (neP inferInstance (neP inferInstance (neP inferInstance (neP (⟨Dat.none⟩ : Nonempty Dat) (neP inferInstance (neP inferInstance (neP inferInstance (neP inferInstance (neP inferInstance inferInstance))))))))))))))))))))))))))))))))))) caught_ownP_R
theorem caught_ownP_core : caught_ownP_R caught_ownP_c := ((by
  intro prog w A₀ E s' base g g₀ G outer L a e C m name scope cd n b₀ suite pos np rest Q news KF dx v d p loose mean mg mb x R F K hsm XB TB D T0 ex q k hk hlo hx hd
  obtain ⟨B, a0, hB, hBG, hl, hfl, hPB, o0, ho0, hdx⟩ := R
  have hL : B.get? L = none := by
    obtain ⟨_, ⟨L', _, hf, hn', _⟩, _⟩ := hfl.2.2.1
    obtain rfl : L = L' := Option.some.inj hf
    exact hn'
  refine with_dict (P := fun h' => Heap.HeldW B (envOf name scope L a cd :: outer) e (.ref C) a0 L h' ∧ s'.heap.UpToSlots h') (dk_noteFrame _ _) (fun Q k => wpAny_looks_onW (Around.frames_deeper K.stack) rfl hfl fun h' x1 x2 => k h' ⟨x1, x2⟩) fun h₄ x₄ ds₄ => ?_
  obtain ⟨hheld₄, hsm₄⟩ := x₄
  refine with_dict (P := fun h' => Heap.FlyingW B (envOf name scope L a cd :: outer) e (.ref C) a0 h' ∧ h₄.UpToSlots h') (dk_setFlight _ _) (fun Q k => wpAny_landsW hheld₄ fun h' x1 x2 => k h' ⟨x1, x2⟩) fun h₅ x₅ ds₅ => ?_
  obtain ⟨hheld, hsm₅'⟩ := x₅
  have hsm₅ := hsm₄.trans hsm₅'
  have ds := ds₄.trans ds₅
  obtain ⟨g₅, T₅, F₅, K₅⟩ := kts_ground K F hBG hheld.1 (hsm.trans hsm₅)
  have X₅ : KF.In g₅ := XB.keeps K₅.stays
  have P₅ : TopRead p loose mg mb g₅ := topRead_of (TB.keeps K₅.stays)
  obtain ⟨ob, hob, hobc⟩ := hheld.there
  obtain ⟨nm, q', N, bs, bm, hdct, sn, sub, ab, col, dd, k0, k1, k2, k3, k5, newId, hC, hbase, hbT⟩ := kts_cls X₅ q
  have hC₅ := F₅.keep _ _ hC
  refine wpAny_handleBy_cons (codeAny_handlers_test (name_K F₅ X₅ P₅ ex ?_ hk hx hd)) (by intro q; cases q)
  refine wpAny_excMatches_sub_self hC₅ hob hobc hbase (codeAny_handlers_suite_as ?_)
  refine with_dict (P := fun h' => Heap.FlyingW B (envOf name scope L a cd :: outer) e (.ref C) a0 h' ∧ h₅.UpToSlots h') (dk_setFlight _ _) (fun Q k => lands_againW hheld fun h' x1 x2 => k h' ⟨x1, x2⟩) fun h₆ x₆ ds₆ => ?_
  obtain ⟨hfl₆, hsm₆⟩ := x₆
  obtain ⟨g₆, T₆, F₆, K₆⟩ := kts_ground K F hBG hfl₆.1 ((hsm.trans hsm₅).trans hsm₆)
  obtain ⟨oe, ws, hoe, hoec, hoed, hoe0⟩ := hfl₆.first
  have hoedx : oe.dict = dx := by
    obtain ⟨o', e', d'⟩ := (ds.trans ds₆) _ _ ho0
    rw [show h₆.get? e = some oe from hoe] at e'
    cases e'
    exact d'.trans hdx
  have ne₆ : g₆.get? e = none := T₆.none_ _ (kts_fresh F hBG hfl₆.2.1 fun o ho m => by
    obtain ⟨_, o', ho', hd⟩ := K.frames.mem m
    rw [ho] at ho'
    cases ho'
    obtain ⟨sl, hs⟩ := ((hsm.trans hsm₅).trans hsm₆) _ _ (F.keep _ _ ho) hd
    rw [hoe] at hs
    cases hs
    exact hd _ hoed)
  have N₆ := News.more F₆ News.nil hoe (fun es n q => by rw [hoed] at q; cases q) ne₆
  have Nl : News g₆ L h₆ news := fun q hq => ⟨hfl₆.1 _ _ (hl q hq).1, (fun z => by have := (hl q hq).1; rw [z, hL] at this; cases this), T₆.none_ _ (kts_none F.keep (hl q hq).2.1)⟩
  have X₆ : KF.In g₆ := XB.keeps K₆.stays
  have P₆ : Top p loose mean mg mb g₆ := TB.keeps K₆.stays
  have D₆ : KtsDicts (outer.filterMap (·.frame)) g₆ := D.turn T₆
  obtain ⟨ch, Nch, rv⟩ := rd_chunk F₆ _ _ (RD.keeps hPB hfl₆.1)
  refine stN F₆ (news := [(e, oe)] ++ (news ++ ch)) (fun q hq => (List.mem_append.mp hq).elim (N₆ q) fun hq => (List.mem_append.mp hq).elim (Nl q) (Nch q)) (fun h₇ F₇ N₇ => ?_) hk hlo
  exact k h₇ g₆ oe ws ch _ (T0.trans T₆) F₇ N₇ rv hoec hoedx hoed K₆ X₆ P₆ D₆) : ∀ (prog : Program) (w : World) (A₀ : Around) (E : Value → Shared → Prop) (s' : Shared) (base : Heap) (g : Heap) (g₀ : Heap) (G : Heap) (outer : List Env) (L : Addr) (a : Addr) (e : Addr) (C : Addr) (m : Str → Option Value) (name : Str) (scope : Scope) (cd : Value) (n : Str) (b₀ : Stmt) (suite : List Stmt) (pos : Pos) (np : Pos) (rest : List ExceptHandler) (Q : Flow → Shared → Prop) (news : List (Addr × Obj)) (KF : Frag) (dx : Option Addr) (v : Value) (d : Dat) (p : Program) (loose : List Str) (mean : ExcName → Option Value) (mg : Str → Option Value) (mb : Str → Option Value) (x : Str), caught_ownP_P prog w A₀ E s' base g g₀ G outer L a e C m name scope cd n b₀ suite pos np rest Q news KF dx v d p loose mean mg mb x) _ _ _ _ _ _ _ _ _ _ _ _ _ _ _ _ _ _ _ _ _ _ _ _ _ _ _ _ _ _ _ _ _ _ _ _
theorem caught_ownP (R : FlewP (fun B => RD B v d) base G (envOf name scope L a cd :: outer) e (.ref C) dx news s'.heap) (F : Fr g L G m) (K : Below A₀ base outer g) (hsm : G.UpToSlots s'.heap) (XB : KF.In base) (TB : Top p loose mean mg mb base)
    (D : KtsDicts (outer.filterMap (·.frame)) g) (T0 : KtsTurn (outer.filterMap (·.frame)) g₀ g)
    (ex : nsIn KF mainGlobals x = some (some (.ref C))) (q : ktsIn KF C "BaseException" = true)
    (k : ∀ h' g' oe ws ch tk, KtsTurn (outer.filterMap (·.frame)) g₀ g' → Fr g' L h' (fun y => if y = n then some (.ref e) else m y) → News g' L h' ((e, oe) :: (news ++ ch)) → RDV g' ch v d → oe.cls = .ref C → oe.dict = dx → oe.data = .fields ws → Below A₀ base outer g' → KF.In g' → Top p loose mean mg mb g' → KtsDicts (outer.filterMap (·.frame)) g' →
      wpAny (model prog w) ((A₀.deeper (envOf name scope L a cd)).mark (some (.ref e))) (execs (b₀ :: suite) (envOf name scope L a cd))
        (fun f s₄ => wpAny (model prog w) (A₀.deeper (envOf name scope L a cd)) (do bindName (envOf name scope L a cd) n .none; unbindBehindTheSuite (envOf name scope L a cd) n pos) (fun _ s₅ => Q f s₅) E s₄)
        (AsSuiteRaised (model prog w) ((A₀.deeper (envOf name scope L a cd)).mark (some (.ref e))) (envOf name scope L a cd) n pos (notedBy (model prog w) ((A₀.deeper (envOf name scope L a cd)).mark (some (.ref e))) (envOf name scope L a cd) (cameBackBy (model prog w) (A₀.deeper (envOf name scope L a cd)) (envOf name scope L a cd) E)))
        { s' with heap := h', toks := tk })
    (hk : scope.kind = .function := by rfl) (hlo : (envOf name scope L a cd).kindOf n = some .local := by rfl) (hx : (envOf name scope L a cd).kindOf x = some .globalImplicit := by rfl) (hd : (x == ("__debug__" : Str)) = false := by decide) :
    wpAny (model prog w) (A₀.deeper (envOf name scope L a cd)) (noteFrame (.ref e) (envOf name scope L a cd))
      (fun _ s₂ => wpAny (model prog w) (A₀.deeper (envOf name scope L a cd)) (setFlight (.ref e) none) (fun _ s₃ =>
        wpAny (model prog w) (A₀.deeper (envOf name scope L a cd)) (handleBy (.ref e) (envOf name scope L a cd) (.ExceptHandler (some (.Name x np)) (some n) (b₀ :: suite) pos :: rest)) Q E s₃) E s₂) E s' :=
  (show caught_ownP_P prog w A₀ E s' base g g₀ G outer L a e C m name scope cd n b₀ suite pos np rest Q news KF dx v d p loose mean mg mb x from close1 (R := caught_ownP_R) _ caught_ownP_core (prog, w, A₀, E, s', base, g, g₀, G, outer, L, a, e, C, m, name, scope, cd, n, b₀, suite, pos, np, rest, Q, news, KF, dx, v, d, p, loose, mean, mg, mb, x)) R F K hsm XB TB D T0 ex q k hk hlo hx hd

end
end

section
open PySem PySem.W PyProof.Rows PySem.Calls PyProof.Rows.LCg PySem.Spec
set_option maxRecDepth 100000
theorem fill_me20 : PySem.Challenge.rw_mr0234_01 = PySem.Challenge.rw_mr0234_01 ∧ Mine.hd.heap_1 = Mine.hd.heap_1 := by
  k_fill
  exact ⟨rfl, rfl⟩
namespace NF
theorem mro : mroOf (.type "Exception") = pure excMro := by rw [mroOf_type]; kernel_rfl!
theorem ga : typeLookup (.type "Exception") (Str.ofString "__getattribute__") = pure (some (.builtin "BaseException.__getattribute__")) := by kernel_rfl!
theorem nga : typeLookup (.type "Exception") (Str.ofString "__getattr__") = pure none := by kernel_rfl!
theorem g1 : typeLookup (.type "Exception") (Str.ofString "get_lineno") = pure none := by kernel_rfl!
theorem g2 : typeLookup (.type "Exception") (Str.ofString "get_msg") = pure none := by kernel_rfl!
theorem g3 : typeLookup (.type "Exception") (Str.ofString "get_line") = pure none := by kernel_rfl!
theorem canon : (Manifest.canonical "BaseException.__getattribute__" != "object.__getattribute__") = false := by decide +kernel
theorem slot : Slot "Exception" "__getattribute__" "BaseException.__getattribute__" :=
  .of (owner := "BaseException") (n := "__getattribute__") (by rw [typeLookup_type, builtinLookup_eq_fast]; kernel_rfl) (by decide +kernel) (by decide +kernel) (by decide +kernel)
    (by first | exact .inl (by decide +kernel) | exact .inr (by decide +kernel)) (by rw [isSubtype_type]; kernel_rfl)
end NF
/-- the names of the class that reading asks -/
structure NagRd (h : Heap) : Prop where
  ga : h.nsMap 72 "__getattribute__" = none
  ngr : h.nsMap 72 "__getattr__" = none
  m1 : h.nsMap 72 "get_lineno" = some (.ref 56)
  m2 : h.nsMap 72 "get_msg" = some (.ref 63)
  m3 : h.nsMap 72 "get_line" = some (.ref 70)
theorem nagRd_mk {K : Frag} {h : Heap} (X : K.In h) (ok : nsOkIn K 72 = true) (a : nsIn K 72 "__getattribute__" = some none) (b : nsIn K 72 "__getattr__" = some none)
    (c : nsIn K 72 "get_lineno" = some (some (.ref 56))) (d : nsIn K 72 "get_msg" = some (some (.ref 63))) (f : nsIn K 72 "get_line" = some (some (.ref 70))) : NagRd h :=
  have G : h.Ns 72 (h.nsMap 72) := .of_isNs (isNs_of_in X ok)
  ⟨nsMap_none_of_in X ok a, nsMap_none_of_in X ok b, ns_some_of X G c, ns_some_of X G d, ns_some_of X G f⟩
theorem nagRd {w : World} {h : Heap} (X : (Mine.hd.heap_1 w.params).In h) : NagRd h := by
  refine' nagRd_mk X ?ok ?ka ?kb ?kc ?kd ?ke
  case ok => kernel_rfl!
  case ka => k_is
  case kb => k_is
  case kc => k_is
  case kd => k_is
  case ke => k_is
section
open PySem.Builtin.ObjectAttr PySem.Builtin
variable {prog : Program} {w : World} {A : Around} {E : Value → Shared → Prop}
set_option maxHeartbeats 1000000 in
theorem nag_methH {h : Heap} {g : Array GenState} {dr : Drawn} {tk : Nat} {os : OsState} {e d f : Addr} {oe od ofn : Obj} {name : Str} {pl : Sem Bool} {mA : Str → Option Value} {Q : Value × List Value → Shared → Prop}
    (C : NagCls h) (R : NagRd h) (hx : h.get? e = some oe) (hc : oe.cls = .ref 73) (hdx : oe.dict = some d) (hd : h.get? d = some od) (D : DObj od mA)
    (hm : h.nsMap 72 name = some (.ref f)) (hB : typeLookup (.type "Exception") name = pure none) (hf : h.get? f = some ofn) (hfc : ofn.cls = .type "function") (hn : mA name = none)
    (hq : Q (.ref f, [.ref e]) ⟨h, g, dr, tk, os⟩) : wpAny (model prog w) A (getMethod (.ref e) name pl) Q E ⟨h, g, dr, tk, os⟩ := by
  obtain ⟨nm, q, bs, sn, sub, ab, col, dd, k0, k1, k2, k3, k5, hC⟩ := C.cls
  unfold getMethod specialOf
  repeat (any_goals (first | assumption | (with_reducible refine wpAny_loadPart_at hx ?_; rw [hc]) | (with_reducible refine wpAny_typeLookup_exc hC C.ns NF.mro NF.ga ?_; rw [R.ga]) | (with_reducible refine wpAny_typeLookup_exc hC C.ns NF.mro NF.nga ?_; rw [R.ngr]) | (with_reducible refine wpAny_typeLookup_exc hC C.ns NF.mro hB ?_; rw [hm]) | wp_step))
  rw [hdx]
  dsimp only
  unfold nsGet
  refine wpAny_bind (wpAny_bind (wpAny_loadPart hd ?_))
  rw [nsLook_of (lookIn_D D name), hn]
  refine wpAny_pure ?_
  rw [if_neg (by simp)]
  exact wpAny_bind (wpAny_rule (wpAny_pure hq))
theorem nag_check {h : Heap} {g : Array GenState} {dr : Drawn} {tk : Nat} {os : OsState} {e : Addr} {oe : Obj} {nameV : Value} {Q : Unit → Shared → Prop} {M : Model} (C : NagCls h) (hx : h.get? e = some oe) (hc : oe.cls = .ref 73) (hq : Q () ⟨h, g, dr, tk, os⟩) :
    wpAny M A (checkBuiltinCall "BaseException.__getattribute__" ⟨[.ref e, nameV], []⟩) Q E ⟨h, g, dr, tk, os⟩ := by
  obtain ⟨nm, q, bs, sn, sub, ab, col, dd, k0, k1, k2, k3, k5, hC⟩ := C.cls
  have hk : builtinKind "BaseException.__getattribute__" = some .slot := by decide +kernel
  have hsplit : splitId "BaseException.__getattribute__" = some ("BaseException", "__getattribute__") := by decide +kernel
  have hcB : (Value.ref 73 :: excMro).contains (.type "BaseException") = true := by decide
  have ha := F.args_bexc_ga (.ref e) nameV
  simp only [checkBuiltinCall, hk, hsplit]
  refine wpAny_bind ?_
  · unfold isInstance
    repeat (first | (with_reducible refine wpAny_loadPart_at hx ?_; rw [hc]) | (with_reducible refine wpAny_isSubtype_exc hC ?_; rw [hcB]) | wp_step)
    exact hq
set_option maxHeartbeats 1000000 in
theorem nag_entry {h : Heap} {g : Array GenState} {dr : Drawn} {tk : Nat} {os : OsState} {e d : Addr} {oe od : Obj} {name : Str} {t : Tok} {mA : Str → Option Value} {v : Value} {ws : Array Value} {Q : PySem.Fin → Shared → Prop}
    (C : NagCls h) (hx : h.get? e = some oe) (hc : oe.cls = .ref 73) (hdt : oe.data = .fields ws) (hdx : oe.dict = some d) (hd : h.get? d = some od) (D : DObj od mA)
    (hm : h.nsMap 72 name = none) (hB : typeLookup (.type "Exception") name = pure none) (hv : mA name = some v) (hq : Q (.done (.ret v)) ⟨h, g, dr, tk, os⟩) :
    wpAny (model prog w) A (Builtin.«object.__getattribute__» ⟨[.ref e, .str name t], []⟩) Q E ⟨h, g, dr, tk, os⟩ := by
  obtain ⟨nm, q, bs, sn, sub, ab, col, dd, k0, k1, k2, k3, k5, hC⟩ := C.cls
  unfold Builtin.«object.__getattribute__»
  refine wpAny_bind (wpAny_of_eq (a := (Value.ref e, [Value.str name t])) rfl ?_)
  dsimp only
  refine wpAny_bind (wpAny_of_eq (a := name) rfl ?_)
  have L0 : Looks (model prog w) h (typeOf (.ref e)) (.ref 73) := hc ▸ (Looks.ld hx).andThen .now
  refine wpAny_bind (L0.at ?_)
  refine wpAny_bind ?_
  unfold find
  refine wpAny_bind (wpAny_typeLookup_exc hC C.ns NF.mro hB ?_)
  rw [hm]
  refine wpAny_bind (wpAny_of_eq (a := none) rfl (wpAny_bind (wpAny_of_eq (a := none) rfl ?_)))
  dsimp only
  unfold ownThenClass
  refine wpAny_bind ?_
  show wpAny _ _ (Builtin.ObjectAttr.ownDict e >>= fun d => inDict name d) _ _ _
  refine wpAny_bind ?_
  unfold Builtin.ObjectAttr.ownDict
  refine wpAny_bind (wpAny_loadPart hx ?_)
  rw [hdt]
  dsimp only
  unfold instanceDict
  refine wpAny_bind (wpAny_loadPart hx ?_)
  rw [hdx]
  dsimp only
  rw [hc]
  dsimp only
  refine wpAny_bind ?_
  unfold classData
  refine wpAny_bind (wpAny_loadPart hC ?_)
  dsimp only [excClassObj]
  refine wpAny_pure ?_
  rw [if_neg (by simp)]
  refine wpAny_pure ?_
  show wpAny _ _ (nsGet d name) _ _ _
  unfold nsGet
  refine wpAny_bind (wpAny_loadPart hd ?_)
  rw [nsLook_of (lookIn_D D name), hv]
  refine wpAny_pure ?_
  dsimp only
  refine wpAny_bind (wpAny_rule (wpAny_pure ?_))
  dsimp only
  exact wpAny_pure hq
set_option maxHeartbeats 1000000 in
theorem nag_attrH {h : Heap} {g : Array GenState} {dr : Drawn} {tk : Nat} {os : OsState} {e d : Addr} {oe od : Obj} {name : Str} {expr : Bool} {mA : Str → Option Value} {v : Value} {ws : Array Value} {Q : Value → Shared → Prop}
    (C : NagCls h) (R : NagRd h) (hx : h.get? e = some oe) (hc : oe.cls = .ref 73) (hdt : oe.data = .fields ws) (hdx : oe.dict = some d) (hd : h.get? d = some od) (D : DObj od mA)
    (hm : h.nsMap 72 name = none) (hB : typeLookup (.type "Exception") name = pure none) (hv : mA name = some v) (hh : handedOut v = pure v) (hq : Q v ⟨h, g, dr, tk + 1, os⟩) :
    wpAny (model prog w) A (getAttr (.ref e) name expr) Q E ⟨h, g, dr, tk, os⟩ := by
  obtain ⟨nm, q, bs, sn, sub, ab, col, dd, k0, k1, k2, k3, k5, hC⟩ := C.cls
  have L0 : Looks (model prog w) h (typeOf (.ref e)) (.ref 73) := hc ▸ (Looks.ld hx).andThen .now
  have f3 := NF.slot.bind (.ref e)
  have hx0 : (expr && onTheHeap (Value.builtin "BaseException.__getattribute__")) = false := by cases expr <;> rfl
  unfold getAttr getAttrBy
  refine wpAny_bind (wpAny_mkText (wpAny_holding (wpAny_bind (L0.at ?_))))
  refine wpAny_bind (wpAny_typeLookup_exc hC C.ns NF.mro NF.ga ?_)
  rw [R.ga]
  dsimp only
  rw [if_neg (by decide +kernel)]
  unfold getAttrByItsOwn
  refine wpAny_bind ?_
  unfold hookBefore
  show wpAny _ _ (typeLookup (Value.ref 73) (Str.ofString "__getattr__")) _ _ _
  refine wpAny_typeLookup_exc hC C.ns NF.mro NF.nga ?_
  rw [R.ngr]
  refine wpAny_bind (wpAny_attempt (wpAny_holding ?_))
  unfold callGetattribute
  rw [if_neg (by rw [hx0]; exact Bool.false_ne_true)]
  unfold boundAndCalled
  refine wpAny_bind (wpAny_of_eq f3 ?_)
  dsimp only
  refine wpAny_call (codeAny_call_builtin NF.slot.plain F.entry_bexc_ga (nag_check C hx hc (nag_entry C hx hc hdt hdx hd D hm hB hv ?_)))
  dsimp only
  rw [hh]
  exact wpAny_pure hq
variable {s : Shared} {h₀ : Heap} {L e : Addr} {m : Str → Option Value} {news news' : List (Addr × Obj)} {v1 v2 v3 v : Value}
theorem nag_attr {name : Str} {expr : Bool} {Q : Value → Shared → Prop} (F : Fr h₀ L s.heap m) (X : (Mine.hd.heap_1 w.params).In h₀) (N : News h₀ L s.heap news') (H : NagAt news e v1 v2 v3) (sub : ∀ q ∈ news, q ∈ news')
    (hn : name = Str.ofString "lineno" ∧ v = v1 ∨ name = Str.ofString "msg" ∧ v = v2 ∨ name = Str.ofString "line" ∧ v = v3) (hh : handedOut v = pure v) (h : Q v { s with toks := s.toks + 1 }) : wpAny (model prog w) A (getAttr (.ref e) name expr) Q E s := by
  obtain ⟨oe, d, od, ws, q1, c, dx, dt, q2, D⟩ := H
  have C := (nagCls X).keeps F.keep
  have R := nagRd (X.keeps F.keep)
  obtain ⟨hp, g, dr, tk, os⟩ := s
  rcases hn with ⟨rfl, rfl⟩ | ⟨rfl, rfl⟩ | ⟨rfl, rfl⟩
  · exact nag_attrH C R (N _ (sub _ q1)).1 c dt dx (N _ (sub _ q2)).1 D C.ln nb_lineno nagM_1 hh h
  · exact nag_attrH C R (N _ (sub _ q1)).1 c dt dx (N _ (sub _ q2)).1 D C.ms nb_msg nagM_2 hh h
  · exact nag_attrH C R (N _ (sub _ q1)).1 c dt dx (N _ (sub _ q2)).1 D C.li nb_line nagM_3 hh h
theorem nag_meth {name : Str} {pl : Sem Bool} {Q : Value × List Value → Shared → Prop} {f : Addr} (F : Fr h₀ L s.heap m) (X : (Mine.hd.heap_1 w.params).In h₀) (N : News h₀ L s.heap news') (H : NagAt news e v1 v2 v3) (sub : ∀ q ∈ news, q ∈ news')
    (hf : ∃ o, h₀.get? f = some o ∧ o.cls = .type "function")
    (hn : name = Str.ofString "get_lineno" ∧ f = 56 ∨ name = Str.ofString "get_msg" ∧ f = 63 ∨ name = Str.ofString "get_line" ∧ f = 70) (h : Q (.ref f, [.ref e]) s) : wpAny (model prog w) A (getMethod (.ref e) name pl) Q E s := by
  obtain ⟨oe, d, od, ws, q1, c, dx, dt, q2, D⟩ := H
  have C := (nagCls X).keeps F.keep
  have R := nagRd (X.keeps F.keep)
  obtain ⟨ofn, hfn, hfc⟩ := hf
  have hfn' := F.keep _ _ hfn
  obtain ⟨hp, g, dr, tk, os⟩ := s
  rcases hn with ⟨rfl, rfl⟩ | ⟨rfl, rfl⟩ | ⟨rfl, rfl⟩
  · exact nag_methH C R (N _ (sub _ q1)).1 c dx (N _ (sub _ q2)).1 D R.m1 NF.g1 hfn' hfc (nagM_0 (by decide) (by decide) (by decide)) h
  · exact nag_methH C R (N _ (sub _ q1)).1 c dx (N _ (sub _ q2)).1 D R.m2 NF.g2 hfn' hfc (nagM_0 (by decide) (by decide) (by decide)) h
  · exact nag_methH C R (N _ (sub _ q1)).1 c dx (N _ (sub _ q2)).1 D R.m3 NF.g3 hfn' hfc (nagM_0 (by decide) (by decide) (by decide)) h
end
end

section
theorem sepTold : True := by
  w_top off
  trivial
open PySem PySem.W PyProof.Rows PySem.Calls PyProof.Rows.LCg PySem.Spec
set_option maxRecDepth 100000
theorem fill_me19 : PySem.Challenge.rw_mr0234_01 = PySem.Challenge.rw_mr0234_01 ∧ Mine.hd.heap_1 = Mine.hd.heap_1 := by
  k_fill
  exact ⟨rfl, rfl⟩
set_option hygiene false in
local macro_rules | `(tactic| k_mem) => `(tactic| first | (refine memL ?_; k_mem) | (refine memR ?_; k_mem) | (refine memV ?_; ktr_member))
section
variable {prog : Program} {w : World} {A₀ A : Around} {s : Shared} {base h₀ g₀ : Heap} {L : Addr} {m : Str → Option Value} {env : Env} {news : List (Addr × Obj)} {K : Frag} {p : Program} {loose : List Str} {mean : ExcName → Option Value} {mg mb : Str → Option Value}
    {R : Result → Shared → Prop} {name qual : Str} {params : Arguments} {body : List Stmt} {scope : Scope} {dV kV doc pm cdv ct oc : Value} {an od : Option Addr} {osl : Array (Option Value)} {f : Addr} {args : Args} {binds : List (Str × Value)}
/-- a def that may catch, called from a frame with cells -/
theorem code_defX0 (B : Below A₀ base [] h₀) (F : Fr h₀ L s.heap m) (X₀ : K.In h₀) (N : News h₀ L s.heap news) (T : Top p loose mean mg mb h₀) (hA : A.frames = some [env]) (hf : env.frame = some L)
    (ho : K.lookup f = some ⟨oc, od, .func (fnOf name qual params body scope dV kV doc pm an cdv ct), osl⟩) (hcd : codeIn K cdv qual = true) (hroom : A.depth < recursionLimit)
    (hbind : BindsTo s (fnOf name qual params body scope dV kV doc pm an cdv ct) args binds) (hloc : ∀ y ∈ binds, scope.names.lookup y.1 = some .local)
    (h : ∀ g L' h₁, Fr h₀ L g m → Fr g L' h₁ (fun y => binds.reverse.lookup y) → News g L' h₁ news → Below A base [env] g → K.In g → Top p loose mean mg mb g → KtsDicts ([env].filterMap (·.frame)) g →
      wpAny (model prog w) (A.deeper (envOf qual scope L' f cdv)) (execs body (envOf qual scope L' f cdv))
        (fun fl s' => LeaveS0 ([env].filterMap (·.frame)) h₀ L m g R (match fl with | .ret v => v | _ => .none) s')
        (fun e s' => wpAny (model prog w) (A.deeper (envOf qual scope L' f cdv)) (leaving (envOf qual scope L' f cdv) e) (fun _ s'' => R (.error e) s'') (fun e' s'' => R (.error e') s'') s')
        { s with heap := h₁, toks := s.toks + binds.length })
    (hck : env.scope.kind = .function) (hco : scope.isCoroutine = false) (hgen : scope.isGenerator = false) (hk : scope.kind = .function)
    (hcell : ∀ x ∈ scope.names, x.2 ≠ .cell) : codeAny (model prog w) A (.call (.ref f) args) R s := by
  have X := X₀.keeps F.keep
  refine codeAny_call_def (fd := fnOf name qual params body scope dV kV doc pm an cdv ct) (body := body) (binds := binds) hroom (X _ _ ho) rfl (T.nolimit.keeps F.keep) (codeRec_of X hcd) rfl hbind hcell hloc (fun h₁ hns hk₁ => ?_) hco hgen hk
  obtain ⟨_, BG, st, _⟩ := groundX (A := A) (R := fun _ _ => True) B F N hA hf hck
  have FG := fr_hide F N
  obtain ⟨oL, es, ep, hLg, hLd, hLk, hLf⟩ := FG.ns
  refine wpAny_mono (h _ s.heap.objs.size h₁ FG ⟨hns, fun b o e => hk₁ b o (of_hideAll _ e), Nat.le_of_eq (hideAll_size _ _)⟩
    (fun p hp => ⟨hk₁ _ _ (N p hp).1, Nat.ne_of_lt (Heap.lt_size (N p hp).1), hideAll_none _ (List.mem_map_of_mem hp)⟩) BG (X₀.keeps st) (T.keeps st) (fun b hb => by
      rcases fly_mem hf hb with rfl | z
      · exact ⟨oL, es, ep, hLg, hLd⟩
      · simp at z)) (fun fl s' hl => ?_) fun _ _ y => y
  obtain ⟨g', L', m', news', T', F', N', k⟩ := hl
  have nL₀ : h₀.get? L = none := kts_self F
  obtain ⟨sl, hs⟩ := T'.up hLg
  refine k ⟨⟨_, es, ep, F'.keep _ _ hs, hLd, hLk, hLf⟩, fun b o e => F'.keep b o (T'.other b o (st b o e) (fun q => ?_)), F.above⟩ fun p hp => ⟨(N' p hp).1, fun q => ?_, ?_⟩
  · rcases fly_mem hf q with z | z
    · rw [z, nL₀] at e
      cases e
    · simp at z
  · have := (N' p hp).2.2; rw [q, hs] at this; cases this
  · cases q : h₀.get? p.1 with
    | none => rfl
    | some o =>
      obtain ⟨sl', hs'⟩ := T'.up (st _ _ q)
      have := (N' p hp).2.2
      rw [hs'] at this
      cases this
end
theorem fnAt56 {w : World} {h : Heap} (X : (Mine.hd.heap_1 w.params).In h) : ∃ o, h.get? 56 = some o ∧ o.cls = .type "function" := by
  refine' fn_at X ?kx
  case kx => k_is
theorem fnAt63 {w : World} {h : Heap} (X : (Mine.hd.heap_1 w.params).In h) : ∃ o, h.get? 63 = some o ∧ o.cls = .type "function" := by
  refine' fn_at X ?kx
  case kx => k_is
theorem fnAt70 {w : World} {h : Heap} (X : (Mine.hd.heap_1 w.params).In h) : ∃ o, h.get? 70 = some o ∧ o.cls = .type "function" := by
  refine' fn_at X ?kx
  case kx => k_is
theorem news_sub {h₀ h : Heap} {L : Addr} {ch news : List (Addr × Obj)} (N : News h₀ L h news) (k : ∀ q ∈ ch, q ∈ news) : ∀ q ∈ ch, h.get? q.1 = some q.2 := fun q hq => (N q (k q hq)).1
theorem rd_handed {h : Heap} {v : Value} {ds : List Dat} (r : RD h v (.list ds)) : handedOut v = pure v := by
  obtain ⟨as, r⟩ := r
  cases r
  rfl
section
variable {prog : Program} {w : World} {A₀ : Around} {s : Shared} {base h₀ : Heap} {envc : Env} {L : Addr} {m : Str → Option Value} {tc led : List (Addr × Obj)} {gd : Option (List Code)}
  {p : Program} {loose : List Str} {mean : ExcName → Option Value} {mg mb : Str → Option Value} {Q E : Value → Shared → Prop} {pf : Addr} {D : List RowD} {bes text : Str} {tx tcl : Tok} {col : Int} {R₀ : Res}
theorem told_fin {news' tc' led' : List (Addr × Obj)} {v : Value} {h' : Heap} {tk' : Nat} (F' : Fr h₀ L h' m) (N' : News h₀ L h' news') (hT : TabC tc') (sub : ∀ q ∈ led, q ∈ led') (sub2 : ∀ q ∈ tc' ++ led', q ∈ news')
    (h : ∀ v tc' ch h' tk', TabC tc' → Fr h₀ L h' m → News h₀ L h' (ch ++ (tc' ++ led)) → RDV h₀ ch v (toldD R₀) → Q v { s with heap := h', toks := tk' })
    (rd : RD h' v (toldD R₀)) : Q v { s with heap := h', toks := tk' } := by
  obtain ⟨ch, Nch, rv⟩ := rd_chunk F' _ _ rd
  refine h v tc' ch h' tk' hT F' (fun q hq => (List.mem_append.mp hq).elim (Nch q) fun hq => N' q (sub2 q ?_)) rv
  exact (List.mem_append.mp hq).elim (List.mem_append_left _) fun z => List.mem_append_right _ (sub q z)
/-- the statement of told_walk over its data -/
noncomputable def told_walk_P (prog : Program) (w : World) (A₀ : Around) (s : Shared) (base : Heap) (h₀ : Heap) (L : Addr) (m : Str → Option Value) (p : Program) (loose : List Str) (mean : ExcName → Option Value) (mg : Str → Option Value) (mb : Str → Option Value) (envc : Env) (tc : List (Addr × Obj)) (led : List (Addr × Obj)) (gd : Option (List Code)) (Q : Value → Shared → Prop) (E : Value → Shared → Prop) (pf : Addr) (D : List RowD) (bes : Str) (text : Str) (tx : Tok) (tcl : Tok) (col : Int) (R₀ : Res) : Prop :=
  ∀ (B : Below A₀ base [] h₀) (F : Fr h₀ L s.heap m) (X : (Mine.hd.heap_1 w.params).In h₀) (N : News h₀ L s.heap (tc ++ led)) (T : Top p loose mean mg mb h₀) (XB : (Mine.hd.heap_1 w.params).In base) (TB : Top p loose mean mg mb base) (P : PrAt w led pf D bes text) (C : CodeHd h₀ 155 151) (ht : TabC tc) (hne : ∀ q ∈ led, q.1 ≠ 151) (hR : revTop (fun b => searchL bes b 0 D) col = R₀) (hfc : envc.frame = some L) (hck : envc.scope.kind = .function) (h : ∀ v tc' ch h' tk', TabC tc' → Fr h₀ L h' m → News h₀ L h' (ch ++ (tc' ++ led)) → RDV h₀ ch v (toldD R₀) → Q v { s with heap := h', toks := tk' }), wpAny (model prog w) { handled := none, depth := 480, frames := some [envc], guards := gd, units := 800 } (call (.ref 168) [.ref pf, .str text tx, .int col tcl]) Q E s
noncomputable def told_walk_R (p : Program × World × Around × Shared × Heap × Heap × Addr × (Str → Option Value) × Program × (List Str) × (ExcName → Option Value) × (Str → Option Value) × (Str → Option Value) × Env × (List (Addr × Obj)) × (List (Addr × Obj)) × (Option (List Code)) × (Value → Shared → Prop) × (Value → Shared → Prop) × Addr × (List RowD) × Str × Str × Tok × Tok × Int × Res) : Prop := told_walk_P p.1 p.2.1 p.2.2.1 p.2.2.2.1 p.2.2.2.2.1 p.2.2.2.2.2.1 p.2.2.2.2.2.2.1 p.2.2.2.2.2.2.2.1 p.2.2.2.2.2.2.2.2.1 p.2.2.2.2.2.2.2.2.2.1 p.2.2.2.2.2.2.2.2.2.2.1 p.2.2.2.2.2.2.2.2.2.2.2.1 p.2.2.2.2.2.2.2.2.2.2.2.2.1 p.2.2.2.2.2.2.2.2.2.2.2.2.2.1 p.2.2.2.2.2.2.2.2.2.2.2.2.2.2.1 p.2.2.2.2.2.2.2.2.2.2.2.2.2.2.2.1 p.2.2.2.2.2.2.2.2.2.2.2.2.2.2.2.2.1 p.2.2.2.2.2.2.2.2.2.2.2.2.2.2.2.2.2.1 p.2.2.2.2.2.2.2.2.2.2.2.2.2.2.2.2.2.2.1 p.2.2.2.2.2.2.2.2.2.2.2.2.2.2.2.2.2.2.2.1 p.2.2.2.2.2.2.2.2.2.2.2.2.2.2.2.2.2.2.2.2.1 p.2.2.2.2.2.2.2.2.2.2.2.2.2.2.2.2.2.2.2.2.2.1 p.2.2.2.2.2.2.2.2.2.2.2.2.2.2.2.2.2.2.2.2.2.2.1 p.2.2.2.2.2.2.2.2.2.2.2.2.2.2.2.2.2.2.2.2.2.2.2.1 p.2.2.2.2.2.2.2.2.2.2.2.2.2.2.2.2.2.2.2.2.2.2.2.2.1 p.2.2.2.2.2.2.2.2.2.2.2.2.2.2.2.2.2.2.2.2.2.2.2.2.2.1 p.2.2.2.2.2.2.2.2.2.2.2.2.2.2.2.2.2.2.2.2.2.2.2.2.2.2
noncomputable def told_walk_c : Program × World × Around × Shared × Heap × Heap × Addr × (Str → Option Value) × Program × (List Str) × (ExcName → Option Value) × (Str → Option Value) × (Str → Option Value) × Env × (List (Addr × Obj)) × (List (Addr × Obj)) × (Option (List Code)) × (Value → Shared → Prop) × (Value → Shared → Prop) × Addr × (List RowD) × Str × Str × Tok × Tok × Int × Res := pick (neP inferInstance (neP neW (neP neA (neP neS (neP inferInstance (neP inferInstance (neP inferInstance (neP inferInstance (neP inferInstance (neP inferInstance (neP inferInstance (neP inferInstance (neP inferInstance (neP inferInstance (neP inferInstance (neP inferInstance (neP inferInstance (neP inferInstance (neP inferInstance (neP inferInstance (neP inferInstance (neP inferInstance (neP inferInstance (neP inferInstance (neP inferInstance (neP inferInstance ((⟨Res.bad⟩ : Nonempty Res)))))))))))))))))))))))))))) told_walk_R
set_option maxHeartbeats 4000000 in
set_option pp.deepTerms false in
set_option pp.deepTerms.threshold 6 in
set_option pp.maxSteps 1500 in
theorem told_walk_core : told_walk_R told_walk_c := (by
  intro prog w A₀ s base h₀ L m p loose mean mg mb envc tc led gd Q E pf D bes text tx tcl col R₀ B F X N T XB TB P C ht hne hR hfc hck h
  refine wpAny_call ?_
  k_dflt (refine' code_defX0 ?k1 ?k2 ?k3 ?k4 ?k5 ?kA ?kf ?k6 ?k7 ?k8 ?k9 ?kB ?_ ?c1 ?c2 ?c3 ?c4 ?c5; (case k1 => assumption); (case k2 => assumption); (case k3 => assumption); (case k4 => assumption); (case k5 => assumption); (case kA => exact rfl); (case kf => assumption); (case k6 => k_is); (case k7 => k_is); (case k8 => exact Nat.le_of_ble_eq_true rfl); (case k9 => exact BindsTo.of_eq rfl); (case c5 => decide); (case kB => exact locs rfl); (case c1 => assumption); (case c2 => exact rfl); (case c3 => exact rfl); (case c4 => exact rfl); k_whole; intro zzg' zzL' zzh' zzFG' zzF' zzN' zzB' zzX' zzT' zzD'; (try dsimp only); (try k_fold))
  repeat' (first | (k_unfold; (try dsimp only)) | (k_end; wrow_close) | ((fail_if_success (with_reducible show wpAny _ _ (call _ _) _ _ _)); (first | ((with_reducible show wpAny _ _ (getAttr (Value.ref _) _ _) _ _ _); first | with_reducible (k_here; (rename NagAt _ _ _ _ _ => naX); k_dflt (refine' nag_attr ?F ?X ?N naX ?s ?n ?v ?_; (case F => k_asm); (case X => k_asm); (case N => k_asm); (case s => walk_at "M sub"); (case n => first | exact Or.inl ⟨rfl, rfl⟩ | exact Or.inr (Or.inl ⟨rfl, rfl⟩) | exact Or.inr (Or.inr ⟨rfl, rfl⟩)); (case v => first | exact rfl | assumption); k_whole))) | ((with_reducible show wpAny _ _ (getMethod (Value.ref _) _ _) _ _ _); first | with_reducible (k_here; (rename NagAt _ _ _ _ _ => naX); k_dflt (refine' nag_meth ?F ?X ?N naX ?s ?f ?n ?_; (case F => k_asm); (case X => k_asm); (case N => k_asm); (case s => walk_at "M sub"); (case n => first | exact Or.inl ⟨rfl, rfl⟩ | exact Or.inr (Or.inl ⟨rfl, rfl⟩) | exact Or.inr (Or.inr ⟨rfl, rfl⟩)); (case f => first | exact fnAt56 (by k_asm) | exact fnAt63 (by k_asm) | exact fnAt70 (by k_asm)); k_whole)) | with_reducible (k_here; (with_reducible show wpAny _ _ (getMethod (Value.ref _) (Str.ofString "span") _) _ _ _); k_dflt (refine' method_hit ?h1 ?h2 ?h3 ?_; (case h1 => k_asm); (case h2 => assumption); (case h3 => walk_at "M sub"); k_whole); intro zzfs' zzFA' zzSF')) | ((with_reducible show wpAny _ _ (call (Value.ref _) _) _ _ _); first | with_reducible (k_here; (with_reducible show wpAny _ _ (call (Value.ref _) []) _ _ _); k_dflt (refine' call_span ?F ?N ?T ?S ?e ?r ?_; (case F => k_asm); (case N => k_asm); (case T => k_asm); (case S => assumption); (case e => rfl); (case r => exact Nat.le_of_ble_eq_true rfl); k_whole); intro zzD' zzt' zzu' zze' zzh' zztk' zzF' zzN' zzne'; (try dsimp only); (try k_sweep); (try k_fold))) | ((with_reducible show wpAny _ _ (callWith _ _ _ _ _) _ _ _); first | with_reducible (k_here; k_dflt (refine' callWith_F0 ?k1 ?_; (case k1 => assumption); k_whole; try dsimp only [List.nil_append, List.cons_append]))) | walk1)) | ((fail_if_success (with_reducible show wpAny _ _ (call _ _) _ _ _)); dsimp only; (first | ((with_reducible show wpAny _ _ (getAttr (Value.ref _) _ _) _ _ _); first | with_reducible (k_here; (rename NagAt _ _ _ _ _ => naX); k_dflt (refine' nag_attr ?F ?X ?N naX ?s ?n ?v ?_; (case F => k_asm); (case X => k_asm); (case N => k_asm); (case s => walk_at "M sub"); (case n => first | exact Or.inl ⟨rfl, rfl⟩ | exact Or.inr (Or.inl ⟨rfl, rfl⟩) | exact Or.inr (Or.inr ⟨rfl, rfl⟩)); (case v => first | exact rfl | assumption); k_whole))) | ((with_reducible show wpAny _ _ (getMethod (Value.ref _) _ _) _ _ _); first | with_reducible (k_here; (rename NagAt _ _ _ _ _ => naX); k_dflt (refine' nag_meth ?F ?X ?N naX ?s ?f ?n ?_; (case F => k_asm); (case X => k_asm); (case N => k_asm); (case s => walk_at "M sub"); (case n => first | exact Or.inl ⟨rfl, rfl⟩ | exact Or.inr (Or.inl ⟨rfl, rfl⟩) | exact Or.inr (Or.inr ⟨rfl, rfl⟩)); (case f => first | exact fnAt56 (by k_asm) | exact fnAt63 (by k_asm) | exact fnAt70 (by k_asm)); k_whole)) | with_reducible (k_here; (with_reducible show wpAny _ _ (getMethod (Value.ref _) (Str.ofString "span") _) _ _ _); k_dflt (refine' method_hit ?h1 ?h2 ?h3 ?_; (case h1 => k_asm); (case h2 => assumption); (case h3 => walk_at "M sub"); k_whole); intro zzfs' zzFA' zzSF')) | ((with_reducible show wpAny _ _ (call (Value.ref _) _) _ _ _); first | with_reducible (k_here; (with_reducible show wpAny _ _ (call (Value.ref _) []) _ _ _); k_dflt (refine' call_span ?F ?N ?T ?S ?e ?r ?_; (case F => k_asm); (case N => k_asm); (case T => k_asm); (case S => assumption); (case e => rfl); (case r => exact Nat.le_of_ble_eq_true rfl); k_whole); intro zzD' zzt' zzu' zze' zzh' zztk' zzF' zzN' zzne'; (try dsimp only); (try k_sweep); (try k_fold))) | ((with_reducible show wpAny _ _ (callWith _ _ _ _ _) _ _ _); first | with_reducible (k_here; k_dflt (refine' callWith_F0 ?k1 ?_; (case k1 => assumption); k_whole; try dsimp only [List.nil_append, List.cons_append]))) | walk1)) | (leave1; walk_say "STEP leave1"; try dsimp only) | fail "no step")
  rename Fr _ _ _ _ => F1
  rename News _ _ _ _ => N1
  rename Below _ _ _ _ => B1
  rename Frag.In _ _ => X1
  rename Top _ _ _ _ _ _ => T1
  rename KtsDicts _ _ => D1
  rename Fr h₀ L _ m => FG1
  k_dflt refine' srev_use B1 F1 X1 T1 N1 D1 P (C.keeps FG1.keep) ht hne hR ?yd ?yu ?yf ?yk ?y0 ?y1 ?y2 ?y3
  case yd => exact Nat.le_of_ble_eq_true rfl
  case yu => exact Nat.le_of_ble_eq_true rfl
  case yf => exact rfl
  case yk => exact rfl
  case y0 =>
    intro e0 tc' led' h' tk' hT sub F' N'
    clear F1 N1
    repeat' (first | (k_unfold; (try dsimp only)) | (k_end; wrow_close) | (first | ((with_reducible show wpAny _ _ (getAttr (Value.ref _) _ _) _ _ _); first | with_reducible (k_here; (rename NagAt _ _ _ _ _ => naX); k_dflt (refine' nag_attr ?F ?X ?N naX ?s ?n ?v ?_; (case F => k_asm); (case X => k_asm); (case N => k_asm); (case s => walk_at "M sub"); (case n => first | exact Or.inl ⟨rfl, rfl⟩ | exact Or.inr (Or.inl ⟨rfl, rfl⟩) | exact Or.inr (Or.inr ⟨rfl, rfl⟩)); (case v => first | exact rfl | assumption); k_whole))) | ((with_reducible show wpAny _ _ (getMethod (Value.ref _) _ _) _ _ _); first | with_reducible (k_here; (rename NagAt _ _ _ _ _ => naX); k_dflt (refine' nag_meth ?F ?X ?N naX ?s ?f ?n ?_; (case F => k_asm); (case X => k_asm); (case N => k_asm); (case s => walk_at "M sub"); (case n => first | exact Or.inl ⟨rfl, rfl⟩ | exact Or.inr (Or.inl ⟨rfl, rfl⟩) | exact Or.inr (Or.inr ⟨rfl, rfl⟩)); (case f => first | exact fnAt56 (by k_asm) | exact fnAt63 (by k_asm) | exact fnAt70 (by k_asm)); k_whole)) | with_reducible (k_here; (with_reducible show wpAny _ _ (getMethod (Value.ref _) (Str.ofString "span") _) _ _ _); k_dflt (refine' method_hit ?h1 ?h2 ?h3 ?_; (case h1 => k_asm); (case h2 => assumption); (case h3 => walk_at "M sub"); k_whole); intro zzfs' zzFA' zzSF')) | ((with_reducible show wpAny _ _ (call (Value.ref _) _) _ _ _); first | with_reducible (k_here; (with_reducible show wpAny _ _ (call (Value.ref _) []) _ _ _); k_dflt (refine' call_span ?F ?N ?T ?S ?e ?r ?_; (case F => k_asm); (case N => k_asm); (case T => k_asm); (case S => assumption); (case e => rfl); (case r => exact Nat.le_of_ble_eq_true rfl); k_whole); intro zzD' zzt' zzu' zze' zzh' zztk' zzF' zzN' zzne'; (try dsimp only); (try k_sweep); (try k_fold))) | ((with_reducible show wpAny _ _ (callWith _ _ _ _ _) _ _ _); first | with_reducible (k_here; k_dflt (refine' callWith_F0 ?k1 ?_; (case k1 => assumption); k_whole; try dsimp only [List.nil_append, List.cons_append]))) | walk1) | (dsimp only; (first | ((with_reducible show wpAny _ _ (getAttr (Value.ref _) _ _) _ _ _); first | with_reducible (k_here; (rename NagAt _ _ _ _ _ => naX); k_dflt (refine' nag_attr ?F ?X ?N naX ?s ?n ?v ?_; (case F => k_asm); (case X => k_asm); (case N => k_asm); (case s => walk_at "M sub"); (case n => first | exact Or.inl ⟨rfl, rfl⟩ | exact Or.inr (Or.inl ⟨rfl, rfl⟩) | exact Or.inr (Or.inr ⟨rfl, rfl⟩)); (case v => first | exact rfl | assumption); k_whole))) | ((with_reducible show wpAny _ _ (getMethod (Value.ref _) _ _) _ _ _); first | with_reducible (k_here; (rename NagAt _ _ _ _ _ => naX); k_dflt (refine' nag_meth ?F ?X ?N naX ?s ?f ?n ?_; (case F => k_asm); (case X => k_asm); (case N => k_asm); (case s => walk_at "M sub"); (case n => first | exact Or.inl ⟨rfl, rfl⟩ | exact Or.inr (Or.inl ⟨rfl, rfl⟩) | exact Or.inr (Or.inr ⟨rfl, rfl⟩)); (case f => first | exact fnAt56 (by k_asm) | exact fnAt63 (by k_asm) | exact fnAt70 (by k_asm)); k_whole)) | with_reducible (k_here; (with_reducible show wpAny _ _ (getMethod (Value.ref _) (Str.ofString "span") _) _ _ _); k_dflt (refine' method_hit ?h1 ?h2 ?h3 ?_; (case h1 => k_asm); (case h2 => assumption); (case h3 => walk_at "M sub"); k_whole); intro zzfs' zzFA' zzSF')) | ((with_reducible show wpAny _ _ (call (Value.ref _) _) _ _ _); first | with_reducible (k_here; (with_reducible show wpAny _ _ (call (Value.ref _) []) _ _ _); k_dflt (refine' call_span ?F ?N ?T ?S ?e ?r ?_; (case F => k_asm); (case N => k_asm); (case T => k_asm); (case S => assumption); (case e => rfl); (case r => exact Nat.le_of_ble_eq_true rfl); k_whole); intro zzD' zzt' zzu' zze' zzh' zztk' zzF' zzN' zzne'; (try dsimp only); (try k_sweep); (try k_fold))) | ((with_reducible show wpAny _ _ (callWith _ _ _ _ _) _ _ _); first | with_reducible (k_here; k_dflt (refine' callWith_F0 ?k1 ?_; (case k1 => assumption); k_whole; try dsimp only [List.nil_append, List.cons_append]))) | walk1)) | (leave1; walk_say "STEP leave1"; try dsimp only) | fail "no step")
    rename Fr h₀ L _ m => F8
    rename News h₀ L _ _ => N8
    exact told_fin F8 N8 hT sub (by walk_at "M sub") h (by rw [e0]; exact RD.none)
  case y1 =>
    intro a b e0 f tc' led' h' tk' hT sub F' N' H'
    clear F1 N1
    repeat' (first | (k_unfold; (try dsimp only)) | (k_end; wrow_close) | (first | ((with_reducible show wpAny _ _ (getAttr (Value.ref _) _ _) _ _ _); first | with_reducible (k_here; (rename NagAt _ _ _ _ _ => naX); k_dflt (refine' nag_attr ?F ?X ?N naX ?s ?n ?v ?_; (case F => k_asm); (case X => k_asm); (case N => k_asm); (case s => walk_at "M sub"); (case n => first | exact Or.inl ⟨rfl, rfl⟩ | exact Or.inr (Or.inl ⟨rfl, rfl⟩) | exact Or.inr (Or.inr ⟨rfl, rfl⟩)); (case v => first | exact rfl | assumption); k_whole))) | ((with_reducible show wpAny _ _ (getMethod (Value.ref _) _ _) _ _ _); first | with_reducible (k_here; (rename NagAt _ _ _ _ _ => naX); k_dflt (refine' nag_meth ?F ?X ?N naX ?s ?f ?n ?_; (case F => k_asm); (case X => k_asm); (case N => k_asm); (case s => walk_at "M sub"); (case n => first | exact Or.inl ⟨rfl, rfl⟩ | exact Or.inr (Or.inl ⟨rfl, rfl⟩) | exact Or.inr (Or.inr ⟨rfl, rfl⟩)); (case f => first | exact fnAt56 (by k_asm) | exact fnAt63 (by k_asm) | exact fnAt70 (by k_asm)); k_whole)) | with_reducible (k_here; (with_reducible show wpAny _ _ (getMethod (Value.ref _) (Str.ofString "span") _) _ _ _); k_dflt (refine' method_hit ?h1 ?h2 ?h3 ?_; (case h1 => k_asm); (case h2 => assumption); (case h3 => walk_at "M sub"); k_whole); intro zzfs' zzFA' zzSF')) | ((with_reducible show wpAny _ _ (call (Value.ref _) _) _ _ _); first | with_reducible (k_here; (with_reducible show wpAny _ _ (call (Value.ref _) []) _ _ _); k_dflt (refine' call_span ?F ?N ?T ?S ?e ?r ?_; (case F => k_asm); (case N => k_asm); (case T => k_asm); (case S => assumption); (case e => rfl); (case r => exact Nat.le_of_ble_eq_true rfl); k_whole); intro zzD' zzt' zzu' zze' zzh' zztk' zzF' zzN' zzne'; (try dsimp only); (try k_sweep); (try k_fold))) | ((with_reducible show wpAny _ _ (callWith _ _ _ _ _) _ _ _); first | with_reducible (k_here; k_dflt (refine' callWith_F0 ?k1 ?_; (case k1 => assumption); k_whole; try dsimp only [List.nil_append, List.cons_append]))) | walk1) | (dsimp only; (first | ((with_reducible show wpAny _ _ (getAttr (Value.ref _) _ _) _ _ _); first | with_reducible (k_here; (rename NagAt _ _ _ _ _ => naX); k_dflt (refine' nag_attr ?F ?X ?N naX ?s ?n ?v ?_; (case F => k_asm); (case X => k_asm); (case N => k_asm); (case s => walk_at "M sub"); (case n => first | exact Or.inl ⟨rfl, rfl⟩ | exact Or.inr (Or.inl ⟨rfl, rfl⟩) | exact Or.inr (Or.inr ⟨rfl, rfl⟩)); (case v => first | exact rfl | assumption); k_whole))) | ((with_reducible show wpAny _ _ (getMethod (Value.ref _) _ _) _ _ _); first | with_reducible (k_here; (rename NagAt _ _ _ _ _ => naX); k_dflt (refine' nag_meth ?F ?X ?N naX ?s ?f ?n ?_; (case F => k_asm); (case X => k_asm); (case N => k_asm); (case s => walk_at "M sub"); (case n => first | exact Or.inl ⟨rfl, rfl⟩ | exact Or.inr (Or.inl ⟨rfl, rfl⟩) | exact Or.inr (Or.inr ⟨rfl, rfl⟩)); (case f => first | exact fnAt56 (by k_asm) | exact fnAt63 (by k_asm) | exact fnAt70 (by k_asm)); k_whole)) | with_reducible (k_here; (with_reducible show wpAny _ _ (getMethod (Value.ref _) (Str.ofString "span") _) _ _ _); k_dflt (refine' method_hit ?h1 ?h2 ?h3 ?_; (case h1 => k_asm); (case h2 => assumption); (case h3 => walk_at "M sub"); k_whole); intro zzfs' zzFA' zzSF')) | ((with_reducible show wpAny _ _ (call (Value.ref _) _) _ _ _); first | with_reducible (k_here; (with_reducible show wpAny _ _ (call (Value.ref _) []) _ _ _); k_dflt (refine' call_span ?F ?N ?T ?S ?e ?r ?_; (case F => k_asm); (case N => k_asm); (case T => k_asm); (case S => assumption); (case e => rfl); (case r => exact Nat.le_of_ble_eq_true rfl); k_whole); intro zzD' zzt' zzu' zze' zzh' zztk' zzF' zzN' zzne'; (try dsimp only); (try k_sweep); (try k_fold))) | ((with_reducible show wpAny _ _ (callWith _ _ _ _ _) _ _ _); first | with_reducible (k_here; k_dflt (refine' callWith_F0 ?k1 ?_; (case k1 => assumption); k_whole; try dsimp only [List.nil_append, List.cons_append]))) | walk1)) | (leave1; walk_say "STEP leave1"; try dsimp only) | fail "no step")
    rename Fr h₀ L _ m => F8
    rename News h₀ L _ _ => N8
    exact told_fin F8 N8 hT sub (by walk_at "M sub") h (by rw [e0]; exact RD.tuple (N8.get (.head _)) (.cons .int (.cons .int .nil)))
  case y2 =>
    intro k wit row e0 e d od v2 t1 t3 tc' led' g₂ h' tk' hT sub FG R U Dn
    k_dflt refine' caught_ownP R FG B1 U XB TB D1 KtsTurn.refl ?ex ?q ?_
    case ex => k_is
    case q => kts_isx
    intro h2 g2 oe ws ch tk2 KT F2 N2 RV c1 c2 c3 B2 X2 T2 D2
    clear F1 N1
    have hv2 : handedOut v2 = pure v2 := rd_handed (RV h2 (fun b o hb _ => F2.keep b o hb) fun q hq => (N2 q (.tail _ (List.mem_append_right _ hq))).1)
    have NA : NagAt ((e, oe) :: ((d, od) :: (tc' ++ led') ++ ch)) e (.int k t1) v2 (.str row t3) := ⟨oe, d, od, ws, .head _, c1, c2, c3, .tail _ (.head _), Dn⟩
    repeat' (first | (k_unfold; (try dsimp only)) | (k_end; wrow_close) | (first | ((with_reducible show wpAny _ _ (getAttr (Value.ref _) _ _) _ _ _); first | with_reducible (k_here; (rename NagAt _ _ _ _ _ => naX); k_dflt (refine' nag_attr ?F ?X ?N naX ?s ?n ?v ?_; (case F => k_asm); (case X => k_asm); (case N => k_asm); (case s => walk_at "M sub"); (case n => first | exact Or.inl ⟨rfl, rfl⟩ | exact Or.inr (Or.inl ⟨rfl, rfl⟩) | exact Or.inr (Or.inr ⟨rfl, rfl⟩)); (case v => first | exact rfl | assumption); k_whole))) | ((with_reducible show wpAny _ _ (getMethod (Value.ref _) _ _) _ _ _); first | with_reducible (k_here; (rename NagAt _ _ _ _ _ => naX); k_dflt (refine' nag_meth ?F ?X ?N naX ?s ?f ?n ?_; (case F => k_asm); (case X => k_asm); (case N => k_asm); (case s => walk_at "M sub"); (case n => first | exact Or.inl ⟨rfl, rfl⟩ | exact Or.inr (Or.inl ⟨rfl, rfl⟩) | exact Or.inr (Or.inr ⟨rfl, rfl⟩)); (case f => first | exact fnAt56 (by k_asm) | exact fnAt63 (by k_asm) | exact fnAt70 (by k_asm)); k_whole)) | with_reducible (k_here; (with_reducible show wpAny _ _ (getMethod (Value.ref _) (Str.ofString "span") _) _ _ _); k_dflt (refine' method_hit ?h1 ?h2 ?h3 ?_; (case h1 => k_asm); (case h2 => assumption); (case h3 => walk_at "M sub"); k_whole); intro zzfs' zzFA' zzSF')) | ((with_reducible show wpAny _ _ (call (Value.ref _) _) _ _ _); first | with_reducible (k_here; (with_reducible show wpAny _ _ (call (Value.ref _) []) _ _ _); k_dflt (refine' call_span ?F ?N ?T ?S ?e ?r ?_; (case F => k_asm); (case N => k_asm); (case T => k_asm); (case S => assumption); (case e => rfl); (case r => exact Nat.le_of_ble_eq_true rfl); k_whole); intro zzD' zzt' zzu' zze' zzh' zztk' zzF' zzN' zzne'; (try dsimp only); (try k_sweep); (try k_fold))) | ((with_reducible show wpAny _ _ (callWith _ _ _ _ _) _ _ _); first | with_reducible (k_here; k_dflt (refine' callWith_F0 ?k1 ?_; (case k1 => assumption); k_whole; try dsimp only [List.nil_append, List.cons_append]))) | walk1) | (dsimp only; (first | ((with_reducible show wpAny _ _ (getAttr (Value.ref _) _ _) _ _ _); first | with_reducible (k_here; (rename NagAt _ _ _ _ _ => naX); k_dflt (refine' nag_attr ?F ?X ?N naX ?s ?n ?v ?_; (case F => k_asm); (case X => k_asm); (case N => k_asm); (case s => walk_at "M sub"); (case n => first | exact Or.inl ⟨rfl, rfl⟩ | exact Or.inr (Or.inl ⟨rfl, rfl⟩) | exact Or.inr (Or.inr ⟨rfl, rfl⟩)); (case v => first | exact rfl | assumption); k_whole))) | ((with_reducible show wpAny _ _ (getMethod (Value.ref _) _ _) _ _ _); first | with_reducible (k_here; (rename NagAt _ _ _ _ _ => naX); k_dflt (refine' nag_meth ?F ?X ?N naX ?s ?f ?n ?_; (case F => k_asm); (case X => k_asm); (case N => k_asm); (case s => walk_at "M sub"); (case n => first | exact Or.inl ⟨rfl, rfl⟩ | exact Or.inr (Or.inl ⟨rfl, rfl⟩) | exact Or.inr (Or.inr ⟨rfl, rfl⟩)); (case f => first | exact fnAt56 (by k_asm) | exact fnAt63 (by k_asm) | exact fnAt70 (by k_asm)); k_whole)) | with_reducible (k_here; (with_reducible show wpAny _ _ (getMethod (Value.ref _) (Str.ofString "span") _) _ _ _); k_dflt (refine' method_hit ?h1 ?h2 ?h3 ?_; (case h1 => k_asm); (case h2 => assumption); (case h3 => walk_at "M sub"); k_whole); intro zzfs' zzFA' zzSF')) | ((with_reducible show wpAny _ _ (call (Value.ref _) _) _ _ _); first | with_reducible (k_here; (with_reducible show wpAny _ _ (call (Value.ref _) []) _ _ _); k_dflt (refine' call_span ?F ?N ?T ?S ?e ?r ?_; (case F => k_asm); (case N => k_asm); (case T => k_asm); (case S => assumption); (case e => rfl); (case r => exact Nat.le_of_ble_eq_true rfl); k_whole); intro zzD' zzt' zzu' zze' zzh' zztk' zzF' zzN' zzne'; (try dsimp only); (try k_sweep); (try k_fold))) | ((with_reducible show wpAny _ _ (callWith _ _ _ _ _) _ _ _); first | with_reducible (k_here; k_dflt (refine' callWith_F0 ?k1 ?_; (case k1 => assumption); k_whole; try dsimp only [List.nil_append, List.cons_append]))) | walk1)) | (leave1; walk_say "STEP leave1"; try dsimp only) | fail "no step")
    rename Fr g2 _ _ _ => F7
    rename Fr h₀ L _ m => F8
    rename News h₀ L _ _ => N8
    refine told_fin F8 N8 hT sub (by walk_at "M sub") h ?_
    rw [e0]
    have hch := news_sub (ch := ch) N8 (by walk_at "M sub")
    exact RD.list (vs := [Value.int k t1, v2, Value.str row t3]) (N8.get (.head _)) (.cons .int (.cons (RV _ (fun b o hb _ => F7.keep b o hb) hch) (.cons .str .nil)))
  case y3 =>
    intro e0 e dx tc' led' g₂ h' tk' hT sub FG R U
    have R1 := R.flew.1
    clear F1 N1 R
    repeat' (first | (k_unfold; (try dsimp only)) | (k_end; wrow_close) | (first | ((with_reducible show wpAny _ _ (getAttr (Value.ref _) _ _) _ _ _); first | with_reducible (k_here; (rename NagAt _ _ _ _ _ => naX); k_dflt (refine' nag_attr ?F ?X ?N naX ?s ?n ?v ?_; (case F => k_asm); (case X => k_asm); (case N => k_asm); (case s => walk_at "M sub"); (case n => first | exact Or.inl ⟨rfl, rfl⟩ | exact Or.inr (Or.inl ⟨rfl, rfl⟩) | exact Or.inr (Or.inr ⟨rfl, rfl⟩)); (case v => first | exact rfl | assumption); k_whole))) | ((with_reducible show wpAny _ _ (getMethod (Value.ref _) _ _) _ _ _); first | with_reducible (k_here; (rename NagAt _ _ _ _ _ => naX); k_dflt (refine' nag_meth ?F ?X ?N naX ?s ?f ?n ?_; (case F => k_asm); (case X => k_asm); (case N => k_asm); (case s => walk_at "M sub"); (case n => first | exact Or.inl ⟨rfl, rfl⟩ | exact Or.inr (Or.inl ⟨rfl, rfl⟩) | exact Or.inr (Or.inr ⟨rfl, rfl⟩)); (case f => first | exact fnAt56 (by k_asm) | exact fnAt63 (by k_asm) | exact fnAt70 (by k_asm)); k_whole)) | with_reducible (k_here; (with_reducible show wpAny _ _ (getMethod (Value.ref _) (Str.ofString "span") _) _ _ _); k_dflt (refine' method_hit ?h1 ?h2 ?h3 ?_; (case h1 => k_asm); (case h2 => assumption); (case h3 => walk_at "M sub"); k_whole); intro zzfs' zzFA' zzSF')) | ((with_reducible show wpAny _ _ (call (Value.ref _) _) _ _ _); first | with_reducible (k_here; (with_reducible show wpAny _ _ (call (Value.ref _) []) _ _ _); k_dflt (refine' call_span ?F ?N ?T ?S ?e ?r ?_; (case F => k_asm); (case N => k_asm); (case T => k_asm); (case S => assumption); (case e => rfl); (case r => exact Nat.le_of_ble_eq_true rfl); k_whole); intro zzD' zzt' zzu' zze' zzh' zztk' zzF' zzN' zzne'; (try dsimp only); (try k_sweep); (try k_fold))) | ((with_reducible show wpAny _ _ (callWith _ _ _ _ _) _ _ _); first | with_reducible (k_here; k_dflt (refine' callWith_F0 ?k1 ?_; (case k1 => assumption); k_whole; try dsimp only [List.nil_append, List.cons_append]))) | walk1) | (dsimp only; (first | ((with_reducible show wpAny _ _ (getAttr (Value.ref _) _ _) _ _ _); first | with_reducible (k_here; (rename NagAt _ _ _ _ _ => naX); k_dflt (refine' nag_attr ?F ?X ?N naX ?s ?n ?v ?_; (case F => k_asm); (case X => k_asm); (case N => k_asm); (case s => walk_at "M sub"); (case n => first | exact Or.inl ⟨rfl, rfl⟩ | exact Or.inr (Or.inl ⟨rfl, rfl⟩) | exact Or.inr (Or.inr ⟨rfl, rfl⟩)); (case v => first | exact rfl | assumption); k_whole))) | ((with_reducible show wpAny _ _ (getMethod (Value.ref _) _ _) _ _ _); first | with_reducible (k_here; (rename NagAt _ _ _ _ _ => naX); k_dflt (refine' nag_meth ?F ?X ?N naX ?s ?f ?n ?_; (case F => k_asm); (case X => k_asm); (case N => k_asm); (case s => walk_at "M sub"); (case n => first | exact Or.inl ⟨rfl, rfl⟩ | exact Or.inr (Or.inl ⟨rfl, rfl⟩) | exact Or.inr (Or.inr ⟨rfl, rfl⟩)); (case f => first | exact fnAt56 (by k_asm) | exact fnAt63 (by k_asm) | exact fnAt70 (by k_asm)); k_whole)) | with_reducible (k_here; (with_reducible show wpAny _ _ (getMethod (Value.ref _) (Str.ofString "span") _) _ _ _); k_dflt (refine' method_hit ?h1 ?h2 ?h3 ?_; (case h1 => k_asm); (case h2 => assumption); (case h3 => walk_at "M sub"); k_whole); intro zzfs' zzFA' zzSF')) | ((with_reducible show wpAny _ _ (call (Value.ref _) _) _ _ _); first | with_reducible (k_here; (with_reducible show wpAny _ _ (call (Value.ref _) []) _ _ _); k_dflt (refine' call_span ?F ?N ?T ?S ?e ?r ?_; (case F => k_asm); (case N => k_asm); (case T => k_asm); (case S => assumption); (case e => rfl); (case r => exact Nat.le_of_ble_eq_true rfl); k_whole); intro zzD' zzt' zzu' zze' zzh' zztk' zzF' zzN' zzne'; (try dsimp only); (try k_sweep); (try k_fold))) | ((with_reducible show wpAny _ _ (callWith _ _ _ _ _) _ _ _); first | with_reducible (k_here; k_dflt (refine' callWith_F0 ?k1 ?_; (case k1 => assumption); k_whole; try dsimp only [List.nil_append, List.cons_append]))) | walk1)) | (leave1; walk_say "STEP leave1"; try dsimp only) | fail "no step")
    rename Fr h₀ L _ m => F8
    rename News h₀ L _ _ => N8
    exact told_fin F8 N8 hT sub (by walk_at "M sub") h (by rw [e0]; exact RD.str) : ∀ (prog : Program) (w : World) (A₀ : Around) (s : Shared) (base : Heap) (h₀ : Heap) (L : Addr) (m : Str → Option Value) (p : Program) (loose : List Str) (mean : ExcName → Option Value) (mg : Str → Option Value) (mb : Str → Option Value) (envc : Env) (tc : List (Addr × Obj)) (led : List (Addr × Obj)) (gd : Option (List Code)) (Q : Value → Shared → Prop) (E : Value → Shared → Prop) (pf : Addr) (D : List RowD) (bes : Str) (text : Str) (tx : Tok) (tcl : Tok) (col : Int) (R₀ : Res), told_walk_P prog w A₀ s base h₀ L m p loose mean mg mb envc tc led gd Q E pf D bes text tx tcl col R₀) _ _ _ _ _ _ _ _ _ _ _ _ _ _ _ _ _ _ _ _ _ _ _ _ _ _ _
theorem told_walk (B : Below A₀ base [] h₀) (F : Fr h₀ L s.heap m) (X : (Mine.hd.heap_1 w.params).In h₀) (N : News h₀ L s.heap (tc ++ led)) (T : Top p loose mean mg mb h₀) (XB : (Mine.hd.heap_1 w.params).In base) (TB : Top p loose mean mg mb base)
    (P : PrAt w led pf D bes text) (C : CodeHd h₀ 155 151) (ht : TabC tc) (hne : ∀ q ∈ led, q.1 ≠ 151) (hR : revTop (fun b => searchL bes b 0 D) col = R₀) (hfc : envc.frame = some L) (hck : envc.scope.kind = .function)
    (h : ∀ v tc' ch h' tk', TabC tc' → Fr h₀ L h' m → News h₀ L h' (ch ++ (tc' ++ led)) → RDV h₀ ch v (toldD R₀) → Q v { s with heap := h', toks := tk' }) :
    wpAny (model prog w) { handled := none, depth := 480, frames := some [envc], guards := gd, units := 800 } (call (.ref 168) [.ref pf, .str text tx, .int col tcl]) Q E s :=
  (show told_walk_P prog w A₀ s base h₀ L m p loose mean mg mb envc tc led gd Q E pf D bes text tx tcl col R₀ from close1 (R := told_walk_R) _ told_walk_core (prog, w, A₀, s, base, h₀, L, m, p, loose, mean, mg, mb, envc, tc, led, gd, Q, E, pf, D, bes, text, tx, tcl, col, R₀)) B F X N T XB TB P C ht hne hR hfc hck h

end
end

section
theorem sepPrg : True := by
  w_top off
  trivial
open PySem PySem.W PyProof.Rows PySem.Calls PyProof.Rows.LCg
set_option maxRecDepth 100000
theorem fill_me12 : PySem.Challenge.rw_mr0234_01 = PySem.Challenge.rw_mr0234_01 ∧ Mine.hd.heap_1 = Mine.hd.heap_1 := by
  k_fill
  exact ⟨rfl, rfl⟩
noncomputable def ResW (P : Nat → Value → Prop) (i : Nat) (y : Value) (ch : List (Addr × Obj)) : Prop := ∃ x r t, P i (.str r t) ∧ y = .ref x ∧ WsAt ch x r
section
variable {prog : Program} {w : World} {A : Around} {s : Shared} {h₀ : Heap} {L : Addr} {m : Str → Option Value} {env : Env} {elt : Expr} {x : Str} {scope : Scope} {cl : List (Str × Addr)} {P : Nat → Value → Prop} {ax : Addr} {its : Array Value}
  {Fin : List Value → List (Addr × Obj) → Prop} {k i : Nat} {ys : List Value} {news : List (Addr × Obj)}
theorem comp_ws
    (step : ∀ i v I oI C oC D ys news m₂ h tk (E' : Value → Shared → Prop) (Q : Value → Shared → Prop), P i v → NsObj oC m₂ → m₂ x = some v → Fr h₀ L h m → News h₀ L h ((I, oI) :: (C, oC) :: (D, lst ys) :: news) →
      (∀ y ch h' tk', Fr h₀ L h' m → News h₀ L h' (ch ++ ((I, oI) :: (C, oC) :: (D, lst ys) :: news)) → (∀ q ∈ (I, oI) :: (C, oC) :: (D, lst ys) :: news, ∀ p ∈ ch, q.1 < p.1) → ResW P i y ch → Q y { s with heap := h', toks := tk' }) →
      wpAny (model prog w) A (eval elt (compEnvC scope cl C env)) Q E' { s with heap := h, toks := tk })
    (hS : SrcAt h₀ ax its news)
    (fin : ∀ zs ch, zs.length = k → ChOk (ResW P) i zs ch → (∀ q ∈ news, ∀ p ∈ ch, q.1 < p.1) → Fin (ys ++ zs) (ch ++ news)) : CompRest prog w A h₀ L m env elt x scope cl s (SrcAt h₀ ax its) P Fin k i ys news :=
  comp_chunk srcAt_mono step k i ys news hS fin
end
set_option hygiene false in
local macro_rules | `(tactic| walk_at "CompRest") => `(tactic| (refine' comp_ws ?kst ?kS ?kF; (case kS => exact Or.inr ⟨_, by k_mem, rfl, _, rfl⟩)))
theorem ne_all {l ch : List (Addr × Obj)} (h : ∀ q ∈ l, ∀ p ∈ ch, q.1 < p.1) : ∀ q ∈ l, ∀ p ∈ ch, p.1 ≠ q.1 := fun q hq p hp => Nat.ne_of_gt (h q hq p hp)
theorem off1_right {D : Addr} : ∀ {a b : List (Addr × Obj)}, Off1 D (a ++ b) → Off1 D b
  | [], _, h => h
  | _ :: _, _, h => off1_right h.2
theorem off1_left {D : Addr} : ∀ {a b : List (Addr × Obj)}, Off1 D (a ++ b) → ∀ p ∈ a, p.1 ≠ D
  | [], _, _, _, h => nomatch h
  | _ :: _, _, h, p, hp => by
    rcases List.mem_cons.mp hp with rfl | hp
    · exact h.1
    · exact off1_left h.2 p hp
theorem join5 {r0 r1 r2 r3 r4 : Str} (hr0 : r0.length ≤ 50) (hr1 : r1.length ≤ 50) (hr2 : r2.length ≤ 50) (hr3 : r3.length ≤ 50) (hr4 : r4.length ≤ 50) : ([r0, r1, r2, r3, r4].map (·.length)).sum + [r0, r1, r2, r3, r4].length * (Str.ofString "\n").length ≤ 16777216 := by
  have e : (Str.ofString "\n").length = 1 := by decide
  simp only [List.map_cons, List.map_nil, List.sum_cons, List.sum_nil, List.length_cons, List.length_nil, e]
  omega
theorem allLt_mem {d : Nat} : ∀ {l : List (Addr × Obj)}, AllLt d l → ∀ p ∈ l, @LT.lt Nat _ p.1 d
  | [], _, _, h => nomatch h
  | _ :: _, h, p, hp => by
    rcases List.mem_cons.mp hp with rfl | hp
    · exact h.1
    · exact allLt_mem h.2 p hp
theorem ne_lt {c f : Nat} {l : List (Addr × Obj)} (h : AllLt c l) (k : @LT.lt Nat _ c f) : ∀ p ∈ l, p.1 ≠ f := fun p hp => Nat.ne_of_lt (Nat.lt_trans (allLt_mem h p hp) k)
theorem allLt_get {a1 a2 a3 a4 a5 a6 a7 a8 a9 a10 a11 : Prop} {c : Nat} {l : List (Addr × Obj)} (h : a1 ∧ a2 ∧ a3 ∧ a4 ∧ a5 ∧ a6 ∧ a7 ∧ a8 ∧ a9 ∧ a10 ∧ a11 ∧ AllLt c l) : AllLt c l := h.2.2.2.2.2.2.2.2.2.2.2
set_option hygiene false in
local macro_rules | `(tactic| k_ne) => `(tactic| (refine neN ?_; (try dsimp only); assumption))
set_option hygiene false in
local macro_rules | `(tactic| k_all) => `(tactic| first | assumption | (with_reducible refine fun p hp => Nat.ne_of_lt (allLt_mem ?_ p hp); simp only [*]; done))
theorem SeAt.mk' {w : World} {led : List (Addr × Obj)} {sf : Addr} {D : List RowD} {bes text : Str} {c td cT cR cL cB cG ar ab al xb : Addr} {qual : Str} {ps : Arguments} {body : List Stmt} {sc : Scope} {doc pm ct : Value} {oC oT oR oL oB oG : Obj} {t0 tt : Tok} {er eb el : Nat} {vs bs ls : List Value}
    (hs : sDef (Mine.hd.heap_1 w.params) = some (ps, body, sc)) (hf : (sf, kdv_obj (Str.ofString "search") qual ps (.stmts body) sc [(Str.ofString "text", cT), (Str.ofString "rows", cR), (Str.ofString "leads", cL), (Str.ofString "beside", cB), (Str.ofString "begins", cG)] (.ref td) doc pm c ct) ∈ led) (mC : (c, oC) ∈ led) (dC : CodeQ oC qual) (mD : (td, kdv_tup [.int 0 t0]) ∈ led) (mT : (cT, oT) ∈ led) (dT : oT.data = .cell (some (.str text tt))) (mR : (cR, oR) ∈ led) (dR : oR.data = .cell (some (.ref ar))) (mL : (cL, oL) ∈ led) (dL : oL.data = .cell (some (.ref al))) (mB : (cB, oB) ∈ led) (dB : oB.data = .cell (some (.ref xb))) (mG : (cG, oG) ∈ led) (dG : oG.data = .cell (some (.ref ab))) (mr : (ar, W.listOf vs.toArray er) ∈ led) (mbg : (ab, W.listOf bs.toArray eb) ∈ led) (ml : (al, W.listOf ls.toArray el) ∈ led) (hvs : vs.length = 5) (hDl : D.length = 5) (hD : RowsAt led D vs bs ls) (WB : WsAt led xb bes) (lb : bes.length ≤ 50) (htx : text.length ≤ 1000) : SeAt w led sf D bes text :=
  ⟨⟨c, td, cT, cR, cL, cB, cG, ar, ab, al, xb, qual, ps, body, sc, doc, pm, ct, oC, oT, oR, oL, oB, oG, t0, tt, er, eb, el, vs, bs, ls⟩, ⟨hs, hf, mC, dC, mD, mT, dT, mR, dR, mL, dL, mB, dB, mG, dG, mr, mbg, ml, hvs, hDl, hD, WB, lb, htx⟩⟩
theorem sub_off {ch chP led' : List (Addr × Obj)} (hsub : ∀ q ∈ chP, q.1 ≠ 158 → q ∈ led') (a6 : ∀ p ∈ ch, p.1 ≠ 158) (k : ∀ q ∈ ch, q ∈ chP) : ∀ q ∈ ch, q ∈ led' := fun q hq => hsub q (k q hq) (a6 q hq)
theorem chok_ws {P : Nat → Value → Prop} {zs : List Value} {i : Nat} {ch : List (Addr × Obj)} (R : ChOk (ResW P) i zs ch) (k : Nat) (z : Value) (h : zs[k]? = some z) : ∃ x r t, z = .ref x ∧ P (i + k) (.str r t) ∧ WsAt ch x r := by
  obtain ⟨c, hs, r⟩ := chok_at R k z h
  obtain ⟨x, r, t, hp, hy, W⟩ := r
  exact ⟨x, r, t, hy, hp, W.mono hs⟩
variable {prog : Program} {w : World} {s : Shared} {base g : Heap} {fr : List Env} {gd : Option (List Code)}
  {p : Program} {loose : List Str} {mean : ExcName → Option Value} {mg mb : Str → Option Value}
/-- the statement of prog_spec over its data -/
noncomputable def prog_spec_P (prog : Program) (w : World) (s : Shared) (base : Heap) (g : Heap) (fr : List Env) (gd : Option (List Code)) (p : Program) (loose : List Str) (mean : ExcName → Option Value) (mg : Str → Option Value) (mb : Str → Option Value) (Q : Value → Shared → Prop) (E : Value → Shared → Prop) (ar : Addr) (ab : Addr) (xb : Addr) (er : Nat) (eb : Nat) (r0 : Str) (r1 : Str) (r2 : Str) (r3 : Str) (r4 : Str) (t0 : Tok) (t1 : Tok) (t2 : Tok) (t3 : Tok) (t4 : Tok) (v0 : Value) (v1 : Value) (v2 : Value) (v3 : Value) (v4 : Value) : Prop :=
  ∀ (S : Std (AT 500 1000 fr gd) base fr g (Mine.hd.heap_1 w.params) p loose mean mg mb s.heap [(158, tabObj #[]), (ar, W.listOf #[.str r0 t0, .str r1 t1, .str r2 t2, .str r3 t3, .str r4 t4] er)]) (C : CodeHd g 160 158) (h158 : @Ne Nat 158 ar) (hr0 : r0.length ≤ 50) (hr1 : r1.length ≤ 50) (hr2 : r2.length ≤ 50) (hr3 : r3.length ≤ 50) (hr4 : r4.length ≤ 50) (hret : ∀ (f : Addr) (chP : List (Addr × Obj)) (h' : Heap) (tk' : Nat), (∀ b o, b ≠ 158 → s.heap.get? b = some o → h'.get? b = some o) → (∀ q ∈ chP, h'.get? q.1 = some q.2 ∧ (q.1 ≠ 158 → q.1 ≠ ar → s.heap.get? q.1 = none)) → (∃ ps, (158, tabObj ps) ∈ chP) →
      (∀ (led' : List (Addr × Obj)) (D : List RowD) (bes : Str) (bs : List Value) (eb2 : Nat), (∀ q ∈ chP, q.1 ≠ 158 → q ∈ led') → (ab, W.listOf bs.toArray eb2) ∈ led' → WsAt led' xb bes → bes.length ≤ 50 → D.length = 5 → (∀ (k : Nat) (d : RowD), D[k]? = some d → RowOk d ∧ ∃ t tb, [Value.str r0 t0, Value.str r1 t1, Value.str r2 t2, Value.str r3 t3, Value.str r4 t4][k]? = some (Value.str d.raw t) ∧ bs[k]? = some (Value.int d.beg tb)) →
        PrAt w led' f D bes (Txt.join (Str.ofString "\n") [r0, r1, r2, r3, r4])) → Q (.ref f) { s with heap := h', toks := tk' }), wpAny (model prog w) (AT 500 1000 fr gd) (call (.ref 161) [.ref ar, .ref ab, .ref xb]) Q E s
noncomputable def prog_spec_R (p : Program × World × Shared × Heap × Heap × (List Env) × (Option (List Code)) × Program × (List Str) × (ExcName → Option Value) × (Str → Option Value) × (Str → Option Value) × (Value → Shared → Prop) × (Value → Shared → Prop) × Addr × Addr × Addr × Nat × Nat × Str × Str × Str × Str × Str × Tok × Tok × Tok × Tok × Tok × Value × Value × Value × Value × Value) : Prop := prog_spec_P p.1 p.2.1 p.2.2.1 p.2.2.2.1 p.2.2.2.2.1 p.2.2.2.2.2.1 p.2.2.2.2.2.2.1 p.2.2.2.2.2.2.2.1 p.2.2.2.2.2.2.2.2.1 p.2.2.2.2.2.2.2.2.2.1 p.2.2.2.2.2.2.2.2.2.2.1 p.2.2.2.2.2.2.2.2.2.2.2.1 p.2.2.2.2.2.2.2.2.2.2.2.2.1 p.2.2.2.2.2.2.2.2.2.2.2.2.2.1 p.2.2.2.2.2.2.2.2.2.2.2.2.2.2.1 p.2.2.2.2.2.2.2.2.2.2.2.2.2.2.2.1 p.2.2.2.2.2.2.2.2.2.2.2.2.2.2.2.2.1 p.2.2.2.2.2.2.2.2.2.2.2.2.2.2.2.2.2.1 p.2.2.2.2.2.2.2.2.2.2.2.2.2.2.2.2.2.2.1 p.2.2.2.2.2.2.2.2.2.2.2.2.2.2.2.2.2.2.2.1 p.2.2.2.2.2.2.2.2.2.2.2.2.2.2.2.2.2.2.2.2.1 p.2.2.2.2.2.2.2.2.2.2.2.2.2.2.2.2.2.2.2.2.2.1 p.2.2.2.2.2.2.2.2.2.2.2.2.2.2.2.2.2.2.2.2.2.2.1 p.2.2.2.2.2.2.2.2.2.2.2.2.2.2.2.2.2.2.2.2.2.2.2.1 p.2.2.2.2.2.2.2.2.2.2.2.2.2.2.2.2.2.2.2.2.2.2.2.2.1 p.2.2.2.2.2.2.2.2.2.2.2.2.2.2.2.2.2.2.2.2.2.2.2.2.2.1 p.2.2.2.2.2.2.2.2.2.2.2.2.2.2.2.2.2.2.2.2.2.2.2.2.2.2.1 p.2.2.2.2.2.2.2.2.2.2.2.2.2.2.2.2.2.2.2.2.2.2.2.2.2.2.2.1 p.2.2.2.2.2.2.2.2.2.2.2.2.2.2.2.2.2.2.2.2.2.2.2.2.2.2.2.2.1 p.2.2.2.2.2.2.2.2.2.2.2.2.2.2.2.2.2.2.2.2.2.2.2.2.2.2.2.2.2.1 p.2.2.2.2.2.2.2.2.2.2.2.2.2.2.2.2.2.2.2.2.2.2.2.2.2.2.2.2.2.2.1 p.2.2.2.2.2.2.2.2.2.2.2.2.2.2.2.2.2.2.2.2.2.2.2.2.2.2.2.2.2.2.2.1 p.2.2.2.2.2.2.2.2.2.2.2.2.2.2.2.2.2.2.2.2.2.2.2.2.2.2.2.2.2.2.2.2.1 p.2.2.2.2.2.2.2.2.2.2.2.2.2.2.2.2.2.2.2.2.2.2.2.2.2.2.2.2.2.2.2.2.2
noncomputable def prog_spec_c : Program × World × Shared × Heap × Heap × (List Env) × (Option (List Code)) × Program × (List Str) × (ExcName → Option Value) × (Str → Option Value) × (Str → Option Value) × (Value → Shared → Prop) × (Value → Shared → Prop) × Addr × Addr × Addr × Nat × Nat × Str × Str × Str × Str × Str × Tok × Tok × Tok × Tok × Tok × Value × Value × Value × Value × Value := pick (neP inferInstance (neP neW (neP neS (neP inferInstance (neP inferInstance (neP inferInstance (neP inferInstance (neP inferInstance (neP inferInstance (neP inferInstance (neP inferInstance (neP inferInstance (neP inferInstance (neP inferInstance (neP inferInstance (neP inferInstance (neP inferInstance (neP inferInstance (neP inferInstance (neP inferInstance (neP inferInstance (neP inferInstance (neP inferInstance (neP inferInstance (neP inferInstance (neP inferInstance (neP inferInstance (neP inferInstance (neP inferInstance (neP inferInstance (neP inferInstance (neP inferInstance (neP inferInstance inferInstance))))))))))))))))))))))))))))))))) prog_spec_R
set_option maxHeartbeats 8000000 in
set_option pp.deepTerms false in
set_option pp.deepTerms.threshold 8 in
set_option pp.maxSteps 6000 in
theorem prog_spec_core : prog_spec_R prog_spec_c := ((by
  intro prog w s base g fr gd p loose mean mg mb Q E ar ab xb er eb r0 r1 r2 r3 r4 t0 t1 t2 t3 t4 v0 v1 v2 v3 v4 S C h158 hr0 hr1 hr2 hr3 hr4 hret
  refine wpAny_call ?_
  k_dflt (refine' enterCC ?kS ?k6 ?k7 ?k8 ?k9 ?kB ?kD ?_ ?c2 ?c3 ?c4; (case kS => assumption); (case k6 => k_is); (case k7 => k_is); (case k8 => exact Nat.le_of_ble_eq_true rfl); (case k9 => exact BindsTo.of_eq rfl); (case kB => exact rfl); (case kD => decide +kernel); (case c2 => exact rfl); (case c3 => exact rfl); (case c4 => exact rfl); k_whole; intro zzL' zzh' zztk' zzcells' zzB' zzX' zzT' zzF' zzN' zzY' zzl1; (try k_lt zzl1); k_cells zzY'; (try simp only [List.cons_append, List.nil_append] at zzN'); (try dsimp only); (try k_fold))
  repeat' (first | (k_unfold; (try dsimp only)) | (k_end; wrow_close) | ((fail_if_success (with_reducible show CompRest _ _ _ _ _ _ _ _ _ _ _ _ _ _ _ _ _ _ _)); (first | ((with_reducible show wpAny _ _ (call (Value.builtin _) _) _ _ _); first | (k_here; (with_reducible show wpAny _ _ (call (Value.builtin "str.join") [Value.str _ _, Value.ref _]) _ _ _); refine join_list (News.isList (by k_asm) (by k_mem)) (.cons _ _ (.cons _ _ (.cons _ _ (.cons _ _ (.cons _ _ .nil))))) (join5 (by assumption) (by assumption) (by assumption) (by assumption) (by assumption)) ?_; intro _ _)) | ((with_reducible show wpAny _ _ (call (Value.ref _) _) _ _ _); first | with_reducible (k_here; k_dflt (refine' ws_useC ?B ?F ?X ?T ?N ?l ?d ?u ?f ?e ?_; (case B => k_asm); (case F => k_asm); (case X => k_asm); (case T => k_asm); (case N => k_asm); (case l => assumption); (case d => exact Nat.le_of_ble_eq_true rfl); (case u => exact Nat.le_of_ble_eq_true rfl); (case f => exact rfl); (case e => exact rfl); k_whole); intro zzx' zzch' zzh' zztk' zzF' zzN' zzW' zzl1; (try dsimp only); (try k_sweep); (try k_fold))) | ((with_reducible show wpAny _ _ (setAttr (Value.ref _) _ _) _ _ _); first | with_reducible (k_here; k_dflt (refine' set_fnK ?F ?N ?U ?l ?_; (case F => k_asm); (case N => k_asm); (case U => k_updF); (case l => first | exact FF.look_span | exact FF.look_search); k_whole); intro zzd' zzhsh' zzt' zzh' zztk' zzF' zzN' zzl1; (try dsimp only at zzN'); (try k_lt zzl1); (try k_sweep))) | walk1)) | ((fail_if_success (with_reducible show CompRest _ _ _ _ _ _ _ _ _ _ _ _ _ _ _ _ _ _ _));dsimp only; (first | ((with_reducible show wpAny _ _ (call (Value.builtin _) _) _ _ _); first | (k_here; (with_reducible show wpAny _ _ (call (Value.builtin "str.join") [Value.str _ _, Value.ref _]) _ _ _); refine join_list (News.isList (by k_asm) (by k_mem)) (.cons _ _ (.cons _ _ (.cons _ _ (.cons _ _ (.cons _ _ .nil))))) (join5 (by assumption) (by assumption) (by assumption) (by assumption) (by assumption)) ?_; intro _ _)) | ((with_reducible show wpAny _ _ (call (Value.ref _) _) _ _ _); first | with_reducible (k_here; k_dflt (refine' ws_useC ?B ?F ?X ?T ?N ?l ?d ?u ?f ?e ?_; (case B => k_asm); (case F => k_asm); (case X => k_asm); (case T => k_asm); (case N => k_asm); (case l => assumption); (case d => exact Nat.le_of_ble_eq_true rfl); (case u => exact Nat.le_of_ble_eq_true rfl); (case f => exact rfl); (case e => exact rfl); k_whole); intro zzx' zzch' zzh' zztk' zzF' zzN' zzW' zzl1; (try dsimp only); (try k_sweep); (try k_fold))) | ((with_reducible show wpAny _ _ (setAttr (Value.ref _) _ _) _ _ _); first | with_reducible (k_here; k_dflt (refine' set_fnK ?F ?N ?U ?l ?_; (case F => k_asm); (case N => k_asm); (case U => k_updF); (case l => first | exact FF.look_span | exact FF.look_search); k_whole); intro zzd' zzhsh' zzt' zzh' zztk' zzF' zzN' zzl1; (try dsimp only at zzN'); (try k_lt zzl1); (try k_sweep))) | walk1)) | (leave1; walk_say "STEP leave1"; try dsimp only) | fail "no step")
  walk_at "CompRest"
  · intro i v I oI C oC D ys news m2 h9 tk9 E9 Q9 hP hC hx F9 N9 hret
    have hv : ∃ r t, v = .str r t ∧ r.length ≤ 50 := by
      have hmem := Array.mem_of_getElem? hP
      simp only [List.mem_toArray, List.mem_cons, List.not_mem_nil, or_false] at hmem
      rcases hmem with rfl | rfl | rfl | rfl | rfl
      · exact ⟨_, _, rfl, hr0⟩
      · exact ⟨_, _, rfl, hr1⟩
      · exact ⟨_, _, rfl, hr2⟩
      · exact ⟨_, _, rfl, hr3⟩
      · exact ⟨_, _, rfl, hr4⟩
    obtain ⟨r, t, rfl, hl⟩ := hv
    repeat' (first | (k_unfold; (try dsimp only)) | (k_end; wrow_close) | (first | ((with_reducible show wpAny _ _ (call (Value.builtin _) _) _ _ _); first | (k_here; (with_reducible show wpAny _ _ (call (Value.builtin "str.join") [Value.str _ _, Value.ref _]) _ _ _); refine join_list (News.isList (by k_asm) (by k_mem)) (.cons _ _ (.cons _ _ (.cons _ _ (.cons _ _ (.cons _ _ .nil))))) (join5 (by assumption) (by assumption) (by assumption) (by assumption) (by assumption)) ?_; intro _ _)) | ((with_reducible show wpAny _ _ (call (Value.ref _) _) _ _ _); first | with_reducible (k_here; k_dflt (refine' ws_useC ?B ?F ?X ?T ?N ?l ?d ?u ?f ?e ?_; (case B => k_asm); (case F => k_asm); (case X => k_asm); (case T => k_asm); (case N => k_asm); (case l => assumption); (case d => exact Nat.le_of_ble_eq_true rfl); (case u => exact Nat.le_of_ble_eq_true rfl); (case f => exact rfl); (case e => exact rfl); k_whole); intro zzx' zzch' zzh' zztk' zzF' zzN' zzW' zzl1; (try dsimp only); (try k_sweep); (try k_fold))) | ((with_reducible show wpAny _ _ (setAttr (Value.ref _) _ _) _ _ _); first | with_reducible (k_here; k_dflt (refine' set_fnK ?F ?N ?U ?l ?_; (case F => k_asm); (case N => k_asm); (case U => k_updF); (case l => first | exact FF.look_span | exact FF.look_search); k_whole); intro zzd' zzhsh' zzt' zzh' zztk' zzF' zzN' zzl1; (try dsimp only at zzN'); (try k_lt zzl1); (try k_sweep))) | walk1) | (dsimp only; (first | ((with_reducible show wpAny _ _ (call (Value.builtin _) _) _ _ _); first | (k_here; (with_reducible show wpAny _ _ (call (Value.builtin "str.join") [Value.str _ _, Value.ref _]) _ _ _); refine join_list (News.isList (by k_asm) (by k_mem)) (.cons _ _ (.cons _ _ (.cons _ _ (.cons _ _ (.cons _ _ .nil))))) (join5 (by assumption) (by assumption) (by assumption) (by assumption) (by assumption)) ?_; intro _ _)) | ((with_reducible show wpAny _ _ (call (Value.ref _) _) _ _ _); first | with_reducible (k_here; k_dflt (refine' ws_useC ?B ?F ?X ?T ?N ?l ?d ?u ?f ?e ?_; (case B => k_asm); (case F => k_asm); (case X => k_asm); (case T => k_asm); (case N => k_asm); (case l => assumption); (case d => exact Nat.le_of_ble_eq_true rfl); (case u => exact Nat.le_of_ble_eq_true rfl); (case f => exact rfl); (case e => exact rfl); k_whole); intro zzx' zzch' zzh' zztk' zzF' zzN' zzW' zzl1; (try dsimp only); (try k_sweep); (try k_fold))) | ((with_reducible show wpAny _ _ (setAttr (Value.ref _) _ _) _ _ _); first | with_reducible (k_here; k_dflt (refine' set_fnK ?F ?N ?U ?l ?_; (case F => k_asm); (case N => k_asm); (case U => k_updF); (case l => first | exact FF.look_span | exact FF.look_search); k_whole); intro zzd' zzhsh' zzt' zzh' zztk' zzF' zzN' zzl1; (try dsimp only at zzN'); (try k_lt zzl1); (try k_sweep))) | walk1)) | (leave1; walk_say "STEP leave1"; try dsimp only) | fail "no step")
    exact hret _ _ _ _ (by assumption) (by assumption) (by assumption) ⟨_, _, _, hP, rfl, by assumption⟩
  · intro zs ch hz hch hlt
    repeat' (first | (k_unfold; (try dsimp only)) | (k_end; wrow_close) | (first | ((with_reducible show wpAny _ _ (call (Value.builtin _) _) _ _ _); first | (k_here; (with_reducible show wpAny _ _ (call (Value.builtin "str.join") [Value.str _ _, Value.ref _]) _ _ _); refine join_list (News.isList (by k_asm) (by k_mem)) (.cons _ _ (.cons _ _ (.cons _ _ (.cons _ _ (.cons _ _ .nil))))) (join5 (by assumption) (by assumption) (by assumption) (by assumption) (by assumption)) ?_; intro _ _)) | ((with_reducible show wpAny _ _ (call (Value.ref _) _) _ _ _); first | with_reducible (k_here; k_dflt (refine' ws_useC ?B ?F ?X ?T ?N ?l ?d ?u ?f ?e ?_; (case B => k_asm); (case F => k_asm); (case X => k_asm); (case T => k_asm); (case N => k_asm); (case l => assumption); (case d => exact Nat.le_of_ble_eq_true rfl); (case u => exact Nat.le_of_ble_eq_true rfl); (case f => exact rfl); (case e => exact rfl); k_whole); intro zzx' zzch' zzh' zztk' zzF' zzN' zzW' zzl1; (try dsimp only); (try k_sweep); (try k_fold))) | ((with_reducible show wpAny _ _ (setAttr (Value.ref _) _ _) _ _ _); first | with_reducible (k_here; k_dflt (refine' set_fnK ?F ?N ?U ?l ?_; (case F => k_asm); (case N => k_asm); (case U => k_updF); (case l => first | exact FF.look_span | exact FF.look_search); k_whole); intro zzd' zzhsh' zzt' zzh' zztk' zzF' zzN' zzl1; (try dsimp only at zzN'); (try k_lt zzl1); (try k_sweep))) | walk1) | (dsimp only; (first | ((with_reducible show wpAny _ _ (call (Value.builtin _) _) _ _ _); first | (k_here; (with_reducible show wpAny _ _ (call (Value.builtin "str.join") [Value.str _ _, Value.ref _]) _ _ _); refine join_list (News.isList (by k_asm) (by k_mem)) (.cons _ _ (.cons _ _ (.cons _ _ (.cons _ _ (.cons _ _ .nil))))) (join5 (by assumption) (by assumption) (by assumption) (by assumption) (by assumption)) ?_; intro _ _)) | ((with_reducible show wpAny _ _ (call (Value.ref _) _) _ _ _); first | with_reducible (k_here; k_dflt (refine' ws_useC ?B ?F ?X ?T ?N ?l ?d ?u ?f ?e ?_; (case B => k_asm); (case F => k_asm); (case X => k_asm); (case T => k_asm); (case N => k_asm); (case l => assumption); (case d => exact Nat.le_of_ble_eq_true rfl); (case u => exact Nat.le_of_ble_eq_true rfl); (case f => exact rfl); (case e => exact rfl); k_whole); intro zzx' zzch' zzh' zztk' zzF' zzN' zzW' zzl1; (try dsimp only); (try k_sweep); (try k_fold))) | ((with_reducible show wpAny _ _ (setAttr (Value.ref _) _ _) _ _ _); first | with_reducible (k_here; k_dflt (refine' set_fnK ?F ?N ?U ?l ?_; (case F => k_asm); (case N => k_asm); (case U => k_updF); (case l => first | exact FF.look_span | exact FF.look_search); k_whole); intro zzd' zzhsh' zzt' zzh' zztk' zzF' zzN' zzl1; (try dsimp only at zzN'); (try k_lt zzl1); (try k_sweep))) | walk1)) | (leave1; walk_say "STEP leave1"; try dsimp only) | fail "no step")
    rename Fr _ _ _ _ => F9
    rename News _ _ _ _ => N9
    rename Off1 _ _ => O9
    have hW := chok_ws hch
    clear hch
    have N8 := cb_drop (news := _ :: (_ ++ ch)) N9 (fun q hq => by
      rcases List.mem_cons.mp hq with rfl | hq
      · exact .head _
      · rcases List.mem_append.mp hq with hq | hq
        · exact .tail _ (List.mem_append_right _ hq)
        · exact .tail _ (List.mem_append_left _ hq))
    simp only [List.cons_append, List.nil_append] at N8
    clear N9
    have hall := ne_all hlt
    simp only [List.forall_mem_cons] at hall
    obtain ⟨a1, a2, a3, a4, a5, a6, a7, _⟩ := hall
    clear hlt
    have O8 := off1_right O9
    have O7 := off1_left O9
    simp only [Off1, and_true] at O8
    clear O9
    obtain ⟨o1, o2, o3, o4, o5, o6, o7⟩ := O8
    have p1 := Ne.symm o1; have p2 := Ne.symm o2; have p3 := Ne.symm o3; have p4 := Ne.symm o4; have p5 := Ne.symm o5; have p6 := Ne.symm o6; have p7 := Ne.symm o7
    have h158' := Ne.symm h158
    repeat' (first | (k_unfold; (try dsimp only)) | (k_end; wrow_close) | (first | ((with_reducible show wpAny _ _ (call (Value.builtin _) _) _ _ _); first | (k_here; (with_reducible show wpAny _ _ (call (Value.builtin "str.join") [Value.str _ _, Value.ref _]) _ _ _); refine join_list (News.isList (by k_asm) (by k_mem)) (.cons _ _ (.cons _ _ (.cons _ _ (.cons _ _ (.cons _ _ .nil))))) (join5 (by assumption) (by assumption) (by assumption) (by assumption) (by assumption)) ?_; intro _ _)) | ((with_reducible show wpAny _ _ (call (Value.ref _) _) _ _ _); first | with_reducible (k_here; k_dflt (refine' ws_useC ?B ?F ?X ?T ?N ?l ?d ?u ?f ?e ?_; (case B => k_asm); (case F => k_asm); (case X => k_asm); (case T => k_asm); (case N => k_asm); (case l => assumption); (case d => exact Nat.le_of_ble_eq_true rfl); (case u => exact Nat.le_of_ble_eq_true rfl); (case f => exact rfl); (case e => exact rfl); k_whole); intro zzx' zzch' zzh' zztk' zzF' zzN' zzW' zzl1; (try dsimp only); (try k_sweep); (try k_fold))) | ((with_reducible show wpAny _ _ (setAttr (Value.ref _) _ _) _ _ _); first | with_reducible (k_here; k_dflt (refine' set_fnK ?F ?N ?U ?l ?_; (case F => k_asm); (case N => k_asm); (case U => k_updF); (case l => first | exact FF.look_span | exact FF.look_search); k_whole); intro zzd' zzhsh' zzt' zzh' zztk' zzF' zzN' zzl1; (try dsimp only at zzN'); (try k_lt zzl1); (try k_sweep))) | walk1) | (dsimp only; (first | ((with_reducible show wpAny _ _ (call (Value.builtin _) _) _ _ _); first | (k_here; (with_reducible show wpAny _ _ (call (Value.builtin "str.join") [Value.str _ _, Value.ref _]) _ _ _); refine join_list (News.isList (by k_asm) (by k_mem)) (.cons _ _ (.cons _ _ (.cons _ _ (.cons _ _ (.cons _ _ .nil))))) (join5 (by assumption) (by assumption) (by assumption) (by assumption) (by assumption)) ?_; intro _ _)) | ((with_reducible show wpAny _ _ (call (Value.ref _) _) _ _ _); first | with_reducible (k_here; k_dflt (refine' ws_useC ?B ?F ?X ?T ?N ?l ?d ?u ?f ?e ?_; (case B => k_asm); (case F => k_asm); (case X => k_asm); (case T => k_asm); (case N => k_asm); (case l => assumption); (case d => exact Nat.le_of_ble_eq_true rfl); (case u => exact Nat.le_of_ble_eq_true rfl); (case f => exact rfl); (case e => exact rfl); k_whole); intro zzx' zzch' zzh' zztk' zzF' zzN' zzW' zzl1; (try dsimp only); (try k_sweep); (try k_fold))) | ((with_reducible show wpAny _ _ (setAttr (Value.ref _) _ _) _ _ _); first | with_reducible (k_here; k_dflt (refine' set_fnK ?F ?N ?U ?l ?_; (case F => k_asm); (case N => k_asm); (case U => k_updF); (case l => first | exact FF.look_span | exact FF.look_search); k_whole); intro zzd' zzhsh' zzt' zzh' zztk' zzF' zzN' zzl1; (try dsimp only at zzN'); (try k_lt zzl1); (try k_sweep))) | walk1)) | (leave1; walk_say "STEP leave1"; try dsimp only) | fail "no step")
    rename_i l9 m9 h9 F9 N9
    have a9 := ne_lt (allLt_get l9) m9
    repeat' (first | (k_unfold; (try dsimp only)) | (k_end; wrow_close) | (first | ((with_reducible show wpAny _ _ (call (Value.builtin _) _) _ _ _); first | (k_here; (with_reducible show wpAny _ _ (call (Value.builtin "str.join") [Value.str _ _, Value.ref _]) _ _ _); refine join_list (News.isList (by k_asm) (by k_mem)) (.cons _ _ (.cons _ _ (.cons _ _ (.cons _ _ (.cons _ _ .nil))))) (join5 (by assumption) (by assumption) (by assumption) (by assumption) (by assumption)) ?_; intro _ _)) | ((with_reducible show wpAny _ _ (call (Value.ref _) _) _ _ _); first | with_reducible (k_here; k_dflt (refine' ws_useC ?B ?F ?X ?T ?N ?l ?d ?u ?f ?e ?_; (case B => k_asm); (case F => k_asm); (case X => k_asm); (case T => k_asm); (case N => k_asm); (case l => assumption); (case d => exact Nat.le_of_ble_eq_true rfl); (case u => exact Nat.le_of_ble_eq_true rfl); (case f => exact rfl); (case e => exact rfl); k_whole); intro zzx' zzch' zzh' zztk' zzF' zzN' zzW' zzl1; (try dsimp only); (try k_sweep); (try k_fold))) | ((with_reducible show wpAny _ _ (setAttr (Value.ref _) _ _) _ _ _); first | with_reducible (k_here; k_dflt (refine' set_fnK ?F ?N ?U ?l ?_; (case F => k_asm); (case N => k_asm); (case U => k_updF); (case l => first | exact FF.look_span | exact FF.look_search); k_whole); intro zzd' zzhsh' zzt' zzh' zztk' zzF' zzN' zzl1; (try dsimp only at zzN'); (try k_lt zzl1); (try k_sweep))) | walk1) | (dsimp only; (first | ((with_reducible show wpAny _ _ (call (Value.builtin _) _) _ _ _); first | (k_here; (with_reducible show wpAny _ _ (call (Value.builtin "str.join") [Value.str _ _, Value.ref _]) _ _ _); refine join_list (News.isList (by k_asm) (by k_mem)) (.cons _ _ (.cons _ _ (.cons _ _ (.cons _ _ (.cons _ _ .nil))))) (join5 (by assumption) (by assumption) (by assumption) (by assumption) (by assumption)) ?_; intro _ _)) | ((with_reducible show wpAny _ _ (call (Value.ref _) _) _ _ _); first | with_reducible (k_here; k_dflt (refine' ws_useC ?B ?F ?X ?T ?N ?l ?d ?u ?f ?e ?_; (case B => k_asm); (case F => k_asm); (case X => k_asm); (case T => k_asm); (case N => k_asm); (case l => assumption); (case d => exact Nat.le_of_ble_eq_true rfl); (case u => exact Nat.le_of_ble_eq_true rfl); (case f => exact rfl); (case e => exact rfl); k_whole); intro zzx' zzch' zzh' zztk' zzF' zzN' zzW' zzl1; (try dsimp only); (try k_sweep); (try k_fold))) | ((with_reducible show wpAny _ _ (setAttr (Value.ref _) _ _) _ _ _); first | with_reducible (k_here; k_dflt (refine' set_fnK ?F ?N ?U ?l ?_; (case F => k_asm); (case N => k_asm); (case U => k_updF); (case l => first | exact FF.look_span | exact FF.look_search); k_whole); intro zzd' zzhsh' zzt' zzh' zztk' zzF' zzN' zzl1; (try dsimp only at zzN'); (try k_lt zzl1); (try k_sweep))) | walk1)) | (leave1; walk_say "STEP leave1"; try dsimp only) | fail "no step")
    change Q (Value.ref _) _
    rename Fr _ _ _ _ => F9
    rename News _ _ _ _ => N9
    refine hret _ _ _ _ ?_ (fun q hq => ⟨(N9 q hq).1, fun n1 n2 => S.freshN N9 hq ?_⟩) ⟨_, by k_mem⟩ ?_
    · intro b o hb e
      rcases S.sup b o e with q | q
      · exact F9.keep b o q
      · rcases List.mem_cons.mp q with q | q
        · cases q
          exact absurd rfl hb
        · cases List.mem_singleton.mp q
          exact N9.get (by k_mem)
    · intro z hz
      rcases List.mem_cons.mp hz with rfl | hz
      · exact Ne.symm n1
      · rw [List.mem_singleton.mp hz]
        exact Ne.symm n2
    · intro led' D bes bs eb2 hsub mb2 WB lb2 hD5 hD
      have hch := sub_off (ch := ch) hsub a6 (by walk_at "M sub")
      refine ⟨_, _, _, _, _, _, _, hsub (_, _) (by k_mem) (by k_ne), hsub (_, _) (.head _) (by k_ne), ?_⟩
      refine SeAt.mk' (vs := [Value.str r0 t0, Value.str r1 t1, Value.str r2 t2, Value.str r3 t3, Value.str r4 t4]) (ls := zs) (bs := bs) (ar := ar) ?f1 (hsub (_, _) (by k_mem) (by k_ne)) (hsub (_, _) (by k_mem) (by k_ne)) ⟨_, _, by assumption, by assumption⟩ (hsub (_, _) (by k_mem) (by k_ne)) (hsub (_, _) (by k_mem) (by k_ne)) (by k_dflt k_asm) (hsub (_, _) (by k_mem) (by k_ne)) (by k_dflt k_asm) (hsub (_, _) (by k_mem) (by k_ne)) (by k_dflt k_asm) (hsub (_, _) (by k_mem) (by k_ne)) (by k_dflt k_asm) (hsub (_, _) (by k_mem) (by k_ne)) (by k_dflt k_asm) (hsub (ar, _) (by k_mem) (by k_ne)) mb2 (hsub (_, _) (by k_mem) (by k_ne)) rfl hD5 ?f2 WB lb2 ?f3
      case f1 =>
        refine' sDef_of ?kx
        case kx => k_is
      case f2 =>
        intro k d hd
        obtain ⟨ok, t, tb, e1, e2⟩ := hD k d hd
        refine ⟨ok, t, tb, ?_⟩
        have hk : k < zs.length := by
          have h1 := (List.getElem?_eq_some_iff.mp hd).1
          have hz' : zs.length = 5 := hz
          rw [hz']
          rw [hD5] at h1
          exact h1
        obtain ⟨x, r, t', ez, hp, W⟩ := hW k _ (List.getElem?_eq_getElem hk)
        refine ⟨x, e1, e2, (List.getElem?_eq_getElem hk).trans (congrArg some ez), ?_⟩
        have hp' : [Value.str r0 t0, Value.str r1 t1, Value.str r2 t2, Value.str r3 t3, Value.str r4 t4][k]? = some (Value.str r t') := by
          rw [Nat.zero_add] at hp
          simpa using hp
        rw [e1] at hp'
        cases hp'
        exact W.mono hch
      case f3 =>
        have e : (Str.ofString "\n").length = 1 := by decide
        have q := StrLaws.join_length_le (Str.ofString "\n") [r0, r1, r2, r3, r4]
        simp only [List.map_cons, List.map_nil, List.sum_cons, List.sum_nil, List.length_cons, List.length_nil, e] at q
        unfold Txt.join
        rw [StrLaws.glued_eq_join]
        omega) : ∀ (prog : Program) (w : World) (s : Shared) (base : Heap) (g : Heap) (fr : List Env) (gd : Option (List Code)) (p : Program) (loose : List Str) (mean : ExcName → Option Value) (mg : Str → Option Value) (mb : Str → Option Value) (Q : Value → Shared → Prop) (E : Value → Shared → Prop) (ar : Addr) (ab : Addr) (xb : Addr) (er : Nat) (eb : Nat) (r0 : Str) (r1 : Str) (r2 : Str) (r3 : Str) (r4 : Str) (t0 : Tok) (t1 : Tok) (t2 : Tok) (t3 : Tok) (t4 : Tok) (v0 : Value) (v1 : Value) (v2 : Value) (v3 : Value) (v4 : Value), prog_spec_P prog w s base g fr gd p loose mean mg mb Q E ar ab xb er eb r0 r1 r2 r3 r4 t0 t1 t2 t3 t4 v0 v1 v2 v3 v4) _ _ _ _ _ _ _ _ _ _ _ _ _ _ _ _ _ _ _ _ _ _ _ _ _ _ _ _ _ _ _ _ _ _
theorem prog_spec {Q E : Value → Shared → Prop} {ar ab xb : Addr} {er eb : Nat} {r0 r1 r2 r3 r4 : Str} {t0 t1 t2 t3 t4 : Tok} {v0 v1 v2 v3 v4 : Value}
    (S : Std (AT 500 1000 fr gd) base fr g (Mine.hd.heap_1 w.params) p loose mean mg mb s.heap [(158, tabObj #[]), (ar, W.listOf #[.str r0 t0, .str r1 t1, .str r2 t2, .str r3 t3, .str r4 t4] er)])
    (C : CodeHd g 160 158) (h158 : @Ne Nat 158 ar) (hr0 : r0.length ≤ 50) (hr1 : r1.length ≤ 50) (hr2 : r2.length ≤ 50) (hr3 : r3.length ≤ 50) (hr4 : r4.length ≤ 50)
    (hret : ∀ (f : Addr) (chP : List (Addr × Obj)) (h' : Heap) (tk' : Nat), (∀ b o, b ≠ 158 → s.heap.get? b = some o → h'.get? b = some o) → (∀ q ∈ chP, h'.get? q.1 = some q.2 ∧ (q.1 ≠ 158 → q.1 ≠ ar → s.heap.get? q.1 = none)) → (∃ ps, (158, tabObj ps) ∈ chP) →
      (∀ (led' : List (Addr × Obj)) (D : List RowD) (bes : Str) (bs : List Value) (eb2 : Nat), (∀ q ∈ chP, q.1 ≠ 158 → q ∈ led') → (ab, W.listOf bs.toArray eb2) ∈ led' → WsAt led' xb bes → bes.length ≤ 50 → D.length = 5 → (∀ (k : Nat) (d : RowD), D[k]? = some d → RowOk d ∧ ∃ t tb, [Value.str r0 t0, Value.str r1 t1, Value.str r2 t2, Value.str r3 t3, Value.str r4 t4][k]? = some (Value.str d.raw t) ∧ bs[k]? = some (Value.int d.beg tb)) →
        PrAt w led' f D bes (Txt.join (Str.ofString "\n") [r0, r1, r2, r3, r4])) → Q (.ref f) { s with heap := h', toks := tk' }) :
    wpAny (model prog w) (AT 500 1000 fr gd) (call (.ref 161) [.ref ar, .ref ab, .ref xb]) Q E s :=
  (show prog_spec_P prog w s base g fr gd p loose mean mg mb Q E ar ab xb er eb r0 r1 r2 r3 r4 t0 t1 t2 t3 t4 v0 v1 v2 v3 v4 from close1 (R := prog_spec_R) _ prog_spec_core (prog, w, s, base, g, fr, gd, p, loose, mean, mg, mb, Q, E, ar, ab, xb, er, eb, r0, r1, r2, r3, r4, t0, t1, t2, t3, t4, v0, v1, v2, v3, v4)) S C h158 hr0 hr1 hr2 hr3 hr4 hret
end

section
open PySem PySem.W PyProof.Rows PySem.Calls PyProof.Rows.LCg
set_option maxRecDepth 100000
/-- the state between the turns of a loop whose target is a tuple of names (all of them in `stored`) -/
noncomputable def GT {σ : Type} (Led : σ → List (Addr × Obj)) (ps : σ → List (Str × Value)) (stored : List Str) (m₀ : Str → Option Value) (P : Nat → σ → Prop) (i : Nat) (m : Str → Option Value) (nx : List (Addr × Obj)) : Prop :=
  ∃ c : σ, nx = Led c ∧ (∀ p ∈ ps c, m p.1 = some p.2) ∧ (∀ z, (∀ p ∈ ps c, z ≠ p.1) → stored.contains z = false → m z = m₀ z) ∧ P i c
theorem t_fr {h₀ h : Heap} {L : Addr} {ps : List (Str × Value)} {stored : List Str} {m₀ m₁ : Str → Option Value} (h1 : ∀ p ∈ ps, m₁ p.1 = some p.2) (h2 : ∀ z, (∀ p ∈ ps, z ≠ p.1) → stored.contains z = false → m₁ z = m₀ z) (F : Fr h₀ L h m₁) :
    Fr h₀ L h (kstB (fun z => if stored.contains z then m₁ z else m₀ z) ps) := by
  have em : kstB (fun z => if stored.contains z then m₁ z else m₀ z) ps = m₁ := by
    funext z
    refine kstB_eq h1 fun h3 => ?_
    by_cases hs : stored.contains z = true
    · rw [if_pos hs]
    · rw [if_neg hs, h2 z h3 (by simpa using hs)]
  rw [em]
  exact F
section
variable {prog : Program} {w : World} {A : Around} {E : Value → Shared → Prop} {s : Shared} {env : Env} {h₀ : Heap} {elts : List Expr} {kk : Nat} {tp : Pos} {body : List Stmt} {Q : Flow → Shared → Prop}
theorem t_end {σ : Type} {Led : σ → List (Addr × Obj)} {ps : σ → List (Str × Value)} {stored : List Str} {m₀ : Str → Option Value} {P : Nat → σ → Prop} {i : Nat} (c : σ) {L : Addr} {m' : Str → Option Value} {own news' : List (Addr × Obj)} {s₁ : Shared} {h' : Heap} {tk : Nat}
    (F : Fr h₀ L h' m') (N : News h₀ L h' news') (hn : ∀ p ∈ Led c, p ∈ news') (ho : ∀ p ∈ own, p ∈ news') (ha : ∀ p ∈ own, ∀ q ∈ Led c, p.1 ≠ q.1) (hk : ∀ p ∈ ps c, m' p.1 = some p.2) (hr : ∀ z, (∀ p ∈ ps c, z ≠ p.1) → stored.contains z = false → m' z = m₀ z) (hp : P i c) :
    InvEndG h₀ L (GT Led ps stored m₀ P i) own s₁ { s₁ with heap := h', toks := tk } :=
  InvEndG.intro F N ⟨c, rfl, hk, hr, hp⟩ (fun p hp b hb => by obtain ⟨q, hq, rfl⟩ := List.mem_map.mp hb; exact ha p hp q hq) hn ho
/-- the statement of t_list over its data -/
noncomputable def t_list_P (prog : Program) (w : World) (A : Around) (E : Value → Shared → Prop) (s : Shared) (env : Env) (h₀ : Heap) (elts : List Expr) (kk : Nat) (tp : Pos) (body : List Stmt) (Q : Flow → Shared → Prop) (l : Addr) (vs : List Value) (nn : Nat) (m₀ : Str → Option Value) (news : List (Addr × Obj)) : Prop :=
  ∀ (σ : Type) (Led : σ → List (Addr × Obj)) (ps : σ → List (Str × Value)) (stored : List Str) (P : Nat → σ → Prop) (c₀ : σ) (hh : A.handled = none) (hl : ∀ c, (l, listOf vs.toArray nn) ∈ Led c) (href : ∀ (i : Nat) v, vs[i]? = some v → ∃ T, v = .ref T) (F : Fr h₀ env.locals s.heap m₀) (N : News h₀ env.locals s.heap news) (hn : ∀ p ∈ Led c₀, p ∈ news) (hk : ∀ p ∈ ps c₀, m₀ p.1 = some p.2) (hp : P 0 c₀) (turn : ∀ (c : σ) (i : Nat) v (u : Str → Option Value) h tk own, vs[i]? = some v → (∀ p ∈ own, ∀ q ∈ Led c, p.1 ≠ q.1) → (∀ p ∈ own, p.2.cls = .type "list_iterator" ∧ ∃ x y, p.2.data = .fields #[x, .int y 0]) → P i c →
      Fr h₀ env.locals h (kstB (fun z => if stored.contains z then u z else m₀ z) (ps c)) → News h₀ env.locals h (Led c ++ own) →
      wpAny (model prog w) A (assign (.Tuple elts kk tp) env v) (fun _ s₃ => wpAny (model prog w) A (execs body env) (InvPostG h₀ env.locals (GT Led ps stored m₀ P (i + 1)) own { s with heap := h, toks := tk } Q) E s₃) E { s with heap := h, toks := tk }) (done : ∀ (c : σ) (u : Str → Option Value) h tk, P vs.length c → Fr h₀ env.locals h (kstB (fun z => if stored.contains z then u z else m₀ z) (ps c)) → News h₀ env.locals h (Led c) → Q .next { s with heap := h, toks := tk }), wpAny (model prog w) A (pyIter (.ref l)) (fun it s₂ => TurnsAt prog w A h₀ env (.Tuple elts kk tp) body Q E it s₂) E s
noncomputable def t_list_R (p : Program × World × Around × (Value → Shared → Prop) × Shared × Env × Heap × (List Expr) × Nat × Pos × (List Stmt) × (Flow → Shared → Prop) × Addr × (List Value) × Nat × (Str → Option Value) × (List (Addr × Obj))) : Prop := t_list_P p.1 p.2.1 p.2.2.1 p.2.2.2.1 p.2.2.2.2.1 p.2.2.2.2.2.1 p.2.2.2.2.2.2.1 p.2.2.2.2.2.2.2.1 p.2.2.2.2.2.2.2.2.1 p.2.2.2.2.2.2.2.2.2.1 p.2.2.2.2.2.2.2.2.2.2.1 p.2.2.2.2.2.2.2.2.2.2.2.1 p.2.2.2.2.2.2.2.2.2.2.2.2.1 p.2.2.2.2.2.2.2.2.2.2.2.2.2.1 p.2.2.2.2.2.2.2.2.2.2.2.2.2.2.1 p.2.2.2.2.2.2.2.2.2.2.2.2.2.2.2.1 p.2.2.2.2.2.2.2.2.2.2.2.2.2.2.2.2
noncomputable def t_list_c : Program × World × Around × (Value → Shared → Prop) × Shared × Env × Heap × (List Expr) × Nat × Pos × (List Stmt) × (Flow → Shared → Prop) × Addr × (List Value) × Nat × (Str → Option Value) × (List (Addr × Obj)) := pick (neP inferInstance (neP neW (neP neA (neP inferInstance (neP neS (neP inferInstance (neP inferInstance (neP inferInstance (neP inferInstance (neP inferInstance (neP inferInstance (neP inferInstance (neP inferInstance (neP inferInstance (neP inferInstance (neP inferInstance inferInstance)))))))))))))))) t_list_R
theorem t_list_core : t_list_R t_list_c := ((by
  intro prog w A E s env h₀ elts kk tp body Q l vs nn m₀ news σ Led ps stored P c₀ hh hl href F N hn hk hp turn done
  have Nl := N _ (hn _ (hl c₀))
  have hol : s.heap.get? l = some (listOf vs.toArray nn) := Nl.1
  have hls : s.heap.IsList l vs.toArray := ⟨_, hol, rfl, nn, rfl⟩
  have hne : l ≠ s.heap.objs.size := Nat.ne_of_lt (Heap.lt_size hol)
  refine wpAny_pyIter_list hls ?_
  have W := Walks.list (prog := prog) (w := w) hh s.heap.objs.size l hne vs.toArray
  have hlen : vs.toArray.size = vs.length := by simp
  rw [hlen] at W
  have KT : KTurns prog w A (.Tuple elts kk tp) s.heap.objs.size [s.heap.objs.size, l] [s.heap.objs.size] vs.length (fun i v _ => vs.toArray[i]? = some v) (fun i v h => vs.toArray[i]? = some v ∧ h.IsListIter s.heap.objs.size l (i + 1) ∧ h.IsList l vs.toArray) (fun i h => h.IsListIter s.heap.objs.size l i ∧ h.IsList l vs.toArray) :=
    { sub := W.sub, frame := W.frame, done := W.done
      item := fun i s Q E hi st hQ => W.item i s Q E hi st fun v h' tk hP st' hk => hQ v h' tk ⟨hP, st'⟩ hk
      go := fun i v s Q E hm hQ => by
        obtain ⟨hv, st⟩ := hm
        obtain ⟨T, rfl⟩ := href i v (by simpa using hv)
        exact wpAny_letOwnedTupleGo_listiter st.1 (hQ s.heap hv st fun _ _ _ e => e) }
  have hI0 : h₀.get? s.heap.objs.size = none := next_is_new F
  refine ⟨_, _, _, vs.length, _, _, _, m₀, Led c₀, (fun i m nx => GT Led ps stored m₀ P i m nx), rfl, KT, ?_, ?_, ?_, ⟨⟨_, Heap.get?_push_size _ rfl, rfl, rfl⟩, hls.at fun o e => Heap.get?_push_of_some _ e⟩, F.push _, (fun p hp => ⟨Heap.get?_push_of_some _ (N p (hn p hp)).1, (N p (hn p hp)).2⟩), ⟨c₀, rfl, hk, fun _ _ _ => rfl, hp⟩, ?_, ?_⟩
  · intro hm
    rcases List.mem_cons.mp hm with e | hm
    · exact absurd F.ns.lt (e ▸ Nat.lt_irrefl _)
    · exact Nl.2.1 ((List.mem_singleton.mp hm).symm)
  · intro b hb
    rw [List.mem_singleton.mp hb]
    exact hI0
  · intro p hp hI
    exact absurd (Heap.lt_size (N p (hn p hp)).1) ((List.mem_singleton.mp hI) ▸ Nat.lt_irrefl _)
  · rintro i v m₁ news₁ h₁ tk₁ own hin hv ⟨c, rfl, e1, e2, hp'⟩ hoff hown hget hfp hst F₁ N₁
    have hv' : vs[i]? = some v := by simpa using hv
    obtain ⟨⟨oI, hoI, _⟩, _⟩ := id hst
    have hIown : (s.heap.objs.size, oI) ∈ own.filter fun p => decide (p.1 = s.heap.objs.size) := List.mem_filter.mpr ⟨hfp _ (List.mem_cons.mpr (.inl rfl)) hI0 _ hoI, by simp⟩
    have hsep : ∀ p ∈ own.filter fun p => decide (p.1 = s.heap.objs.size), ∀ q ∈ Led c, p.1 ≠ q.1 := by
      intro p hp q hq e
      have h1 : p.1 = s.heap.objs.size := by simpa using (List.mem_filter.mp hp).2
      exact hoff q hq (List.mem_singleton.mpr (e ▸ h1))
    have hown' : ∀ p ∈ own.filter (fun p => decide (p.1 = s.heap.objs.size)), p.2.cls = .type "list_iterator" ∧ ∃ x y, p.2.data = .fields #[x, .int y 0] := by
      intro p hp
      have h1 : p.1 = s.heap.objs.size := by simpa using (List.mem_filter.mp hp).2
      have h2 := hget p (List.mem_filter.mp hp).1
      obtain ⟨⟨oJ, hoJ, hcJ, hdJ⟩, _⟩ := id hst
      rw [h1, hoJ] at h2
      cases h2
      exact ⟨hcJ, _, _, hdJ⟩
    have N₂ : News h₀ env.locals h₁ (Led c ++ own.filter fun p => decide (p.1 = s.heap.objs.size)) := fun p hp => N₁ p ((List.mem_append.mp hp).elim (fun h => List.mem_append.mpr (.inr h)) fun h => List.mem_append.mpr (.inl ((List.mem_filter.mp h).1)))
    have hlo : h₁.get? l = some (listOf vs.toArray nn) := (N₁ _ (List.mem_append.mpr (.inr (hl c)))).1
    refine wpAny_mono (turn c i v m₁ h₁ tk₁ _ hv' hsep hown' hp' (t_fr e1 e2 F₁) N₂) (fun _ s₃ k => wpAny_mono k (fun f s₂ p => ?_) fun _ _ e => e) fun _ _ e => e
    have fin : InvEndG h₀ env.locals (GT Led ps stored m₀ P (i + 1)) (own.filter fun p => decide (p.1 = s.heap.objs.size)) { s with heap := h₁, toks := tk₁ } s₂ →
        LoopStepU h₀ env.locals [s.heap.objs.size] own (fun m nx => GT Led ps stored m₀ P (i + 1) m nx) { s with heap := h₁, toks := tk₁ } .next s₂ := by
      rintro ⟨h', tk, m', news', nx, e, F', N', hn', ho, ha, hm⟩
      have hln : (l, listOf vs.toArray nn) ∈ nx := by
        obtain ⟨c', rfl, _⟩ := hm
        exact hl c'
      refine ⟨rfl, h', tk, m', nx, e, F', fun p hp => ?_, fun p hp hq => ?_, hm⟩
      · rcases List.mem_append.mp hp with h | h
        · by_cases hI : p.1 = s.heap.objs.size
          · exact N' p (ho p (List.mem_filter.mpr ⟨h, by simpa using hI⟩))
          · have h1 : p.1 = l := by
              rcases List.mem_cons.mp (hown p h) with h2 | h2
              · exact absurd h2 hI
              · exact List.mem_singleton.mp h2
            have h2 : h₁.get? p.1 = some p.2 := hget p h
            rw [h1, hlo] at h2
            have h3 : p = (l, listOf vs.toArray nn) := Prod.ext h1 (Option.some.inj h2).symm
            rw [h3]
            exact N' _ (hn' _ hln)
        · exact N' p (hn' p h)
      · exact ha _ hIown p.1 (List.mem_map.mpr ⟨p, hp, rfl⟩) (List.mem_singleton.mp hq).symm
    cases f with
    | ret v => exact p
    | brk => exact p
    | next => exact fin p
    | cont => exact fin p
  · rintro h' tk m' news' F' N' _ ⟨c, rfl, e1, e2, hp'⟩
    exact done c m' h' tk hp' (t_fr e1 e2 F') N') : ∀ (prog : Program) (w : World) (A : Around) (E : Value → Shared → Prop) (s : Shared) (env : Env) (h₀ : Heap) (elts : List Expr) (kk : Nat) (tp : Pos) (body : List Stmt) (Q : Flow → Shared → Prop) (l : Addr) (vs : List Value) (nn : Nat) (m₀ : Str → Option Value) (news : List (Addr × Obj)), t_list_P prog w A E s env h₀ elts kk tp body Q l vs nn m₀ news) _ _ _ _ _ _ _ _ _ _ _ _ _ _ _ _ _
theorem t_list {σ : Type} {l : Addr} {vs : List Value} {nn : Nat} {m₀ : Str → Option Value} {news : List (Addr × Obj)} (Led : σ → List (Addr × Obj)) (ps : σ → List (Str × Value)) (stored : List Str) (P : Nat → σ → Prop) (c₀ : σ)
    (hh : A.handled = none) (hl : ∀ c, (l, listOf vs.toArray nn) ∈ Led c) (href : ∀ (i : Nat) v, vs[i]? = some v → ∃ T, v = .ref T) (F : Fr h₀ env.locals s.heap m₀) (N : News h₀ env.locals s.heap news) (hn : ∀ p ∈ Led c₀, p ∈ news) (hk : ∀ p ∈ ps c₀, m₀ p.1 = some p.2) (hp : P 0 c₀)
    (turn : ∀ (c : σ) (i : Nat) v (u : Str → Option Value) h tk own, vs[i]? = some v → (∀ p ∈ own, ∀ q ∈ Led c, p.1 ≠ q.1) → (∀ p ∈ own, p.2.cls = .type "list_iterator" ∧ ∃ x y, p.2.data = .fields #[x, .int y 0]) → P i c →
      Fr h₀ env.locals h (kstB (fun z => if stored.contains z then u z else m₀ z) (ps c)) → News h₀ env.locals h (Led c ++ own) →
      wpAny (model prog w) A (assign (.Tuple elts kk tp) env v) (fun _ s₃ => wpAny (model prog w) A (execs body env) (InvPostG h₀ env.locals (GT Led ps stored m₀ P (i + 1)) own { s with heap := h, toks := tk } Q) E s₃) E { s with heap := h, toks := tk })
    (done : ∀ (c : σ) (u : Str → Option Value) h tk, P vs.length c → Fr h₀ env.locals h (kstB (fun z => if stored.contains z then u z else m₀ z) (ps c)) → News h₀ env.locals h (Led c) → Q .next { s with heap := h, toks := tk }) :
    wpAny (model prog w) A (pyIter (.ref l)) (fun it s₂ => TurnsAt prog w A h₀ env (.Tuple elts kk tp) body Q E it s₂) E s :=
  (show t_list_P prog w A E s env h₀ elts kk tp body Q l vs nn m₀ news from close1 (R := t_list_R) _ t_list_core (prog, w, A, E, s, env, h₀, elts, kk, tp, body, Q, l, vs, nn, m₀, news)) σ Led ps stored P c₀ hh hl href F N hn hk hp turn done

end
end

section
open PySem PySem.W PyProof.Rows PySem.Calls PySem.Spec PyProof.Rows.LCg PyProof.Rows.LCt PyProof.Rows.LCp
set_option maxRecDepth 100000
theorem dec_a {a b : Nat} (h : b < a) : a - b = a - b - 1 + 1 := (Nat.sub_add_cancel (Nat.sub_pos_of_lt h)).symm
theorem dec_b {a b : Nat} (h : b < a) : a + 1 - (b + 1) < a + 1 - b := Nat.sub_lt_sub_left (Nat.lt_succ_of_lt h) (Nat.lt_succ_self b)
theorem dec_c {a b j : Nat} (h : a - b = j + 1) : a - (b + 1) = j := by
  rw [Nat.sub_add_eq, h]
  rfl
section
variable {prog : Program} {w : World} {A : Around} {E : Value → Shared → Prop} {s : Shared} {h₀ : Heap} {L : Addr} {m : Str → Option Value} {env : Env}
/-- what is left of a comprehension whose target is three names -/
noncomputable def Rest3 (prog : Program) (w : World) (A : Around) (h₀ : Heap) (L : Addr) (m : Str → Option Value) (env : Env) (elt : Expr) (x₁ x₂ x₃ : Str) (scope : Scope) (cl : List (Str × Addr)) (s : Shared) (S : List (Addr × Obj) → Prop) (its : Array Value)
    (Fin : List Value → List (Addr × Obj) → Prop) : Nat → Nat → List Value → List (Addr × Obj) → Prop
  | 0, _, ys, news => Fin ys news
  | k + 1, i, ys, news => ∀ v, its[i]? = some v → ∃ (t : Addr) (v₁ v₂ v₃ : Value) (nt : Nat), v = .ref t ∧ (t, tupO [v₁, v₂, v₃] nt) ∈ news ∧
      ∀ I oI C oC D m₂ h tk (E' : Value → Shared → Prop), NsObj oC m₂ → m₂ x₁ = some v₁ → m₂ x₂ = some v₂ → m₂ x₃ = some v₃ → Fr h₀ L h m → News h₀ L h ((I, oI) :: (C, oC) :: (D, lst ys) :: news) → Off3 I C D news → ((@Ne Nat I C) ∧ (@Ne Nat I D) ∧ (@Ne Nat C D)) →
      wpAny (model prog w) A (eval elt (compEnvC scope cl C env)) (CompEnd h₀ L m { s with heap := h, toks := tk } I oI C oC D (lst ys) S (fun y news' => Rest3 prog w A h₀ L m env elt x₁ x₂ x₃ scope cl s S its Fin k (i + 1) (ys ++ [y]) news')) E' { s with heap := h, toks := tk }
noncomputable def Src3 (prog : Program) (w : World) (A : Around) (h₀ : Heap) (L : Addr) (m : Str → Option Value) (env : Env) (elt : Expr) (x₁ x₂ x₃ : Str) (scope : Scope) (cl : List (Str × Addr)) (Fin : Shared → List Value → List (Addr × Obj) → Prop) (xv : Value) (s₁ : Shared) : Prop :=
  ∃ ax its k news, xv = .ref ax ∧ A.handled = none ∧ Fr h₀ L s₁.heap m ∧ News h₀ L s₁.heap news ∧ (ax, ({ cls := .type "list", data := .seq its k } : Obj)) ∈ news ∧ its.size ≤ sizeLine ∧
    ∀ g, Rest3 prog w A h₀ L m env elt x₁ x₂ x₃ scope cl { s₁ with heap := g } (SrcAt h₀ ax its) its (Fin { s₁ with heap := g }) its.size 0 [] news
/-- the statement of loop3 over its data -/
noncomputable def loop3_P (prog : Program) (w : World) (A : Around) (h₀ : Heap) (L : Addr) (m : Str → Option Value) (env : Env) (elt : Expr) (iter : Expr) (x₁ : Str) (x₂ : Str) (x₃ : Str) (p₁ : Pos) (p₂ : Pos) (p₃ : Pos) (tp : Pos) (tk : Nat) (scope : Scope) (cl : List (Str × Addr)) (pos : Pos) (s₂ : Shared) (I : Addr) (C : Addr) (D : Addr) (ax : Addr) (its : Array Value) (news : List (Addr × Obj)) (R : Result → Shared → Prop) (Fin : List Value → List (Addr × Obj) → Prop) (hA : Heap) (tA : Nat) (mC : Str → Option Value) : Prop :=
  ∀ (hh : A.handled = none) (hlt : ax ≠ I) (hsz : its.size ≤ sizeLine) (hkind : scope.kind = .function) (l₁ : scope.names.lookup x₁ = some .local) (l₂ : scope.names.lookup x₂ = some .local) (l₃ : scope.names.lookup x₃ = some .local) (n₁₂ : x₁ ≠ x₂) (n₁₃ : x₁ ≠ x₃) (n₂₃ : x₂ ≠ x₃) (hIC : I ≠ C) (hID : I ≠ D) (hCD : C ≠ D) (hLI : L ≠ I) (hCL : C ≠ L) (hDL : D ≠ L) (hI₀ : h₀.get? I = none) (hC₀ : h₀.get? C = none) (hD₀ : h₀.get? D = none) (hCx : C ≠ ax) (hDx : D ≠ ax) (hst : hA.IsListIter I ax 0 ∧ hA.IsList ax its) (F : Fr h₀ L hA m) (hns : hA.Ns C mC) (N : News h₀ L hA ((D, lst []) :: news)) (off : Off3 I C D news) (hS : SrcAt h₀ ax its news) (R₀ : Rest3 prog w A h₀ L m env elt x₁ x₂ x₃ scope cl s₂ (SrcAt h₀ ax its) its Fin its.size 0 [] news) (hRR : ∀ h tk m' ys news', Fr h₀ L h m → News h₀ L h ((D, lst ys) :: news') → Off1 D news' → h.Ns C m' → (∀ p ∈ news', p.1 ≠ C) → Fin ys news' → R (.ok .next) { s₂ with heap := h, toks := tk }), codeAny (model prog w) A (.compLoop (.ListComp elt [⟨.Tuple [.Name x₁ p₁, .Name x₂ p₂, .Name x₃ p₃] tk tp, iter, [], 0⟩] scope pos) 0 (.ref I) (.ref D) (compEnvC scope cl C env)) R { s₂ with heap := hA, toks := tA }
noncomputable def loop3_R (p : Program × World × Around × Heap × Addr × (Str → Option Value) × Env × Expr × Expr × Str × Str × Str × Pos × Pos × Pos × Pos × Nat × Scope × (List (Str × Addr)) × Pos × Shared × Addr × Addr × Addr × Addr × (Array Value) × (List (Addr × Obj)) × (Result → Shared → Prop) × (List Value → List (Addr × Obj) → Prop) × Heap × Nat × (Str → Option Value)) : Prop := loop3_P p.1 p.2.1 p.2.2.1 p.2.2.2.1 p.2.2.2.2.1 p.2.2.2.2.2.1 p.2.2.2.2.2.2.1 p.2.2.2.2.2.2.2.1 p.2.2.2.2.2.2.2.2.1 p.2.2.2.2.2.2.2.2.2.1 p.2.2.2.2.2.2.2.2.2.2.1 p.2.2.2.2.2.2.2.2.2.2.2.1 p.2.2.2.2.2.2.2.2.2.2.2.2.1 p.2.2.2.2.2.2.2.2.2.2.2.2.2.1 p.2.2.2.2.2.2.2.2.2.2.2.2.2.2.1 p.2.2.2.2.2.2.2.2.2.2.2.2.2.2.2.1 p.2.2.2.2.2.2.2.2.2.2.2.2.2.2.2.2.1 p.2.2.2.2.2.2.2.2.2.2.2.2.2.2.2.2.2.1 p.2.2.2.2.2.2.2.2.2.2.2.2.2.2.2.2.2.2.1 p.2.2.2.2.2.2.2.2.2.2.2.2.2.2.2.2.2.2.2.1 p.2.2.2.2.2.2.2.2.2.2.2.2.2.2.2.2.2.2.2.2.1 p.2.2.2.2.2.2.2.2.2.2.2.2.2.2.2.2.2.2.2.2.2.1 p.2.2.2.2.2.2.2.2.2.2.2.2.2.2.2.2.2.2.2.2.2.2.1 p.2.2.2.2.2.2.2.2.2.2.2.2.2.2.2.2.2.2.2.2.2.2.2.1 p.2.2.2.2.2.2.2.2.2.2.2.2.2.2.2.2.2.2.2.2.2.2.2.2.1 p.2.2.2.2.2.2.2.2.2.2.2.2.2.2.2.2.2.2.2.2.2.2.2.2.2.1 p.2.2.2.2.2.2.2.2.2.2.2.2.2.2.2.2.2.2.2.2.2.2.2.2.2.2.1 p.2.2.2.2.2.2.2.2.2.2.2.2.2.2.2.2.2.2.2.2.2.2.2.2.2.2.2.1 p.2.2.2.2.2.2.2.2.2.2.2.2.2.2.2.2.2.2.2.2.2.2.2.2.2.2.2.2.1 p.2.2.2.2.2.2.2.2.2.2.2.2.2.2.2.2.2.2.2.2.2.2.2.2.2.2.2.2.2.1 p.2.2.2.2.2.2.2.2.2.2.2.2.2.2.2.2.2.2.2.2.2.2.2.2.2.2.2.2.2.2.1 p.2.2.2.2.2.2.2.2.2.2.2.2.2.2.2.2.2.2.2.2.2.2.2.2.2.2.2.2.2.2.2
noncomputable def loop3_c : Program × World × Around × Heap × Addr × (Str → Option Value) × Env × Expr × Expr × Str × Str × Str × Pos × Pos × Pos × Pos × Nat × Scope × (List (Str × Addr)) × Pos × Shared × Addr × Addr × Addr × Addr × (Array Value) × (List (Addr × Obj)) × (Result → Shared → Prop) × (List Value → List (Addr × Obj) → Prop) × Heap × Nat × (Str → Option Value) := pick (neP inferInstance (neP neW (neP neA (neP inferInstance (neP inferInstance (neP inferInstance (neP inferInstance (neP inferInstance (neP inferInstance (neP inferInstance (neP inferInstance (neP inferInstance (neP inferInstance (neP inferInstance (neP inferInstance (neP inferInstance (neP inferInstance (neP inferInstance (neP inferInstance (neP inferInstance (neP neS (neP inferInstance (neP inferInstance (neP inferInstance (neP inferInstance (neP inferInstance (neP inferInstance (neP inferInstance (neP inferInstance (neP inferInstance (neP inferInstance inferInstance))))))))))))))))))))))))))))))) loop3_R
theorem loop3_core : loop3_R loop3_c := (by
  intro prog w A h₀ L m env elt iter x₁ x₂ x₃ p₁ p₂ p₃ tp tk scope cl pos s₂ I C D ax its news R Fin hA tA mC hh hlt hsz hkind l₁ l₂ l₃ n₁₂ n₁₃ n₂₃ hIC hID hCD hLI hCL hDL hI₀ hC₀ hD₀ hCx hDx hst F hns N off hS R₀ hRR
  have W := Walks.list (prog := prog) (w := w) hh I ax hlt its
  refine codeAny_compLoop_pair
    (fun k s' => ∃ h' tk i ys m' news', s' = { s₂ with heap := h', toks := tk } ∧ i ≤ its.size ∧ k = its.size + 1 - i ∧ ys.length = i ∧ (h'.IsListIter I ax i ∧ h'.IsList ax its) ∧ Fr h₀ L h' m ∧ h'.Ns C m' ∧ News h₀ L h' ((D, lst ys) :: news') ∧
      Off3 I C D news' ∧ SrcAt h₀ ax its news' ∧ Rest3 prog w A h₀ L m env elt x₁ x₂ x₃ scope cl s₂ (SrcAt h₀ ax its) its Fin (its.size - i) i ys news') ?_ (its.size + 1)
    ⟨hA, tA, 0, [], mC, news, rfl, Nat.zero_le _, rfl, rfl, hst, F, hns, N, off, hS, R₀⟩
  rintro k s' ⟨h', tk, i, ys, m', news', rfl, hi, rfl, hyl, hst', F', hn', N', off', hS', R'⟩
  have off3 := off'.mem
  by_cases hlt' : i < its.size
  · obtain ⟨j, hj⟩ : ∃ j, its.size - i = j + 1 := ⟨its.size - i - 1, dec_a hlt'⟩
    rw [hj] at R'
    refine W.item i _ _ _ hlt' hst' fun v h₂ tk₂ hPv hst₂ hk₂ => ?_
    obtain ⟨t, v₁, v₂, v₃, nt, rfl, hmt, R''⟩ := R' v hPv
    have N₂ : News h₀ L h₂ ((D, lst ys) :: news') := news_but N' hk₂ fun p hp => by
      rcases List.mem_cons.mp hp with rfl | hp
      · exact Ne.symm hID
      · exact (off3 p hp).1
    have ht : IsTup h₂ t #[v₁, v₂, v₃] := ⟨_, (N₂ _ (List.mem_cons_of_mem _ hmt)).1, rfl, nt, rfl⟩
    refine wpAny_letOwnedTupleGo_listiter hst₂.1 ?_
    refine assign_Tuple_tuple hh ht rfl rfl fun h₅ he => ?_
    have he' : ∀ b o, h₂.get? b = some o → h₅.get? b = some o := fun b o e => he b o (Nat.ne_of_lt (Heap.lt_size e)) e
    have ns0 : h₅.Ns C m' := (hn'.at' fun o e => hk₂ _ o (by simpa using Ne.symm hIC) e).at' fun o e => he' _ o e
    refine assignInOrder_cons (wpAny_assign_Name (wpAny_storeName_local (lookup_relabel_local l₁) ns0 (fun h₆ hn₆ hs₆ => ?_) (by simp [compEnvC, relabel, hkind])))
    refine assignInOrder_cons (wpAny_assign_Name (wpAny_storeName_local (lookup_relabel_local l₂) hn₆ (fun h₇ hn₇ hs₇ => ?_) (by simp [compEnvC, relabel, hkind])))
    refine assignInOrder_cons (wpAny_assign_Name (wpAny_storeName_local (lookup_relabel_local l₃) hn₇ (fun h₃ hn₃ hs₃ => ?_) (by simp [compEnvC, relabel, hkind])))
    refine assignInOrder_nil ?_
    have old3 : ∀ b o, b ≠ C → h₂.get? b = some o → h₃.get? b = some o := fun b o hb e => hs₃.extBut b o hb (hs₇.extBut b o hb (hs₆.extBut b o hb (he' b o e)))
    have hst₃ : h₃.IsListIter I ax (i + 1) ∧ h₃.IsList ax its := W.frame _ _ _ hst₂ fun b hb o e => old3 b o (fun q => by
      rcases List.mem_cons.mp hb with h | h
      · exact hIC (h.symm.trans q)
      · exact hCx (q.symm.trans (List.mem_singleton.mp h))) e
    obtain ⟨oI, heI, _⟩ := hst₃.1
    obtain ⟨oC, heC, hoC⟩ := ns_obj hn₃
    have F₃ : Fr h₀ L h₃ m := ((((fr_but F' hk₂ hLI hI₀).keeps he').change hs₆ hCL hC₀).change hs₇ hCL hC₀).change hs₃ hCL hC₀
    have N₃ : News h₀ L h₃ ((I, oI) :: (C, oC) :: (D, lst ys) :: news') := fun p hp => by
      rcases List.mem_cons.mp hp with rfl | hp
      · exact ⟨heI, Ne.symm hLI, hI₀⟩
      rcases List.mem_cons.mp hp with rfl | hp
      · exact ⟨heC, hCL, hC₀⟩
      have z := N₂ p hp
      refine ⟨old3 _ _ ?_ z.1, z.2⟩
      rcases List.mem_cons.mp hp with rfl | hp
      · exact Ne.symm hCD
      · exact (off3 p hp).2.1
    refine wpAny_mono (R'' I oI C oC D _ h₃ _ _ hoC (by simp [n₁₂, n₁₃]) (by simp [n₂₃]) (by simp) F₃ N₃ off' ⟨hIC, hID, hCD⟩) (fun y s₄ h₄ => ?_) fun _ _ e => e
    obtain ⟨h₄, tk₄, news₄, rfl, F₄, N₄, off₄, hS₄, R₄⟩ := h₄
    have zI := (N₄ (I, oI) List.mem_cons_self).1
    have zC := (N₄ (C, oC) (List.mem_cons_of_mem _ List.mem_cons_self)).1
    have zD := (N₄ (D, lst ys) (List.mem_cons_of_mem _ (List.mem_cons_of_mem _ List.mem_cons_self))).1
    have N₄' : News h₀ L h₄ news₄ := fun p hp => N₄ p (List.mem_cons_of_mem _ (List.mem_cons_of_mem _ (List.mem_cons_of_mem _ hp)))
    have hst₄ := list_st (i + 1) _ _ _ _ hst₃ heI zI F₄.keep N₄' hS₄
    refine append_at (hsz := by show ys.toArray.size ≤ sizeLine; rw [List.size_toArray, hyl]; exact Nat.le_trans hi hsz) zD fun h₈ hs₈ hD₈ => ?_
    have off4 := off₄.mem
    refine ⟨its.size + 1 - (i + 1), dec_b hlt', h₈, tk₄, i + 1, ys ++ [y], _, news₄, rfl, hlt', rfl, by rw [List.length_append, List.length_singleton, hyl], W.frame _ _ _ hst₄ fun b hb o e => hs₈.extBut b o (fun q => ?_) e, F₄.change hs₈ hDL hD₀,
      (hoC.ns zC).sameBut hs₈ hCD, fun p hp => ?_, off₄, hS₄, ?_⟩
    · rcases List.mem_cons.mp hb with h | h
      · exact hID (h.symm.trans q)
      · exact hDx (q.symm.trans (List.mem_singleton.mp h))
    · rcases List.mem_cons.mp hp with rfl | hp
      · exact ⟨hD₈.trans (congrArg some (lst_snoc ys y)), hDL, hD₀⟩
      · exact ⟨hs₈.extBut _ _ (off4 p hp).2.2 (N₄' p hp).1, (N₄' p hp).2⟩
    · rw [dec_c hj]
      exact R₄
  · obtain rfl : i = its.size := Nat.le_antisymm hi (Nat.not_lt.mp hlt')
    rw [Nat.sub_self] at R'
    refine W.done _ _ _ hst' fun h₂ tk₂ hk₂ => ?_
    exact hRR h₂ tk₂ _ ys news' (fr_but F' hk₂ hLI hI₀) (news_but N' hk₂ fun p hp => by
      rcases List.mem_cons.mp hp with rfl | hp
      · exact Ne.symm hID
      · exact (off3 p hp).1) off'.one (hn'.at' fun o e => hk₂ _ o (by simpa using Ne.symm hIC) e) (fun p hp => (off3 p hp).2.1) R' : ∀ (prog : Program) (w : World) (A : Around) (h₀ : Heap) (L : Addr) (m : Str → Option Value) (env : Env) (elt : Expr) (iter : Expr) (x₁ : Str) (x₂ : Str) (x₃ : Str) (p₁ : Pos) (p₂ : Pos) (p₃ : Pos) (tp : Pos) (tk : Nat) (scope : Scope) (cl : List (Str × Addr)) (pos : Pos) (s₂ : Shared) (I : Addr) (C : Addr) (D : Addr) (ax : Addr) (its : Array Value) (news : List (Addr × Obj)) (R : Result → Shared → Prop) (Fin : List Value → List (Addr × Obj) → Prop) (hA : Heap) (tA : Nat) (mC : Str → Option Value), loop3_P prog w A h₀ L m env elt iter x₁ x₂ x₃ p₁ p₂ p₃ tp tk scope cl pos s₂ I C D ax its news R Fin hA tA mC) _ _ _ _ _ _ _ _ _ _ _ _ _ _ _ _ _ _ _ _ _ _ _ _ _ _ _ _ _ _ _ _
theorem loop3 {elt iter : Expr} {x₁ x₂ x₃ : Str} {p₁ p₂ p₃ tp : Pos} {tk : Nat} {scope : Scope} {cl : List (Str × Addr)} {pos : Pos} {s₂ : Shared} {I C D ax : Addr} {its : Array Value} {news : List (Addr × Obj)} {R : Result → Shared → Prop}
    {Fin : List Value → List (Addr × Obj) → Prop} (hh : A.handled = none) (hlt : ax ≠ I) (hsz : its.size ≤ sizeLine) (hkind : scope.kind = .function) (l₁ : scope.names.lookup x₁ = some .local) (l₂ : scope.names.lookup x₂ = some .local) (l₃ : scope.names.lookup x₃ = some .local)
    (n₁₂ : x₁ ≠ x₂) (n₁₃ : x₁ ≠ x₃) (n₂₃ : x₂ ≠ x₃) (hIC : I ≠ C) (hID : I ≠ D) (hCD : C ≠ D) (hLI : L ≠ I) (hCL : C ≠ L) (hDL : D ≠ L) (hI₀ : h₀.get? I = none) (hC₀ : h₀.get? C = none) (hD₀ : h₀.get? D = none) (hCx : C ≠ ax) (hDx : D ≠ ax)
    {hA : Heap} {tA : Nat} (hst : hA.IsListIter I ax 0 ∧ hA.IsList ax its) (F : Fr h₀ L hA m) {mC : Str → Option Value} (hns : hA.Ns C mC) (N : News h₀ L hA ((D, lst []) :: news)) (off : Off3 I C D news) (hS : SrcAt h₀ ax its news)
    (R₀ : Rest3 prog w A h₀ L m env elt x₁ x₂ x₃ scope cl s₂ (SrcAt h₀ ax its) its Fin its.size 0 [] news)
    (hRR : ∀ h tk m' ys news', Fr h₀ L h m → News h₀ L h ((D, lst ys) :: news') → Off1 D news' → h.Ns C m' → (∀ p ∈ news', p.1 ≠ C) → Fin ys news' → R (.ok .next) { s₂ with heap := h, toks := tk }) :
    codeAny (model prog w) A (.compLoop (.ListComp elt [⟨.Tuple [.Name x₁ p₁, .Name x₂ p₂, .Name x₃ p₃] tk tp, iter, [], 0⟩] scope pos) 0 (.ref I) (.ref D) (compEnvC scope cl C env)) R { s₂ with heap := hA, toks := tA } :=
  (show loop3_P prog w A h₀ L m env elt iter x₁ x₂ x₃ p₁ p₂ p₃ tp tk scope cl pos s₂ I C D ax its news R Fin hA tA mC from close1 (R := loop3_R) _ loop3_core (prog, w, A, h₀, L, m, env, elt, iter, x₁, x₂, x₃, p₁, p₂, p₃, tp, tk, scope, cl, pos, s₂, I, C, D, ax, its, news, R, Fin, hA, tA, mC)) hh hlt hsz hkind l₁ l₂ l₃ n₁₂ n₁₃ n₂₃ hIC hID hCD hLI hCL hDL hI₀ hC₀ hD₀ hCx hDx hst F hns N off hS R₀ hRR

theorem block3 {elt iter : Expr} {x₁ x₂ x₃ : Str} {p₁ p₂ p₃ tp : Pos} {tk : Nat} {scope : Scope} {cl : List (Str × Addr)} {pos : Pos} {s₂ : Shared} {I ax : Addr} {its : Array Value} {news : List (Addr × Obj)}
    {Fin : List Value → List (Addr × Obj) → Prop} {RR : Value → Addr → Result → Shared → Prop} (hh : A.handled = none) (hlt : @LT.lt Nat _ ax I) (hsz : its.size ≤ sizeLine) (hcell : ∀ y ∈ scope.names, y.2 ≠ .cell) (hkind : scope.kind = .function)
    (l₁ : scope.names.lookup x₁ = some .local) (l₂ : scope.names.lookup x₂ = some .local) (l₃ : scope.names.lookup x₃ = some .local) (n₁₂ : x₁ ≠ x₂) (n₁₃ : x₁ ≠ x₃) (n₂₃ : x₂ ≠ x₃)
    (hgs : s₂.heap.objs.size = I + 1) (hLlt : @LT.lt Nat _ L I) (fresh : ∀ a : Nat, @LE.le Nat _ I a → h₀.get? a = none) (hst : s₂.heap.IsListIter I ax 0 ∧ s₂.heap.IsList ax its) (F : Fr h₀ L s₂.heap m) (N : News h₀ L s₂.heap news) (low : ∀ p ∈ news, @LT.lt Nat _ p.1 I) (hS : SrcAt h₀ ax its news)
    (R : Rest3 prog w A h₀ L m env elt x₁ x₂ x₃ scope cl s₂ (SrcAt h₀ ax its) its Fin its.size 0 [] news)
    (hRR : ∀ D C h tk m' ys news', Fr h₀ L h m → News h₀ L h ((D, lst ys) :: news') → Off1 D news' → h.Ns C m' → h₀.get? C = none → C ≠ L → C ≠ D → (∀ p ∈ news', p.1 ≠ C) → Fin ys news' → RR (.ref D) C (.ok .next) { s₂ with heap := h, toks := tk }) :
    wpAny (model prog w) A (newList []) (fun acc s₃ => wpAny (model prog w) A (newFunctionEnv scope env.globals cl [] env.qual none .none (some env)) (fun cenv s₄ =>
      codeAny (model prog w) A (.compStart (.ListComp elt [⟨.Tuple [.Name x₁ p₁, .Name x₂ p₂, .Name x₃ p₃] tk tp, iter, [], 0⟩] scope pos) 0 (.ref I) acc { cenv with scope := relabel scope env }) (RR acc cenv.locals) s₄) E s₃) E s₂ := by
  refine wpAny_newObj_type (wpAny_newFunctionEnv hcell (by intro y hy; simp at hy) (fun h₁ hns₁ hsb₁ => ?_) hkind)
  dsimp only at hns₁ hsb₁ ⊢
  generalize hD : s₂.heap.objs.size = D at *
  generalize hH2 : s₂.heap.push { cls := .type "list", dict := none, data := .seq ([] : List Value).toArray } = H2 at hns₁ hsb₁ ⊢
  have hC : H2.objs.size = D + 1 := by rw [← hH2, Heap.size_push, hD]
  generalize hCe : H2.objs.size = C at *
  have hIC : I ≠ C := by rw [hC, hgs]; exact Nat.ne_of_lt (Nat.lt_succ_of_lt (Nat.lt_succ_self _))
  have hID : I ≠ D := by rw [hgs]; exact Nat.ne_of_lt (Nat.lt_succ_self _)
  have hCD : C ≠ D := by rw [hC]; exact Nat.ne_of_gt (Nat.lt_succ_self _)
  have ltC : ∀ a : Nat, a < I → a ≠ C := fun a ha => by rw [hC, hgs]; omega
  have ltD : ∀ a : Nat, a < I → a ≠ D := fun a ha => by rw [hgs]; omega
  have hC₀ : h₀.get? C = none := fresh C (by rw [hC, hgs]; omega)
  have hD₀ : h₀.get? D = none := fresh D (by rw [hgs]; omega)
  have old : ∀ b o, s₂.heap.get? b = some o → h₁.get? b = some o := fun b o e => hsb₁.extBut b o (by
    have := Heap.lt_size e
    rw [hD] at this
    rw [hC]
    exact Nat.ne_of_lt (Nat.lt_succ_of_lt this)) (Heap.get?_push_of_some _ (hH2 ▸ Heap.get?_push_of_some _ e))
  have hacc : h₁.get? D = some (lst []) := by
    refine hsb₁.extBut _ _ (Ne.symm hCD) (Heap.get?_push_of_some _ ?_)
    rw [← hH2, ← hD]
    exact Heap.get?_push_size _ rfl
  have hst₁ : h₁.IsListIter I ax 0 ∧ h₁.IsList ax its := by
    refine ⟨?_, hst.2.at fun o e => old _ o e⟩
    obtain ⟨o, e, r⟩ := hst.1
    exact ⟨o, old _ _ e, r⟩
  have hCL : C ≠ L := Ne.symm (ltC L hLlt)
  have loop : ∀ s₃ : Shared, s₃ = { s₂ with heap := h₁, toks := s₂.toks + ([] : List (Str × Value)).length } →
      codeAny (model prog w) A (.compLoop (.ListComp elt [⟨.Tuple [.Name x₁ p₁, .Name x₂ p₂, .Name x₃ p₃] tk tp, iter, [], 0⟩] scope pos) 0 (.ref I) (.ref D) (compEnvC scope cl C env)) (RR (.ref D) C) s₃ := by
    rintro s₃ rfl
    refine loop3 (ax := ax) (its := its) (news := news) (m := m) hh (Nat.ne_of_lt hlt) hsz hkind l₁ l₂ l₃ n₁₂ n₁₃ n₂₃ hIC hID hCD (Nat.ne_of_lt hLlt) hCL (Ne.symm (ltD L hLlt)) (fresh _ (Nat.le_refl _)) hC₀ hD₀ (Ne.symm (ltC ax hlt)) (Ne.symm (ltD ax hlt)) hst₁ (F.keeps old) hns₁ (fun p hp => ?_) (Off3.of fun p hp => ⟨Nat.ne_of_lt (low p hp), ltC _ (low p hp), ltD _ (low p hp)⟩) hS R ?_
    · rcases List.mem_cons.mp hp with rfl | hp
      · exact ⟨hacc, Ne.symm (ltD L hLlt), hD₀⟩
      · exact ⟨old _ _ (N p hp).1, (N p hp).2⟩
    · intro h' tk m' ys news' F' N' o1 hn offC fin
      exact hRR D C h' tk m' ys news' F' N' o1 hn hC₀ hCL hCD offC fin
  have W := Walks.list (prog := prog) (w := w) hh I ax (Nat.ne_of_lt hlt) its
  exact codeAny_compStart_list (loop _ rfl) (W.self 0 _ _ _ hst₁ (loop _ rfl))
theorem ListComp_3 {elt iter : Expr} {x₁ x₂ x₃ : Str} {p₁ p₂ p₃ tp : Pos} {tk : Nat} {scope : Scope} {cl : List (Str × Addr)} {pos : Pos} {Q : Value → Shared → Prop} (_F₀ : Fr h₀ L s.heap m)
    (hclos : closureFor scope env = pure cl) (hcell : ∀ y ∈ scope.names, y.2 ≠ .cell) (hkind : scope.kind = .function)
    (hnames : ∀ y ∈ scope.names, y.2 = .local → scope.names.lookup y.1 = some .local) (l₁ : scope.names.lookup x₁ = some .local) (l₂ : scope.names.lookup x₂ = some .local) (l₃ : scope.names.lookup x₃ = some .local)
    (n₁₂ : x₁ ≠ x₂) (n₁₃ : x₁ ≠ x₃) (n₂₃ : x₂ ≠ x₃)
    (h : wpAny (model prog w) A (eval iter env) (Src3 prog w A h₀ L m env elt x₁ x₂ x₃ scope cl (fun s₂ => FinE h₀ L m s₂ Q)) E s)
    (hs : ∀ x, foldedSetIterable iter env x = pure x := by intro _; rfl) :
    wpAny (model prog w) A (eval (.ListComp elt [⟨.Tuple [.Name x₁ p₁, .Name x₂ p₂, .Name x₃ p₃] tk tp, iter, [], 0⟩] scope pos) env) Q E s := by
  rw [eval_ListComp]
  refine wpAny_comprehension_free (use := none) rfl hs hclos hkind hnames (wpAny_mono h (fun xv s₁ h₁ => ?_) fun _ _ e => e)
  obtain ⟨ax, its, kn, news, rfl, hh, F, N, hmem, hsz, R⟩ := h₁
  have hS : SrcAt h₀ ax its news := .inr ⟨_, hmem, rfl, kn, rfl⟩
  have hl := hS.list F.keep N
  have hlt : @LT.lt Nat _ ax s₁.heap.objs.size := by obtain ⟨_, e, _⟩ := hl; exact Heap.lt_size e
  refine wpAny_pyIter_list hl ?_
  have up : ∀ b o, s₁.heap.get? b = some o → (s₁.heap.push { cls := .type "list_iterator", data := .fields #[.ref ax, .int 0 0] }).get? b = some o := fun b o e => Heap.get?_push_of_some _ e
  refine block3 hh hlt hsz hcell hkind l₁ l₂ l₃ n₁₂ n₁₃ n₂₃ (by rw [Heap.size_push]) F.ns.lt (fun a ha => ?_) ⟨⟨_, Heap.get?_push_size _ rfl, rfl, rfl⟩, hl.at fun o e => up _ o e⟩ (F.keeps up) (N.grown up) (fun p hp => Heap.lt_size (N p hp).1) hS (R _) ?_
  · cases e : h₀.get? a with
    | none => rfl
    | some o' => exact absurd (Heap.lt_size (F.keep a o' e)) (Nat.not_lt.mpr ha)
  · intro D C h' tk m' ys news' F' N' o1 hn hC₀ hCL hCD offC fin
    refine ⟨m', hn, fun h'' hs'' => fin D h'' tk (F'.change hs'' hCL hC₀) (fun p hp => ?_) o1⟩
    refine ⟨hs''.extBut _ _ ?_ (N' p hp).1, (N' p hp).2⟩
    rcases List.mem_cons.mp hp with rfl | hp
    · exact Ne.symm hCD
    · exact offC p hp
end
end

section
open PySem PySem.W PyProof.Rows PySem.Calls PySem.Spec PyProof.Rows.LCg PyProof.Rows.LCt
set_option maxRecDepth 100000
section
variable {prog : Program} {w : World} {A : Around} {E : Value → Shared → Prop} {s : Shared} {h₀ : Heap} {L : Addr} {m : Str → Option Value} {env : Env}
/-- the source of a comprehension is a range of any step -/
noncomputable def SrcS (prog : Program) (w : World) (A : Around) (h₀ : Heap) (L : Addr) (m : Str → Option Value) (env : Env) (elt : Expr) (x : Str) (scope : Scope) (cl : List (Str × Addr)) (Fin : Shared → List Value → List (Addr × Obj) → Prop) (xv : Value) (s₁ : Shared) : Prop :=
  ∃ r a b c t u v n news, xv = .ref r ∧ A.handled = none ∧ Fr h₀ L s₁.heap m ∧ News h₀ L s₁.heap news ∧ IsRange s₁.heap r a b c t u v ∧ Builtin.Range.small a b c = true ∧ Builtin.Range.rangeSize a b c = ((n : Nat) : Int) ∧ n ≤ sizeLine ∧
    ∀ g, CompRest prog w A h₀ L m env elt x scope cl { s₁ with heap := g } (fun _ => True) (fun i v => i < n ∧ ∃ t, v = .int (a + (i : Int) * c) t) (Fin { s₁ with heap := g }) n 0 [] news
/-- the statement of ListComp_S over its data -/
noncomputable def ListComp_S_P (prog : Program) (w : World) (A : Around) (E : Value → Shared → Prop) (s : Shared) (h₀ : Heap) (L : Addr) (m : Str → Option Value) (env : Env) (elt : Expr) (iter : Expr) (x : Str) (px : Pos) (scope : Scope) (cl : List (Str × Addr)) (pos : Pos) (Q : Value → Shared → Prop) : Prop :=
  ∀ (_F₀ : Fr h₀ L s.heap m) (hclos : closureFor scope env = pure cl) (hcell : ∀ y ∈ scope.names, y.2 ≠ .cell) (hkind : scope.kind = .function) (hnames : ∀ y ∈ scope.names, y.2 = .local → scope.names.lookup y.1 = some .local) (hx : scope.names.lookup x = some .local) (h : wpAny (model prog w) A (eval iter env) (SrcS prog w A h₀ L m env elt x scope cl (fun s₂ => FinE h₀ L m s₂ Q)) E s) (hs : ∀ x, foldedSetIterable iter env x = pure x), wpAny (model prog w) A (eval (.ListComp elt [⟨.Name x px, iter, [], 0⟩] scope pos) env) Q E s
noncomputable def ListComp_S_R (p : Program × World × Around × (Value → Shared → Prop) × Shared × Heap × Addr × (Str → Option Value) × Env × Expr × Expr × Str × Pos × Scope × (List (Str × Addr)) × Pos × (Value → Shared → Prop)) : Prop := ListComp_S_P p.1 p.2.1 p.2.2.1 p.2.2.2.1 p.2.2.2.2.1 p.2.2.2.2.2.1 p.2.2.2.2.2.2.1 p.2.2.2.2.2.2.2.1 p.2.2.2.2.2.2.2.2.1 p.2.2.2.2.2.2.2.2.2.1 p.2.2.2.2.2.2.2.2.2.2.1 p.2.2.2.2.2.2.2.2.2.2.2.1 p.2.2.2.2.2.2.2.2.2.2.2.2.1 p.2.2.2.2.2.2.2.2.2.2.2.2.2.1 p.2.2.2.2.2.2.2.2.2.2.2.2.2.2.1 p.2.2.2.2.2.2.2.2.2.2.2.2.2.2.2.1 p.2.2.2.2.2.2.2.2.2.2.2.2.2.2.2.2
noncomputable def ListComp_S_c : Program × World × Around × (Value → Shared → Prop) × Shared × Heap × Addr × (Str → Option Value) × Env × Expr × Expr × Str × Pos × Scope × (List (Str × Addr)) × Pos × (Value → Shared → Prop) := pick (neP inferInstance (neP neW (neP neA (neP inferInstance (neP neS (neP inferInstance (neP inferInstance (neP inferInstance (neP inferInstance (neP inferInstance (neP inferInstance (neP inferInstance (neP inferInstance (neP inferInstance (neP inferInstance (neP inferInstance inferInstance)))))))))))))))) ListComp_S_R
theorem ListComp_S_core : ListComp_S_R ListComp_S_c := ((by
  intro prog w A E s h₀ L m env elt iter x px scope cl pos Q _F₀ hclos hcell hkind hnames hx h hs
  rw [eval_ListComp]
  refine wpAny_comprehension_free (use := none) rfl hs hclos hkind hnames (wpAny_mono h (fun xv s₁ h₁ => ?_) fun _ _ e => e)
  obtain ⟨r, a, b, c, t, u, v, n, news, rfl, hh, F, N, hr, hsm, hn, hsz, R⟩ := h₁
  refine wpAny_pyIter_range hr hsm ?_
  have W : Walks prog w A s₁.heap.objs.size [s₁.heap.objs.size] [s₁.heap.objs.size] n (fun i v => i < n ∧ ∃ t, v = .int (a + i * c) t) (fun i h => IsRangeIter h s₁.heap.objs.size (a + (i : Nat) * c) ((n : Int) - (i : Nat)) c) := (Walks.range hh _ a c n).bound
  refine block_U W hsz (fun i h st => ⟨_, st⟩) ?_ hcell hkind hx (by show IsRangeIter _ _ _ _ _; rw [hn]; simpa using Heap.get?_push_size _ rfl) (fun b hb => ?_)
    (F.keeps fun _ _ e => Heap.get?_push_of_some _ e) (N.grown fun _ _ e => Heap.get?_push_of_some _ e) (Nat.ne_of_lt F.ns.lt) (next_is_new F) (fun p hp => Nat.ne_of_lt (Heap.lt_size (N p hp).1)) (S := fun _ => True) trivial (R _) ?_
  · intro i h h' o nw st e e' _ _ _
    have st' : h.get? s₁.heap.objs.size = some _ := st
    show h'.get? s₁.heap.objs.size = some _
    rw [e', ← e]
    exact st'
  · rw [List.mem_singleton.mp hb]
    show s₁.heap.objs.size < (s₁.heap.push _).objs.size
    rw [Heap.size_push]
    exact Nat.lt_succ_self _
  · intro D C h tk m' ys news' F' N' o1 hn hC₀ hD₀ hCL hDL hCD offC fin
    refine ⟨m', hn, fun h'' hs'' => fin D h'' tk (F'.change hs'' hCL hC₀) (fun p hp => ?_) o1⟩
    refine ⟨hs''.extBut _ _ ?_ (N' p hp).1, (N' p hp).2⟩
    rcases List.mem_cons.mp hp with rfl | hp
    · exact Ne.symm hCD
    · exact offC p hp) : ∀ (prog : Program) (w : World) (A : Around) (E : Value → Shared → Prop) (s : Shared) (h₀ : Heap) (L : Addr) (m : Str → Option Value) (env : Env) (elt : Expr) (iter : Expr) (x : Str) (px : Pos) (scope : Scope) (cl : List (Str × Addr)) (pos : Pos) (Q : Value → Shared → Prop), ListComp_S_P prog w A E s h₀ L m env elt iter x px scope cl pos Q) _ _ _ _ _ _ _ _ _ _ _ _ _ _ _ _ _
theorem ListComp_S {elt iter : Expr} {x : Str} {px : Pos} {scope : Scope} {cl : List (Str × Addr)} {pos : Pos} {Q : Value → Shared → Prop} (_F₀ : Fr h₀ L s.heap m)
    (hclos : closureFor scope env = pure cl) (hcell : ∀ y ∈ scope.names, y.2 ≠ .cell) (hkind : scope.kind = .function)
    (hnames : ∀ y ∈ scope.names, y.2 = .local → scope.names.lookup y.1 = some .local) (hx : scope.names.lookup x = some .local)
    (h : wpAny (model prog w) A (eval iter env) (SrcS prog w A h₀ L m env elt x scope cl (fun s₂ => FinE h₀ L m s₂ Q)) E s)
    (hs : ∀ x, foldedSetIterable iter env x = pure x := by intro _; rfl) :
    wpAny (model prog w) A (eval (.ListComp elt [⟨.Name x px, iter, [], 0⟩] scope pos) env) Q E s :=
  (show ListComp_S_P prog w A E s h₀ L m env elt iter x px scope cl pos Q from close1 (R := ListComp_S_R) _ ListComp_S_core (prog, w, A, E, s, h₀, L, m, env, elt, iter, x, px, scope, cl, pos, Q)) _F₀ hclos hcell hkind hnames hx h hs

theorem SrcS.mk' {elt : Expr} {x : Str} {scope : Scope} {cl : List (Str × Addr)} {Fin : Shared → List Value → List (Addr × Obj) → Prop} {r : Addr} {a b c : Int} {t u v : Tok} {n : Nat} {news : List (Addr × Obj)} {s₁ : Shared}
    (hh : A.handled = none) (F : Fr h₀ L s₁.heap m) (N : News h₀ L s₁.heap news) (hr : IsRange s₁.heap r a b c t u v) (hsm : Builtin.Range.small a b c = true) (hn : Builtin.Range.rangeSize a b c = ((n : Nat) : Int)) (hsz : n ≤ sizeLine)
    (h : ∀ g, CompRest prog w A h₀ L m env elt x scope cl { s₁ with heap := g } (fun _ => True) (fun i v => i < n ∧ ∃ t, v = .int (a + (i : Int) * c) t) (Fin { s₁ with heap := g }) n 0 [] news) :
    SrcS prog w A h₀ L m env elt x scope cl Fin (.ref r) s₁ := ⟨r, a, b, c, t, u, v, n, news, rfl, hh, F, N, hr, hsm, hn, hsz, h⟩
theorem comp_chunkN {M : Nat} {elt : Expr} {x : Str} {scope : Scope} {cl : List (Str × Addr)} {S : List (Addr × Obj) → Prop} {P : Nat → Value → Prop} {Fin : List Value → List (Addr × Obj) → Prop} {Res : Nat → Value → List (Addr × Obj) → Prop} {news : List (Addr × Obj)} (mono : ∀ a b, S b → S (a ++ b))
    (step : ∀ i v I oI C oC D ys ch0 m₂ h tk (E' : Value → Shared → Prop) (Q : Value → Shared → Prop), i < M → P i v → NsObj oC m₂ → m₂ x = some v → Fr h₀ L h m → News h₀ L h ((I, oI) :: (C, oC) :: (D, lst ys) :: (ch0 ++ news)) →
      (∀ y ch h' tk', Fr h₀ L h' m → News h₀ L h' (ch ++ ((I, oI) :: (C, oC) :: (D, lst ys) :: (ch0 ++ news))) → (∀ q ∈ (I, oI) :: (C, oC) :: (D, lst ys) :: (ch0 ++ news), ∀ p ∈ ch, q.1 < p.1) → Res i y ch → Q y { s with heap := h', toks := tk' }) →
      wpAny (model prog w) A (eval elt (compEnvC scope cl C env)) Q E' { s with heap := h, toks := tk }) :
    ∀ (k i : Nat) (ys : List Value) (ch0 : List (Addr × Obj)), i + k ≤ M → S (ch0 ++ news) →
      (∀ zs ch, zs.length = k → ChOk Res i zs ch → (∀ q ∈ ch0 ++ news, ∀ p ∈ ch, q.1 < p.1) → Fin (ys ++ zs) (ch ++ (ch0 ++ news))) → CompRest prog w A h₀ L m env elt x scope cl s S P Fin k i ys (ch0 ++ news) := by
  intro k
  induction k with
  | zero =>
    intro i ys ch0 _ hS fin
    have := fin [] [] rfl rfl (fun _ _ _ h => nomatch h)
    rw [List.append_nil, List.nil_append] at this
    exact CompRest.zero this
  | succ k ih =>
    intro i ys ch0 hM hS fin
    refine CompRest.succ fun v I oI C oC D m₂ h tk E' hP hC hx F N off ne => ?_
    refine step i v I oI C oC D ys ch0 m₂ h tk E' _ (by omega) hP hC hx F N fun y ch h' tk' F' N' lt R => ?_
    refine comp_end F' N' lt off (mono _ _ hS) ?_
    rw [← List.append_assoc]
    refine ih (i + 1) (ys ++ [y]) (ch ++ ch0) (by omega) (by rw [List.append_assoc]; exact mono _ _ hS) fun zs ch' hz hch hlt => ?_
    have := fin (y :: zs) (ch' ++ ch) (by simp [hz]) ⟨ch, ch', rfl, R, hch⟩ fun q hq p hp => ?_
    · rw [List.append_assoc] at this ⊢
      rw [List.append_assoc]
      exact this
    · rcases List.mem_append.mp hp with hp | hp
      · exact hlt q (by rw [List.append_assoc]; exact List.mem_append_right _ hq) p hp
      · exact lt q (.tail _ (.tail _ (.tail _ hq))) p hp
/-- each entry an int, nothing of it is kept but that -/
noncomputable def ResN (i : Nat) (y : Value) (ch : List (Addr × Obj)) : Prop := ch = [] ∧ ∃ a t, y = .int a t
theorem chok_ints {zs : List Value} : ∀ {i : Nat} {ch : List (Addr × Obj)}, ChOk ResN i zs ch → ch = [] ∧ ∃ ns, ns.length = zs.length ∧ IntsAre zs ns := by
  induction zs with
  | nil => exact fun h => ⟨h, [], rfl, .nil⟩
  | cons y zs ih =>
    intro i ch R
    obtain ⟨c1, c2, e, r, R⟩ := R
    obtain ⟨e1, a, t, e2⟩ := r
    obtain ⟨e3, ns, hl, I⟩ := ih R
    rw [e, e1, e2, e3]
    exact ⟨rfl, a :: ns, congrArg (· + 1) hl, .cons _ _ I⟩
theorem comp_ni {elt : Expr} {x : Str} {scope : Scope} {cl : List (Str × Addr)} {Fin : List Value → List (Addr × Obj) → Prop} {P : Nat → Value → Prop} {n : Nat} {news : List (Addr × Obj)}
    (step : ∀ i v I oI C oC D ys nw m₂ h tk (E' : Value → Shared → Prop) (Q : Value → Shared → Prop), i < n → P i v → NsObj oC m₂ → m₂ x = some v → Fr h₀ L h m → News h₀ L h ((I, oI) :: (C, oC) :: (D, lst ys) :: (nw ++ news)) →
      (∀ a t h' tk', Fr h₀ L h' m → News h₀ L h' ((I, oI) :: (C, oC) :: (D, lst ys) :: (nw ++ news)) → Q (.int a t) { s with heap := h', toks := tk' }) →
      wpAny (model prog w) A (eval elt (compEnvC scope cl C env)) Q E' { s with heap := h, toks := tk })
    (fin : ∀ zs ns, ns.length = n → IntsAre zs ns → Fin zs news) : CompRest prog w A h₀ L m env elt x scope cl s (fun _ => True) P Fin n 0 [] news := by
  refine comp_chunkN (M := n) (Res := ResN) (fun _ _ _ => trivial) ?_ n 0 [] [] (by omega) trivial fun zs ch hz hch hlt => ?_
  · intro i v I oI C oC D ys ch0 m₂ h tk E' Q hi hP hC hx F N hret
    exact step i v I oI C oC D ys ch0 m₂ h tk E' Q hi hP hC hx F N fun a t h' tk' F' N' => hret _ [] h' tk' F' N' (fun _ _ _ h => nomatch h) ⟨rfl, a, t, rfl⟩
  · obtain ⟨e, ns, hl, I⟩ := chok_ints hch
    subst e
    exact fin zs ns (by omega) I
noncomputable def ResB (bg : Nat → Int) (i : Nat) (y : Value) (ch : List (Addr × Obj)) : Prop := ch = [] ∧ ∃ t, y = .int (bg i) t
theorem chok_nums {bg : Nat → Int} {zs : List Value} {i : Nat} {ch : List (Addr × Obj)} (R : ChOk (ResB bg) i zs ch) : ch = [] ∧ IntsAre zs ((List.range zs.length).map fun j => bg (i + j)) := by
  have h := chok_int (f := bg) (fun _ _ _ r => r) R
  rw [List.range'_eq_map_range, List.map_map] at h
  exact h
theorem comp_nums {elt : Expr} {x : Str} {scope : Scope} {cl : List (Str × Addr)} {Fin : List Value → List (Addr × Obj) → Prop} {P : Nat → Value → Prop} {n : Nat} {news : List (Addr × Obj)} (bg : Nat → Int)
    (step : ∀ i v I oI C oC D ys nw m₂ h tk (E' : Value → Shared → Prop) (Q : Value → Shared → Prop), i < n → P i v → NsObj oC m₂ → m₂ x = some v → Fr h₀ L h m → News h₀ L h ((I, oI) :: (C, oC) :: (D, lst ys) :: (nw ++ news)) →
      (∀ t h' tk', Fr h₀ L h' m → News h₀ L h' ((I, oI) :: (C, oC) :: (D, lst ys) :: (nw ++ news)) → Q (.int (bg i) t) { s with heap := h', toks := tk' }) →
      wpAny (model prog w) A (eval elt (compEnvC scope cl C env)) Q E' { s with heap := h, toks := tk })
    (fin : ∀ zs, IntsAre zs ((List.range n).map bg) → Fin zs news) : CompRest prog w A h₀ L m env elt x scope cl s (fun _ => True) P Fin n 0 [] news := by
  refine comp_chunkN (M := n) (Res := ResB bg) (fun _ _ _ => trivial) ?_ n 0 [] [] (by omega) trivial fun zs ch hz hch hlt => ?_
  · intro i v I oI C oC D ys ch0 m₂ h tk E' Q hi hP hC hx F N hret
    exact step i v I oI C oC D ys ch0 m₂ h tk E' Q hi hP hC hx F N fun t h' tk' F' N' => hret _ [] h' tk' F' N' (fun _ _ _ h => nomatch h) ⟨rfl, t, rfl⟩
  · obtain ⟨e, I⟩ := chok_nums hch
    subst e
    rw [hz] at I
    have : (List.range n).map (fun j => bg (0 + j)) = (List.range n).map bg := List.map_congr_left fun j _ => by rw [Nat.zero_add]
    rw [this] at I
    exact fin zs I
noncomputable def ResQ (pa pb : Nat → Int) (i : Nat) (y : Value) (ch : List (Addr × Obj)) : Prop := ∃ T t1 t2 e, y = .ref T ∧ ch = [(T, tupO [.int (pa i) t1, .int (pb i) t2] e)]
theorem chok_pairs {pa pb : Nat → Int} {zs : List Value} {i : Nat} {ch : List (Addr × Obj)} (R : ChOk (ResQ pa pb) i zs ch) (k : Nat) (z : Value) (h : zs[k]? = some z) : ∃ T t1 t2 e, z = .ref T ∧ (T, tupO [.int (pa (i + k)) t1, .int (pb (i + k)) t2] e) ∈ ch := by
  obtain ⟨c, hs, r⟩ := chok_at R k z h
  obtain ⟨T, t1, t2, e1, hy, hc⟩ := r
  exact ⟨T, t1, t2, e1, hy, hs _ (hc ▸ .head _)⟩
theorem comp_pairs {elt : Expr} {x : Str} {scope : Scope} {cl : List (Str × Addr)} {Fin : List Value → List (Addr × Obj) → Prop} {P : Nat → Value → Prop} {n : Nat} {news : List (Addr × Obj)} (pa pb : Nat → Int)
    (step : ∀ i v I oI C oC D ys nw m₂ h tk (E' : Value → Shared → Prop) (Q : Value → Shared → Prop), i < n → P i v → NsObj oC m₂ → m₂ x = some v → Fr h₀ L h m → News h₀ L h ((I, oI) :: (C, oC) :: (D, lst ys) :: (nw ++ news)) →
      (∀ T t1 t2 e h' tk', Fr h₀ L h' m → News h₀ L h' ((T, tupO [.int (pa i) t1, .int (pb i) t2] e) :: (I, oI) :: (C, oC) :: (D, lst ys) :: (nw ++ news)) → (∀ q ∈ (I, oI) :: (C, oC) :: (D, lst ys) :: (nw ++ news), q.1 < T) → Q (.ref T) { s with heap := h', toks := tk' }) →
      wpAny (model prog w) A (eval elt (compEnvC scope cl C env)) Q E' { s with heap := h, toks := tk })
    (fin : ∀ zs ch, zs.length = n → (∀ (k : Nat) (z : Value), zs[k]? = some z → ∃ T t1 t2 e, z = .ref T ∧ (T, tupO [.int (pa k) t1, .int (pb k) t2] e) ∈ ch) → (∀ q ∈ news, ∀ p ∈ ch, q.1 < p.1) → Fin zs (ch ++ news)) : CompRest prog w A h₀ L m env elt x scope cl s (fun _ => True) P Fin n 0 [] news := by
  refine comp_chunkN (M := n) (Res := ResQ pa pb) (fun _ _ _ => trivial) ?_ n 0 [] [] (by omega) trivial fun zs ch hz hch hlt => ?_
  · intro i v I oI C oC D ys ch0 m₂ h tk E' Q hi hP hC hx F N hret
    refine step i v I oI C oC D ys ch0 m₂ h tk E' Q hi hP hC hx F N fun T t1 t2 e h' tk' F' N' lt => ?_
    exact hret _ [(T, _)] h' tk' F' N' (fun q hq p hp => by rw [List.mem_singleton.mp hp]; exact lt q hq) ⟨T, t1, t2, e, rfl, rfl⟩
  · refine fin zs ch hz (fun k z h => ?_) hlt
    have := chok_pairs hch k z h
    rw [Nat.zero_add] at this
    exact this
end
end

section
set_option maxRecDepth 100000
/-- one of the 64 leads -/
noncomputable def leadN (a : Nat) : Str := partS.getD (a % 4) Str.empty ++ partS.getD (a / 4 % 4) Str.empty ++ partS.getD (a / 16 % 4) Str.empty
noncomputable def mod64 (v : Int) : Nat := (v.fmod 64).toNat
theorem mod64_lt (v : Int) : mod64 v < 64 := by
  unfold mod64
  rw [Int.fmod_eq_emod_of_nonneg _ (by decide)]
  omega
theorem toNat_4 (n : Nat) (m : Nat) : (((n : Int) / (m : Int)) % 4).toNat = n / m % 4 := by
  rw [← Int.natCast_ediv]; exact Int.toNat_natCast (n / m % 4)
theorem leadI_N (v : Int) : leadI v = leadN (mod64 v) := by
  have e0 : ((mod64 v : Nat) : Int) = v % 64 := by
    unfold mod64
    rw [Int.fmod_eq_emod_of_nonneg _ (by decide : (0 : Int) ≤ 64)]
    exact Int.toNat_of_nonneg (Int.emod_nonneg _ (by decide))
  have d (m k : Int) (hm : 0 < m) (h : 64 = m * (4 * k)) : v / m % 4 = (v % 64) / m % 4 := by
    have q := Int.mul_ediv_add_emod v 64
    generalize v % 64 = r at q ⊢
    generalize v / 64 = c at q
    rw [← q, h, Int.mul_assoc, Int.add_comm, Int.add_mul_ediv_left _ _ (Int.ne_of_gt hm), Int.mul_assoc, Int.add_mul_emod_self_left]
  have h1 : (v % 4).toNat = mod64 v % 4 := by
    have e := d 1 16 (by decide) (by decide)
    rw [Int.ediv_one, Int.ediv_one] at e
    rw [e, ← e0]; exact Int.toNat_natCast (mod64 v % 4)
  have h2 : (v / 4 % 4).toNat = mod64 v / 4 % 4 := by
    rw [d 4 4 (by decide) (by decide), ← e0]; exact toNat_4 _ 4
  have h3 : (v / 16 % 4).toNat = mod64 v / 16 % 4 := by
    rw [d 16 1 (by decide) (by decide), ← e0]; exact toNat_4 _ 16
  unfold leadI leadN
  simp only [Int.fmod_eq_emod_of_nonneg _ (by decide : (0 : Int) ≤ 4), Int.fdiv_eq_ediv_of_nonneg _ (by decide : (0 : Int) ≤ 4), Int.fdiv_eq_ediv_of_nonneg _ (by decide : (0 : Int) ≤ 16)]
  rw [h1, h2, h3]
structure LRow where
  n : Int
  nt : Int
  b : Int
  cnt : List Int
  lv : List Int
deriving DecidableEq
noncomputable def tabR : List LRow := [⟨0, 0, 0, [], [0, 0, 0, 0, 0, 0, 0, 0, 0, 0]⟩,
  ⟨1, 0, 1, [], [1, 1, 1, 1, 1, 1, 1, 1, 1, 1]⟩,
  ⟨1, 1, 0, [1], [1, 2, 3, 4, 5, 6, 7, 8, 9, 10]⟩,
  ⟨3, 0, 3, [], [3, 3, 3, 3, 3, 3, 3, 3, 3, 3]⟩,
  ⟨1, 0, 1, [], [1, 1, 1, 1, 1, 1, 1, 1, 1, 1]⟩,
  ⟨2, 0, 2, [], [2, 2, 2, 2, 2, 2, 2, 2, 2, 2]⟩,
  ⟨2, 1, 1, [1], [2, 3, 4, 5, 6, 7, 8, 9, 10, 11]⟩,
  ⟨4, 0, 4, [], [4, 4, 4, 4, 4, 4, 4, 4, 4, 4]⟩,
  ⟨1, 1, 0, [1], [1, 2, 3, 4, 5, 6, 7, 8, 9, 10]⟩,
  ⟨2, 1, 0, [0, 1], [2, 2, 3, 4, 5, 6, 7, 8, 9, 10]⟩,
  ⟨2, 2, 0, [2], [2, 4, 6, 8, 10, 12, 14, 16, 18, 20]⟩,
  ⟨4, 1, 0, [0, 0, 0, 1], [4, 4, 6, 4, 5, 6, 7, 8, 9, 10]⟩,
  ⟨3, 0, 3, [], [3, 3, 3, 3, 3, 3, 3, 3, 3, 3]⟩,
  ⟨4, 0, 4, [], [4, 4, 4, 4, 4, 4, 4, 4, 4, 4]⟩,
  ⟨4, 1, 3, [1], [4, 5, 6, 7, 8, 9, 10, 11, 12, 13]⟩,
  ⟨6, 0, 6, [], [6, 6, 6, 6, 6, 6, 6, 6, 6, 6]⟩,
  ⟨1, 0, 1, [], [1, 1, 1, 1, 1, 1, 1, 1, 1, 1]⟩,
  ⟨2, 0, 2, [], [2, 2, 2, 2, 2, 2, 2, 2, 2, 2]⟩,
  ⟨2, 1, 1, [1], [2, 3, 4, 5, 6, 7, 8, 9, 10, 11]⟩,
  ⟨4, 0, 4, [], [4, 4, 4, 4, 4, 4, 4, 4, 4, 4]⟩,
  ⟨2, 0, 2, [], [2, 2, 2, 2, 2, 2, 2, 2, 2, 2]⟩,
  ⟨3, 0, 3, [], [3, 3, 3, 3, 3, 3, 3, 3, 3, 3]⟩,
  ⟨3, 1, 2, [1], [3, 4, 5, 6, 7, 8, 9, 10, 11, 12]⟩,
  ⟨5, 0, 5, [], [5, 5, 5, 5, 5, 5, 5, 5, 5, 5]⟩,
  ⟨2, 1, 1, [1], [2, 3, 4, 5, 6, 7, 8, 9, 10, 11]⟩,
  ⟨3, 1, 1, [0, 1], [3, 3, 4, 5, 6, 7, 8, 9, 10, 11]⟩,
  ⟨3, 2, 1, [2], [3, 5, 7, 9, 11, 13, 15, 17, 19, 21]⟩,
  ⟨5, 1, 1, [0, 0, 0, 1], [5, 5, 7, 5, 6, 7, 8, 9, 10, 11]⟩,
  ⟨4, 0, 4, [], [4, 4, 4, 4, 4, 4, 4, 4, 4, 4]⟩,
  ⟨5, 0, 5, [], [5, 5, 5, 5, 5, 5, 5, 5, 5, 5]⟩,
  ⟨5, 1, 4, [1], [5, 6, 7, 8, 9, 10, 11, 12, 13, 14]⟩,
  ⟨7, 0, 7, [], [7, 7, 7, 7, 7, 7, 7, 7, 7, 7]⟩,
  ⟨1, 1, 0, [1], [1, 2, 3, 4, 5, 6, 7, 8, 9, 10]⟩,
  ⟨2, 1, 0, [0, 1], [2, 2, 3, 4, 5, 6, 7, 8, 9, 10]⟩,
  ⟨2, 2, 0, [2], [2, 4, 6, 8, 10, 12, 14, 16, 18, 20]⟩,
  ⟨4, 1, 0, [0, 0, 0, 1], [4, 4, 6, 4, 5, 6, 7, 8, 9, 10]⟩,
  ⟨2, 1, 0, [0, 1], [2, 2, 3, 4, 5, 6, 7, 8, 9, 10]⟩,
  ⟨3, 1, 0, [0, 0, 1], [3, 4, 3, 4, 5, 6, 7, 8, 9, 10]⟩,
  ⟨3, 2, 0, [1, 1], [3, 4, 6, 8, 10, 12, 14, 16, 18, 20]⟩,
  ⟨5, 1, 0, [0, 0, 0, 0, 1], [5, 6, 6, 8, 5, 6, 7, 8, 9, 10]⟩,
  ⟨2, 2, 0, [2], [2, 4, 6, 8, 10, 12, 14, 16, 18, 20]⟩,
  ⟨3, 2, 0, [1, 1], [3, 4, 6, 8, 10, 12, 14, 16, 18, 20]⟩,
  ⟨3, 3, 0, [3], [3, 6, 9, 12, 15, 18, 21, 24, 27, 30]⟩,
  ⟨5, 2, 0, [1, 0, 0, 1], [5, 6, 9, 8, 10, 12, 14, 16, 18, 20]⟩,
  ⟨4, 1, 0, [0, 0, 0, 1], [4, 4, 6, 4, 5, 6, 7, 8, 9, 10]⟩,
  ⟨5, 1, 0, [0, 0, 0, 0, 1], [5, 6, 6, 8, 5, 6, 7, 8, 9, 10]⟩,
  ⟨5, 2, 0, [1, 0, 0, 1], [5, 6, 9, 8, 10, 12, 14, 16, 18, 20]⟩,
  ⟨7, 1, 0, [0, 0, 0, 0, 0, 0, 1], [7, 8, 9, 8, 10, 12, 7, 8, 9, 10]⟩,
  ⟨3, 0, 3, [], [3, 3, 3, 3, 3, 3, 3, 3, 3, 3]⟩,
  ⟨4, 0, 4, [], [4, 4, 4, 4, 4, 4, 4, 4, 4, 4]⟩,
  ⟨4, 1, 3, [1], [4, 5, 6, 7, 8, 9, 10, 11, 12, 13]⟩,
  ⟨6, 0, 6, [], [6, 6, 6, 6, 6, 6, 6, 6, 6, 6]⟩,
  ⟨4, 0, 4, [], [4, 4, 4, 4, 4, 4, 4, 4, 4, 4]⟩,
  ⟨5, 0, 5, [], [5, 5, 5, 5, 5, 5, 5, 5, 5, 5]⟩,
  ⟨5, 1, 4, [1], [5, 6, 7, 8, 9, 10, 11, 12, 13, 14]⟩,
  ⟨7, 0, 7, [], [7, 7, 7, 7, 7, 7, 7, 7, 7, 7]⟩,
  ⟨4, 1, 3, [1], [4, 5, 6, 7, 8, 9, 10, 11, 12, 13]⟩,
  ⟨5, 1, 3, [0, 1], [5, 5, 6, 7, 8, 9, 10, 11, 12, 13]⟩,
  ⟨5, 2, 3, [2], [5, 7, 9, 11, 13, 15, 17, 19, 21, 23]⟩,
  ⟨7, 1, 3, [0, 0, 0, 1], [7, 7, 9, 7, 8, 9, 10, 11, 12, 13]⟩,
  ⟨6, 0, 6, [], [6, 6, 6, 6, 6, 6, 6, 6, 6, 6]⟩,
  ⟨7, 0, 7, [], [7, 7, 7, 7, 7, 7, 7, 7, 7, 7]⟩,
  ⟨7, 1, 6, [1], [7, 8, 9, 10, 11, 12, 13, 14, 15, 16]⟩,
  ⟨9, 0, 9, [], [9, 9, 9, 9, 9, 9, 9, 9, 9, 9]⟩]
noncomputable def LRow.lg (r : LRow) : Int := max ((r.cnt.length : Int) - 1) r.b
noncomputable def LRow.sm (r : LRow) : Bool := decide ((r.cnt.length : Int) ≤ 1)
noncomputable def rowT (a : Nat) : LRow := tabR.getD a ⟨0, 0, 0, [], []⟩
noncomputable def lessT (A B : LRow) : Bool := if A.n ≥ B.n then false else if A.sm && B.sm then decide (A.nt ≤ B.nt)
  else (rangeKs 2 (max A.lg B.lg + 1 + 1 - 2).toNat).all fun ts => decide (A.lv.getD (ts - 1).toNat 0 < B.lv.getD (ts - 1).toNat 0)
/-- the longest run of blanks, sign by sign -/
noncomputable def runM : List Nat → Nat → Nat → Nat
  | [], cur, best => max best cur
  | x :: r, cur, best => if x = 9 then runM r 0 (max best cur) else runM r (cur + 1) best
theorem p1 : ∀ a : Fin 64, ∀ b : Fin 64, decide (cmpL (fun x y => decide (y ≤ x)) (rowT a).lv (rowT b).lv = []) = lessT (rowT a) (rowT b) := by decide +kernel
theorem p2 : ∀ a : Fin 64, ∀ b : Fin 64, decide (cmpL (fun x y => decide (x ≤ y)) (rowT a).lv (rowT b).lv = []) = lessT (rowT b) (rowT a) := by decide +kernel
theorem p3 : ∀ a : Fin 64, ∀ b : Fin 64, decide ((rowT a).cnt = (rowT b).cnt ∧ (rowT a).b = (rowT b).b) = decide ((rowT b).lv = (rowT a).lv) := by decide +kernel
theorem q1 : ∀ a : Fin 64, scT (leadN a) = ⟨(rowT a).cnt, (rowT a).b.toNat, (rowT a).n.toNat, (rowT a).nt.toNat⟩ ∧ 0 ≤ (rowT a).b ∧ 0 ≤ (rowT a).n ∧ 0 ≤ (rowT a).nt := by decide +kernel
theorem q2 : ∀ a : Fin 64, colsL (leadN a) = (rowT a).lv := by decide +kernel
theorem q3 : ∀ a : Fin 64, ((rangeKs 1 10).all fun ts => decide (levelOf ts (rowT a).cnt (rowT a).b (rowT a).nt = (rowT a).lv.getD (ts - 1).toNat 0)) = true := by decide +kernel
theorem q4 : ∀ a : Fin 64, (leadN a).cps.toList.all blankB = true ∧ (leadN a).length ≤ 9 ∧ ((leadN a).length : Int) = (rowT a).n := by decide +kernel
theorem q5 : ∀ a : Fin 64, (runM (leadN a).cps.toList 0 0 : Int) = (rowT a).lg ∧ (rowT a).lg ≤ 9 := by decide +kernel
section
variable {a b : Nat} (ha : a < 64) (hb : b < 64)
include ha
theorem scT_at : ((scT (leadN a)).cnt = (rowT a).cnt ∧ ((scT (leadN a)).b : Int) = (rowT a).b ∧ ((scT (leadN a)).n : Int) = (rowT a).n ∧ ((scT (leadN a)).nt : Int) = (rowT a).nt) := by
  obtain ⟨e, h1, h2, h3⟩ := q1 ⟨a, ha⟩
  dsimp only at e h1 h2 h3
  rw [e]
  exact ⟨rfl, Int.toNat_of_nonneg h1, Int.toNat_of_nonneg h2, Int.toNat_of_nonneg h3⟩
theorem level_at {ts : Int} (h1 : 1 ≤ ts) (h2 : ts ≤ 10) : levelOf ts (rowT a).cnt (rowT a).b (rowT a).nt = (rowT a).lv.getD (ts - 1).toNat 0 := by
  have := List.all_eq_true.mp (q3 ⟨a, ha⟩) ts (by
    unfold rangeKs
    exact List.mem_map.mpr ⟨(ts - 1).toNat, List.mem_range.mpr (by omega), by omega⟩)
  exact of_decide_eq_true this
theorem lg_at : (rowT a).lg ≤ 9 := (q5 ⟨a, ha⟩).2
include hb
theorem less_at : lessS (leadN a) (leadN b) = lessT (rowT a) (rowT b) := by
  obtain ⟨e1, e2, e3, e4⟩ := scT_at ha
  obtain ⟨f1, f2, f3, f4⟩ := scT_at hb
  unfold lessS lessOf lessT smS longestOf
  rw [e1, e2, e3, e4, f1, f2, f3, f4]
  have hl := lg_at ha
  have hl' := lg_at hb
  unfold LRow.lg at hl hl'
  split
  · rfl
  · unfold LRow.sm
    split
    · rfl
    · unfold LRow.lg
      rw [Bool.eq_iff_iff, List.all_eq_true, List.all_eq_true]
      have key : ∀ ts ∈ rangeKs 2 (max (max (((rowT a).cnt.length : Int) - 1) (rowT a).b) (max (((rowT b).cnt.length : Int) - 1) (rowT b).b) + 1 + 1 - 2).toNat,
          decide (levelOf ts (rowT a).cnt (rowT a).b (rowT a).nt < levelOf ts (rowT b).cnt (rowT b).b (rowT b).nt) = decide ((rowT a).lv.getD (ts - 1).toNat 0 < (rowT b).lv.getD (ts - 1).toNat 0) := fun ts hts => by
        unfold rangeKs at hts
        obtain ⟨i, hi, rfl⟩ := List.mem_map.mp hts
        have := List.mem_range.mp hi
        rw [level_at ha (by omega) (by omega), level_at hb (by omega) (by omega)]
      exact ⟨fun h ts hts => key ts hts ▸ h ts hts, fun h ts hts => (key ts hts).symm ▸ h ts hts⟩
theorem eq_at : eqS (leadN a) (leadN b) = decide ((rowT b).lv = (rowT a).lv) := by
  obtain ⟨e1, e2, _, _⟩ := scT_at ha
  obtain ⟨f1, f2, _, _⟩ := scT_at hb
  unfold eqS
  rw [e1, e2, f1, f2]
  exact p3 ⟨a, ha⟩ ⟨b, hb⟩
theorem wit_at : witS (leadN a) (leadN b) = unlikeL (rowT a).lv (rowT b).lv (max (rowT a).lg (rowT b).lg) := by
  obtain ⟨e1, e2, e3, e4⟩ := scT_at ha
  obtain ⟨f1, f2, f3, f4⟩ := scT_at hb
  have hl := lg_at ha
  have hl' := lg_at hb
  unfold witS witOf unlikeL
  rw [e1, e2, e4, f1, f2, f4]
  show List.map _ (List.filter _ (rangeKs 1 (max (rowT a).lg (rowT b).lg + 1 + 1 - 1).toNat)) = _
  have hn : (max (rowT a).lg (rowT b).lg + 1 + 1 - 1).toNat = (max (rowT a).lg (rowT b).lg + 1).toNat := by rw [Int.add_sub_cancel]
  rw [hn]
  have key : ∀ ts ∈ rangeKs 1 (max (rowT a).lg (rowT b).lg + 1).toNat, 1 ≤ ts ∧ ts ≤ 10 := fun ts hts => by
    unfold rangeKs at hts
    obtain ⟨i, hi, rfl⟩ := List.mem_map.mp hts
    have := List.mem_range.mp hi
    omega
  rw [List.filter_congr fun ts hts => by rw [level_at ha (key ts hts).1 (key ts hts).2, level_at hb (key ts hts).1 (key ts hts).2]]
  refine List.map_congr_left fun ts hts => ?_
  have := key ts (List.mem_filter.mp hts).1
  rw [level_at ha this.1 this.2, level_at hb this.1 this.2]
end
theorem runM_free : ∀ {p : List Nat} {r : List Nat} {cur best : Nat}, 9 ∉ p → runM (p ++ r) cur best = runM r (cur + p.length) best
  | [], _, _, _, _ => rfl
  | x :: p, r, cur, best, h => by
    have hx : x ≠ 9 := fun e => h (e ▸ .head _)
    rw [List.cons_append, List.length_cons]
    conv => lhs; unfold runM
    rw [if_neg hx, runM_free fun m => h (.tail _ m)]
    congr 1
    omega
theorem runM_tab {r : List Nat} {cur best : Nat} : runM (9 :: r) cur best = runM r 0 (max best cur) := by
  conv => lhs; unfold runM
  rw [if_pos rfl]
theorem runM_best : ∀ {l : List Nat} {cur a b : Nat}, runM l cur (max a b) = max a (runM l cur b)
  | [], _, _, _ => by unfold runM; exact Nat.max_assoc _ _ _
  | x :: l, cur, a, b => by
    unfold runM
    split
    · rw [Nat.max_assoc, runM_best]
    · exact runM_best
theorem runM_app : ∀ {l : List Nat} {r : List Nat} {cur best : Nat}, runM (l ++ 9 :: r) cur best = runM r 0 (runM l cur best)
  | [], r, cur, best => runM_tab
  | x :: l, r, cur, best => by
    have e : ∀ q : List Nat, runM (x :: q) cur best = if x = 9 then runM q 0 (max best cur) else runM q (cur + 1) best := fun _ => rfl
    rw [List.cons_append, e, e]
    split
    · exact runM_app
    · exact runM_app
theorem tab_cps : Str.ofString "\t" = ⟨#[9]⟩ := by decide +kernel
theorem runM_join : ∀ {ps : List Str} {p : Str} {best : Nat}, (∀ q ∈ p :: ps, 9 ∉ q.cps.toList) → runM (Str.join ⟨#[9]⟩ (p :: ps)).cps.toList 0 best = ((p :: ps).map (·.length)).foldl max best
  | [], p, best, h => by
    show runM p.cps.toList 0 best = max best p.length
    have := runM_free (r := []) (cur := 0) (best := best) (h p (.head _))
    rw [List.append_nil] at this
    rw [this]
    show max best (0 + p.cps.toList.length) = _
    simp [Str.length]
  | q :: ps, p, best, h => by
    have e : (Str.join ⟨#[9]⟩ (p :: q :: ps)).cps.toList = p.cps.toList ++ 9 :: (Str.join ⟨#[9]⟩ (q :: ps)).cps.toList := by
      show (p ++ (⟨#[9]⟩ : Str) ++ Str.join ⟨#[9]⟩ (q :: ps)).cps.toList = _
      simp [Str.cps_append]
    rw [e, runM_free (h p (.head _)), runM_tab, runM_join fun r hr => h r (.tail _ hr)]
    simp [Str.length]
theorem foldl_cast : ∀ {l : List Nat} {b : Nat}, (l.map fun n : Nat => (n : Int)).foldl max (b : Int) = ((l.foldl max b : Nat) : Int)
  | [], _ => rfl
  | x :: l, b => by
    simp only [List.map_cons, List.foldl_cons]
    rw [← foldl_cast]
    congr 1
    omega
theorem longL_run (x y : Str) : longL x y = ((max (runM x.cps.toList 0 0) (runM y.cps.toList 0 0) : Nat) : Int) := by
  unfold longL
  rw [tab_cps]
  have hj := StrLaws.join_split (x ++ ⟨#[9]⟩ ++ y) ⟨#[9]⟩
  have hf := StrLaws.split_free (x ++ ⟨#[9]⟩ ++ y) 9
  have hp := split_pos (x ++ ⟨#[9]⟩ ++ y) ⟨#[9]⟩
  generalize Txt.split (x ++ ⟨#[9]⟩ ++ y) ⟨#[9]⟩ = ps at hj hf hp
  cases ps with
  | nil => exact absurd hp (by decide)
  | cons p ps =>
    have hr := runM_join (best := 0) hf
    rw [hj] at hr
    have e : (x ++ (⟨#[9]⟩ : Str) ++ y).cps.toList = x.cps.toList ++ 9 :: y.cps.toList := by simp [Str.cps_append]
    rw [e, runM_app] at hr
    have e2 : runM y.cps.toList 0 (runM x.cps.toList 0 0) = max (runM x.cps.toList 0 0) (runM y.cps.toList 0 0) := by
      have := runM_best (l := y.cps.toList) (cur := 0) (a := runM x.cps.toList 0 0) (b := 0)
      rwa [Nat.max_zero] at this
    rw [e2] at hr
    rw [hr, ← foldl_cast, List.map_map]
    rfl
theorem long_at {a b : Nat} (ha : a < 64) (hb : b < 64) : longL (leadN a) (leadN b) = max (rowT a).lg (rowT b).lg := by
  rw [longL_run]
  have h1 := (q5 ⟨a, ha⟩).1
  have h2 := (q5 ⟨b, hb⟩).1
  dsimp only at h1 h2
  omega
theorem scT_app {l r : Str} {x : Nat} {q : List Nat} (hl : l.cps.toList.all blankB = true) (hr : r.cps.toList = x :: q) (hx : blankB x = false) : scT (l ++ r) = scT l := by
  unfold scT
  have e : (l ++ r).cps.toList = l.cps.toList ++ x :: q := by rw [← hr]; simp [Str.cps_append]
  rw [e, List.takeWhile_append_of_pos (fun k hk => List.all_eq_true.mp hl k hk), List.takeWhile_cons_of_neg (by simp [hx])]
  have h2 := List.takeWhile_append_of_pos (l₁ := l.cps.toList) (l₂ := []) fun k hk => List.all_eq_true.mp hl k hk
  rw [List.append_nil, List.takeWhile_nil] at h2
  rw [h2]
/-- a row's event is what its columns say -/
theorem ev_row {a b : Nat} (ha : a < 64) (hb : b < 64) {r : Str} {x : Nat} {q : List Nat} (hr : r.cps.toList = x :: q) (hx : blankB x = false) {beg line kind : Int} {k : Nat} :
    evRow (leadN a) k ⟨leadN b ++ r, beg, if 12 < kind then none else some line⟩ = evOut (leadN a) k ⟨leadN b ++ r, beg, leadN b, line, kind⟩ := by
  have es := scT_app (q4 ⟨b, hb⟩).1 hr hx
  dsimp only at es
  unfold evRow evOut
  dsimp only
  by_cases hk : 12 < kind
  · rw [if_pos hk, if_pos hk]
  · rw [if_neg hk, if_neg hk]
    dsimp only
    have e1 : lessS (leadN a) (leadN b ++ r) = lessS (leadN a) (leadN b) := by unfold lessS smS; rw [es]
    have e2 : lessS (leadN b ++ r) (leadN a) = lessS (leadN b) (leadN a) := by unfold lessS smS; rw [es]
    have e3 : eqS (leadN b ++ r) (leadN a) = eqS (leadN b) (leadN a) := by unfold eqS; rw [es]
    have e4 : witS (leadN a) (leadN b ++ r) = witS (leadN a) (leadN b) := by unfold witS; rw [es]
    have c1 := q2 ⟨a, ha⟩
    have c2 := q2 ⟨b, hb⟩
    dsimp only at c1 c2
    rw [e1, e2, e3, e4, less_at ha hb, less_at hb ha, eq_at hb ha, wit_at ha hb, c1, c2, long_at ha hb]
    have s1 := p1 ⟨a, ha⟩ ⟨b, hb⟩
    have s2 := p2 ⟨a, ha⟩ ⟨b, hb⟩
    dsimp only at s1 s2
    by_cases h1 : lessT (rowT a) (rowT b) = true
    · rw [if_pos h1, if_pos (of_decide_eq_true (s1.trans h1))]
      rfl
    · rw [if_neg h1, if_neg (fun h => h1 (s1.symm.trans (decide_eq_true h)))]
      by_cases h2 : lessT (rowT b) (rowT a) = false ∧ decide ((rowT a).lv = (rowT b).lv) = false
      · rw [if_pos h2, if_neg]
        rintro (h | h)
        · exact absurd h (of_decide_eq_false h2.2)
        · exact absurd h (of_decide_eq_false (s2.trans h2.1))
      · rw [if_neg h2, if_pos]
        by_cases h3 : lessT (rowT b) (rowT a) = false
        · left
          have : decide ((rowT a).lv = (rowT b).lv) ≠ false := fun h => h2 ⟨h3, h⟩
          exact of_decide_eq_true (by simpa using this)
        · right
          exact of_decide_eq_true (s2.trans (by simpa using h3))
end

section
open PySem PySem.W PyProof.Rows PySem.Calls PySem.Spec
set_option maxRecDepth 100000
section
variable {h₀ h : Heap} {L : Addr} {m : Str → Option Value}
/-- a list whose first item is something that _law_told gives -/
noncomputable def ToldL (h : Heap) (a : Addr) : Prop := ∃ (tv : List Value) (te : Nat), h.get? a = some (W.listOf tv.toArray te) ∧ ∀ x, tv[0]? = some x → ∃ R, RD h x (toldD R)
noncomputable def OffZ (h : Heap) (a : Addr) : Prop := ToldL h a ∨ (∃ ps, h.get? a = some (tabObj ps)) ∨ ∃ o, h.get? a = some o ∧ o.cls = .type "list_iterator"
theorem rds_len {vs : List Value} : ∀ {ds : List Dat}, RDs h vs ds → vs.length = ds.length := by
  intro ds
  induction ds generalizing vs with
  | nil =>
    rintro ⟨as, r⟩
    cases r
    rfl
  | cons d ds ih =>
    rintro ⟨as, r⟩
    cases r with
    | cons r1 r2 => simp [ih ⟨_, r2⟩]
theorem rd_int {v : Value} {k : Int} (r : RD h v (.int k)) : ∃ t, v = .int k t := by
  obtain ⟨as, r⟩ := r
  cases r with
  | int => exact ⟨_, rfl⟩
theorem ints_any {h' : Heap} (ns : List Int) : ∀ {vs : List Value}, RDs h vs (ns.map .int) → RDs h' vs (ns.map .int) := by
  induction ns with
  | nil =>
    intro vs r
    rw [rds_nil r]
    exact RDs.nil
  | cons k ns ih =>
    intro vs r
    obtain ⟨x, r', e, r1, r2⟩ := rds_cons r
    obtain ⟨t, e1⟩ := rd_int r1
    rw [e, e1]
    exact RDs.cons RD.int (ih r2)
theorem tail_any {h' : Heap} {x : Str} {vs : List Value} (r : RDs h vs [.str x]) : RDs h' vs [.str x] := by
  obtain ⟨y, r', e, r1, r2⟩ := rds_cons r
  rw [e, rds_nil r2]
  exact RDs.cons (leaf_any rfl r1) RDs.nil
theorem told_not_int {x : Value} {R : Res} {k : Int} (r : RD h x (toldD R)) (i : RD h x (.int k)) : False := by
  obtain ⟨t, rfl⟩ := rd_int i
  obtain ⟨as, r⟩ := r
  cases R with
  | ret o =>
    cases o with
    | none => cases r
    | some p => cases r
  | nag k w row => cases r
  | bad => cases r
theorem told_not_trip {x : Value} {R : Res} {a b c : Dat} (r : RD h x (toldD R)) (i : RD h x (.tuple [a, b, c])) : False := by
  obtain ⟨A, o, vs, n, rfl, ho, hc, hd, ra⟩ := rd_seq i
  have l1 := rds_len ra
  cases R with
  | ret q =>
    cases q with
    | none =>
      obtain ⟨as, r⟩ := r
      cases r
    | some p =>
      obtain ⟨A', o', vs', n', e, ho', hc', hd', ra'⟩ := rd_seq (ds := [.int p.1, .int p.2]) r
      cases e
      rw [ho] at ho'
      cases ho'
      rw [hd] at hd'
      cases hd'
      have l2 := rds_len ra'
      rw [l1] at l2
      exact absurd (show (3 : Nat) = 2 from l2) (by decide)
  | nag k w row =>
    obtain ⟨A', o', vs', n', e, ho', hc', hd', ra'⟩ := rd_lst (ds := [.int k, .list w, .str row]) r
    cases e
    rw [ho] at ho'
    cases ho'
    rw [hc] at hc'
    injection hc' with hc'
    exact absurd hc' (by decide)
  | bad =>
    obtain ⟨as, r⟩ := r
    cases r
theorem tup_off {a : Addr} {o : Obj} (ho : h.get? a = some o) (hc : o.cls = .type "tuple") : ¬ OffZ h a := by
  rintro (⟨tv, te, e, _⟩ | ⟨ps, e⟩ | ⟨o', e, he⟩)
  · rw [ho] at e
    cases e
    injection hc with hc
    exact absurd hc (by decide)
  · rw [ho] at e
    cases e
    cases hc
  · rw [ho] at e
    cases e
    rw [hc] at he
    injection he with he
    exact absurd he (by decide)
theorem lst_off {a : Addr} {o : Obj} {vs : Array Value} {n : Nat} (ho : h.get? a = some o) (hc : o.cls = .type "list") (hd : o.data = .seq vs n) {x : Value} {r : List Value} (hv : vs.toList = x :: r) (hx : ∀ R, RD h x (toldD R) → False) : ¬ OffZ h a := by
  rintro (⟨tv, te, e, hr⟩ | ⟨ps, e⟩ | ⟨o', e, he⟩)
  · rw [ho] at e
    cases e
    cases hd
    have : tv = x :: r := by simpa using hv
    subst this
    obtain ⟨R, hR⟩ := hr x rfl
    exact hx R hR
  · rw [ho] at e
    cases e
    cases hc
  · rw [ho] at e
    cases e
    rw [hc] at he
    injection he with he
    exact absurd he (by decide)
theorem seq_off (F : Fr h₀ L h m) {a : Addr} {o : Obj} (ho : h.get? a = some o) (hs : SeqO o) (hz : ¬ OffZ h a) {ch : List (Addr × Obj)} (N : News h₀ L h ch) (Z : ∀ q ∈ ch, ¬ OffZ h q.1) :
    ∃ ch', News h₀ L h ch' ∧ (∀ q ∈ ch, q ∈ ch') ∧ (∀ q ∈ ch', ¬ OffZ h q.1) ∧ ∀ h' : Heap, (∀ b o, h₀.get? b = some o → SeqO o → h'.get? b = some o) → (∀ q ∈ ch', h'.get? q.1 = some q.2) → h'.get? a = some o := by
  cases z : h₀.get? a with
  | some o' =>
    have := F.keep _ _ z
    rw [ho] at this
    cases this
    exact ⟨ch, N, fun q hq => hq, Z, fun h' k _ => k _ _ z hs⟩
  | none =>
    refine ⟨(a, o) :: ch, fun q hq => ?_, fun q hq => .tail _ hq, fun q hq => ?_, fun h' _ k => k _ (.head _)⟩
    · rcases List.mem_cons.mp hq with rfl | hq
      · refine ⟨ho, fun q => ?_, z⟩
        obtain ⟨oL, es, ep, hL, hd, _⟩ := F.ns
        rw [show (a, o).1 = a from rfl] at q
        rw [← q, ho] at hL
        cases hL
        obtain ⟨vs, n, hv⟩ := hs
        rw [hd] at hv
        cases hv
      · exact N q hq
    · rcases List.mem_cons.mp hq with rfl | hq
      · exact hz
      · exact Z q hq
theorem trip_chunk (F : Fr h₀ L h m) {f g : Int → Int} {l : List Int} : ∀ {vs : List Value}, RDs h vs (l.map fun z => Dat.tuple [.int z, .int (f z), .int (g z)]) → ∃ ch, News h₀ L h ch ∧ (∀ q ∈ ch, ¬ OffZ h q.1) ∧ RDVs h₀ ch vs (l.map fun z => Dat.tuple [.int z, .int (f z), .int (g z)]) := by
  induction l with
  | nil =>
    intro vs r
    rw [rds_nil r]
    exact ⟨[], (fun _ h => nomatch h), (fun _ h => nomatch h), fun _ _ _ => RDs.nil⟩
  | cons z l ih =>
    intro vs r
    obtain ⟨x, r', e, r1, r2⟩ := rds_cons r
    obtain ⟨ch, N, Z, rv⟩ := ih r2
    obtain ⟨a, o, ws, n, e2, ho, hc, hd, ra⟩ := rd_seq r1
    obtain ⟨ch', N', sub, Z', k⟩ := seq_off F ho ⟨_, _, hd⟩ (tup_off ho hc) N Z
    rw [e, e2]
    refine ⟨ch', N', Z', fun h' p q => RDs.cons ?_ (rv h' p fun y hy => q y (sub y hy))⟩
    exact (ints_any [z, f z, g z] ra : RDs h' ws.toList [.int z, .int (f z), .int (g z)]).elim fun as' ra' => ⟨_, .tuple (k h' p q) hc hd ra'⟩
/-- what _law_told gives, told by objects that are not the lists it will be kept in -/
theorem sep_leaf {v : Value} {d : Dat} (hx : flatP (kqdP d) = true) (r : RD h v d) : ∃ ch, News h₀ L h ch ∧ RDV h₀ ch v d ∧ ∀ q ∈ ch, ¬ OffZ h q.1 :=
  ⟨[], (fun _ h => nomatch h), (fun _ _ _ => leaf_any hx r), fun _ h => nomatch h⟩
theorem sep_pair (F : Fr h₀ L h m) {v : Value} {x y : Int} (r : RD h v (.tuple [.int x, .int y])) : ∃ ch, News h₀ L h ch ∧ RDV h₀ ch v (.tuple [.int x, .int y]) ∧ ∀ q ∈ ch, ¬ OffZ h q.1 := by
  obtain ⟨a, o, vs, n, e, ho, hc, hd, ra⟩ := rd_seq r
  obtain ⟨ch', N', sub, Z', k⟩ := seq_off F ho ⟨_, _, hd⟩ (tup_off ho hc) (ch := []) (fun _ h => nomatch h) (fun _ h => nomatch h)
  rw [e]
  refine ⟨ch', N', fun h' p q => ?_, Z'⟩
  exact (ints_any [x, y] ra : RDs h' vs.toList [.int x, .int y]).elim fun as' ra' => ⟨_, .tuple (k h' p q) hc hd ra'⟩
theorem trips_off {b : Addr} {o : Obj} {ws : Array Value} {n : Nat} {f g : Int → Int} {l : List Int} (hl : l ≠ []) (ho : h.get? b = some o) (hc : o.cls = .type "list") (hd : o.data = .seq ws n) (rb : RDs h ws.toList (l.map fun z => Dat.tuple [.int z, .int (f z), .int (g z)])) : ¬ OffZ h b := by
  cases l with
  | nil => exact absurd rfl hl
  | cons z l =>
    obtain ⟨y, r', ey, iy, _⟩ := rds_cons rb
    exact lst_off ho hc hd ey fun R hR => told_not_trip hR iy
/-- the statement of sep_nag over its data -/
noncomputable def sep_nag_P (h₀ : Heap) (h : Heap) (L : Addr) (m : Str → Option Value) (v : Value) (kk : Int) (row : Str) (f : Int → Int) (g : Int → Int) (l : List Int) : Prop :=
  ∀ (F : Fr h₀ L h m) (hne : l ≠ []) (r : RD h v (.list [.int kk, .list (l.map fun z => Dat.tuple [.int z, .int (f z), .int (g z)]), .str row])), ∃ ch, News h₀ L h ch ∧ RDV h₀ ch v (.list [.int kk, .list (l.map fun z => Dat.tuple [.int z, .int (f z), .int (g z)]), .str row]) ∧ ∀ q ∈ ch, ¬ OffZ h q.1
noncomputable def sep_nag_R (p : Heap × Heap × Addr × (Str → Option Value) × Value × Int × Str × (Int → Int) × (Int → Int) × (List Int)) : Prop := sep_nag_P p.1 p.2.1 p.2.2.1 p.2.2.2.1 p.2.2.2.2.1 p.2.2.2.2.2.1 p.2.2.2.2.2.2.1 p.2.2.2.2.2.2.2.1 p.2.2.2.2.2.2.2.2.1 p.2.2.2.2.2.2.2.2.2
noncomputable def sep_nag_c : Heap × Heap × Addr × (Str → Option Value) × Value × Int × Str × (Int → Int) × (Int → Int) × (List Int) := pick (neP inferInstance (neP inferInstance (neP inferInstance (neP inferInstance (neP inferInstance (neP inferInstance (neP inferInstance (neP inferInstance (neP inferInstance inferInstance))))))))) sep_nag_R
theorem sep_nag_core : sep_nag_R sep_nag_c := ((by
  intro h₀ h L m v kk row f g l F hne r
  obtain ⟨a, o, vs, n, e, ho, hc, hd, ra⟩ := rd_lst r
  obtain ⟨x0, r0, e0, i0, ra0⟩ := rds_cons ra
  obtain ⟨x1, r1, e1, i1, ra1⟩ := rds_cons ra0
  obtain ⟨b, o', ws, n', e', ho', hc', hd', rb⟩ := rd_lst i1
  obtain ⟨ch, N, Z, rv⟩ := trip_chunk F rb
  obtain ⟨ch1, N1, sub1, Z1, k1⟩ := seq_off F ho' ⟨_, _, hd'⟩ (trips_off hne ho' hc' hd' rb) N Z
  obtain ⟨ch2, N2, sub2, Z2, k2⟩ := seq_off F ho ⟨_, _, hd⟩ (lst_off ho hc hd e0 fun R hR => told_not_int hR i0) N1 Z1
  rw [e]
  refine ⟨ch2, N2, fun h' x y => ?_, Z2⟩
  have hs : RDs h' vs.toList [.int kk, .list (l.map fun z => Dat.tuple [.int z, .int (f z), .int (g z)]), .str row] := by
    rw [e0, e1]
    refine RDs.cons (leaf_any rfl i0) (RDs.cons ?_ (tail_any ra1))
    rw [e']
    exact (rv h' x fun q hq => y q (sub2 q (sub1 q hq))).elim fun as1 q1 => ⟨_, .list (k1 h' x fun q hq => y q (sub2 q hq)) hc' hd' q1⟩
  exact hs.elim fun as' q' => ⟨_, .list (k2 h' x y) hc hd q'⟩) : ∀ (h₀ : Heap) (h : Heap) (L : Addr) (m : Str → Option Value) (v : Value) (kk : Int) (row : Str) (f : Int → Int) (g : Int → Int) (l : List Int), sep_nag_P h₀ h L m v kk row f g l) _ _ _ _ _ _ _ _ _ _
theorem sep_nag (F : Fr h₀ L h m) {v : Value} {kk : Int} {row : Str} {f g : Int → Int} {l : List Int} (hne : l ≠ []) (r : RD h v (.list [.int kk, .list (l.map fun z => Dat.tuple [.int z, .int (f z), .int (g z)]), .str row])) :
    ∃ ch, News h₀ L h ch ∧ RDV h₀ ch v (.list [.int kk, .list (l.map fun z => Dat.tuple [.int z, .int (f z), .int (g z)]), .str row]) ∧ ∀ q ∈ ch, ¬ OffZ h q.1 :=
  (show sep_nag_P h₀ h L m v kk row f g l from close1 (R := sep_nag_R) _ sep_nag_core (h₀, h, L, m, v, kk, row, f, g, l)) F hne r

theorem told_sep (F : Fr h₀ L h m) {v : Value} {R₀ : Res} (r : RD h v (toldD R₀)) (hw : ∀ k wit row, R₀ = .nag k wit row → wit ≠ [] ∧ ∃ (l : List Int) (f g : Int → Int), wit = l.map fun z => Dat.tuple [.int z, .int (f z), .int (g z)]) :
    ∃ ch, News h₀ L h ch ∧ RDV h₀ ch v (toldD R₀) ∧ ∀ q ∈ ch, ¬ OffZ h q.1 := by
  cases R₀ with
  | ret o =>
    cases o with
    | none => exact sep_leaf (d := .none) rfl r
    | some p => exact sep_pair F r
  | bad => exact sep_leaf (d := toldD .bad) rfl r
  | nag kk wit row =>
    obtain ⟨hne, l, f, g, e⟩ := hw _ _ _ rfl
    rw [e] at r hne ⊢
    exact sep_nag F (fun q => hne (by rw [q]; rfl)) r
end
end

section
open PySem PySem.W PyProof.Rows PySem.Calls PyProof.Rows.LCg PyProof.Rows.LCt PyProof.Rows.LCp
set_option maxRecDepth 100000
section
variable {prog : Program} {w : World} {A₀ : Around} {s : Shared} {base h₀ : Heap} {outer : List Env} {env : Env} {L : Addr} {m : Str → Option Value} {news : List (Addr × Obj)} {gd : Option (List Code)} {dp un : Nat}
  {p : Program} {loose : List Str} {mean : ExcName → Option Value} {mg mb : Str → Option Value} {Q E : Value → Shared → Prop}
theorem lead_use {v : Int} {t : Tok} (B : Below A₀ base outer h₀) (F : Fr h₀ L s.heap m) (X : (Mine.hd.heap_1 w.params).In h₀) (T : Top p loose mean mg mb h₀) (N : News h₀ L s.heap news)
    (hd : dp ≤ 700) (hu : un ≤ 3000) (hf : env.frame = some L) (hke : env.scope.kind = .function)
    (h : ∀ t h' tk', Fr h₀ L h' m → News h₀ L h' news → Q (.str (leadI v) t) { s with heap := h', toks := tk' }) :
    wpAny (model prog w) { handled := none, depth := dp, frames := some (env :: outer), guards := gd, units := un } (call (.ref 149) [.int v t]) Q E s :=
  depth_le (A' := AT 700 3000 (env :: outer) gd) (lead_spec (std_of (led := []) B F X T N (List.forall_mem_nil _) rfl hf hke) fun t h' tk' k => h t h' tk' (fr_stay F k) (news_stay N k)) rfl hd rfl rfl hu
theorem prog_use {ar ab xb : Addr} {er : Nat} {r0 r1 r2 r3 r4 : Str} {t0 t1 t2 t3 t4 : Tok} (B : Below A₀ base outer h₀) (F : Fr h₀ L s.heap m) (X : (Mine.hd.heap_1 w.params).In h₀) (T : Top p loose mean mg mb h₀)
    (N : News h₀ L s.heap ((158, tabObj #[]) :: (ar, W.listOf #[.str r0 t0, .str r1 t1, .str r2 t2, .str r3 t3, .str r4 t4] er) :: news)) (n158 : ∀ q ∈ news, q.1 ≠ 158) (nar : @Ne Nat 158 ar)
    (C : CodeHd h₀ 160 158) (hr0 : r0.length ≤ 50) (hr1 : r1.length ≤ 50) (hr2 : r2.length ≤ 50) (hr3 : r3.length ≤ 50) (hr4 : r4.length ≤ 50)
    (hd : dp ≤ 500) (hu : un ≤ 1000) (hf : env.frame = some L) (hke : env.scope.kind = .function)
    (h : ∀ (f : Addr) (p8 : Array Value) (chP : List (Addr × Obj)) (h' : Heap) (tk' : Nat), Fr h₀ L h' m → News h₀ L h' (chP ++ ((158, tabObj p8) :: (ar, W.listOf #[.str r0 t0, .str r1 t1, .str r2 t2, .str r3 t3, .str r4 t4] er) :: news)) → (∀ q ∈ chP, q.1 = ar ∨ s.heap.get? q.1 = none) →
      (∀ (led' : List (Addr × Obj)) (D : List RowD) (bes : Str) (bs : List Value) (eb2 : Nat), (∀ q ∈ chP, q ∈ led') → (ab, W.listOf bs.toArray eb2) ∈ led' → WsAt led' xb bes → bes.length ≤ 50 → D.length = 5 → (∀ (k : Nat) (d : RowD), D[k]? = some d → RowOk d ∧ ∃ t tb, [Value.str r0 t0, Value.str r1 t1, Value.str r2 t2, Value.str r3 t3, Value.str r4 t4][k]? = some (Value.str d.raw t) ∧ bs[k]? = some (Value.int d.beg tb)) →
        PrAt w led' f D bes (Txt.join (Str.ofString "\n") [r0, r1, r2, r3, r4])) → Q (.ref f) { s with heap := h', toks := tk' }) :
    wpAny (model prog w) { handled := none, depth := dp, frames := some (env :: outer), guards := gd, units := un } (call (.ref 161) [.ref ar, .ref ab, .ref xb]) Q E s := by
  have S := std_of (A := AT 500 1000 (env :: outer) gd) (led := [(158, tabObj #[]), (ar, W.listOf #[.str r0 t0, .str r1 t1, .str r2 t2, .str r3 t3, .str r4 t4] er)]) B F X T N (fun q hq => by
    rcases List.mem_cons.mp hq with rfl | hq
    · exact .head _
    · rw [List.mem_singleton.mp hq]; exact .tail _ (.head _)) rfl hf hke
  have N1 := N (158, tabObj #[]) (.head _)
  have N2 := N _ (.tail _ (.head _))
  have C' : CodeHd (hideAll s.heap ([((158 : Addr), tabObj #[]), (ar, W.listOf #[.str r0 t0, .str r1 t1, .str r2 t2, .str r3 t3, .str r4 t4] er)].map (·.1))) 160 158 := by
    refine C.keeps fun b o e => hideAll_get _ (F.keep b o e) fun hm => ?_
    simp only [List.map_cons, List.map_nil, List.mem_cons, List.not_mem_nil, or_false] at hm
    rcases hm with rfl | rfl
    · rw [N1.2.2] at e; cases e
    · rw [N2.2.2] at e; cases e
  refine depth_le (A' := AT 500 1000 (env :: outer) gd) (prog_spec (eb := 0) (v0 := .none) (v1 := .none) (v2 := .none) (v3 := .none) (v4 := .none) S C' nar hr0 hr1 hr2 hr3 hr4 fun f chP h' tk' kp hn ⟨p8, h8⟩ hP => ?_) rfl hd rfl rfl hu
  have hL158 : L ≠ 158 := Ne.symm N1.2.1
  have F' : Fr h₀ L h' m := by
    refine ⟨?_, fun b o e => ?_, F.above⟩
    · obtain ⟨oL, es, ep, hL, r⟩ := F.ns
      exact ⟨oL, es, ep, kp _ _ hL158 hL, r⟩
    · exact kp b o (fun z => by rw [z, N1.2.2] at e; cases e) (F.keep b o e)
  have mem : ∀ q ∈ chP.filter (fun q => decide (q.1 ≠ 158)), q ∈ chP ∧ q.1 ≠ 158 := fun q hq => ⟨(List.mem_filter.mp hq).1, by simpa using (List.mem_filter.mp hq).2⟩
  refine h f p8 (chP.filter fun q => decide (q.1 ≠ 158)) h' tk' F' (fun q hq => ?_) (fun q hq => ?_) fun led' D bes bs eb2 hsub => hP led' D bes bs eb2 fun q hq hne => hsub q (List.mem_filter.mpr ⟨hq, by simpa using hne⟩)
  · rcases List.mem_append.mp hq with hq | hq
    · obtain ⟨h1, h2⟩ := mem q hq
      by_cases e : q.1 = ar
      · have k1 := kp _ _ (Ne.symm nar) N2.1
        have k2 := (hn q h1).1
        rw [e] at k2
        exact ⟨(hn q h1).1, e ▸ N2.2⟩
      · have z := (hn q h1).2 h2 e
        refine ⟨(hn q h1).1, fun y => ?_, kts_none F.keep z⟩
        obtain ⟨oL, es, ep, hL, _⟩ := F.ns
        rw [← y, z] at hL; cases hL
    · rcases List.mem_cons.mp hq with rfl | hq
      · exact ⟨(hn _ h8).1, N1.2⟩
      rcases List.mem_cons.mp hq with rfl | hq
      · exact ⟨kp _ _ (Ne.symm nar) N2.1, N2.2⟩
      · have Nq := N q (.tail _ (.tail _ hq))
        exact ⟨kp _ _ (n158 q hq) Nq.1, Nq.2⟩
  · obtain ⟨h1, h2⟩ := mem q hq
    by_cases e : q.1 = ar
    · exact .inl e
    · exact .inr ((hn q h1).2 h2 e)
end
/-- what a number draws -/
noncomputable abbrev lineI (v : Int) : Int := (v.fdiv 64).fmod 4
noncomputable abbrev kindI (v : Int) : Int := (v.fdiv 256).fmod 16
noncomputable def ResD (ns : List Int) (i : Nat) (y : Value) (ch : List (Addr × Obj)) : Prop := ∃ v T t1 t2 t3 e, ns[i]? = some v ∧ y = .ref T ∧ ch = [(T, tupO [.str (leadI v) t1, .int (lineI v) t2, .int (kindI v) t3] e)]
theorem chok_drawn {ns : List Int} {zs : List Value} {i : Nat} {ch : List (Addr × Obj)} (R : ChOk (ResD ns) i zs ch) (k : Nat) (z : Value) (h : zs[k]? = some z) : ∃ v T t1 t2 t3 e, ns[i + k]? = some v ∧ z = .ref T ∧ (T, tupO [.str (leadI v) t1, .int (lineI v) t2, .int (kindI v) t3] e) ∈ ch := by
  obtain ⟨c, hs, r⟩ := chok_at R k z h
  obtain ⟨v, T, t1, t2, t3, e1, hv, hy, hc⟩ := r
  exact ⟨v, T, t1, t2, t3, e1, hv, hy, hs _ (hc ▸ .head _)⟩
section
variable {prog : Program} {w : World} {A : Around} {s : Shared} {h₀ : Heap} {L : Addr} {m : Str → Option Value} {env : Env} {elt : Expr} {x x₁ x₂ x₃ : Str} {scope : Scope} {cl : List (Str × Addr)} {Fin : List Value → List (Addr × Obj) → Prop} {news : List (Addr × Obj)}
theorem comp_drawn {vals : List Value} {ns : List Int} {ax : Addr} {n : Nat} (hn : n = vals.toArray.size) (Iv : IntsAre vals ns) (hS : SrcAt h₀ ax vals.toArray news)
    (step : ∀ (v : Int) t I oI C oC D ys nw m₂ h tk (E' : Value → Shared → Prop) (Q : Value → Shared → Prop), v ∈ ns → NsObj oC m₂ → m₂ x = some (.int v t) → Fr h₀ L h m → News h₀ L h ((I, oI) :: (C, oC) :: (D, lst ys) :: (nw ++ news)) →
      (∀ T t1 t2 t3 e h' tk', Fr h₀ L h' m → News h₀ L h' ((T, tupO [.str (leadI v) t1, .int (lineI v) t2, .int (kindI v) t3] e) :: (I, oI) :: (C, oC) :: (D, lst ys) :: (nw ++ news)) → (∀ q ∈ (I, oI) :: (C, oC) :: (D, lst ys) :: (nw ++ news), q.1 < T) → Q (.ref T) { s with heap := h', toks := tk' }) →
      wpAny (model prog w) A (eval elt (compEnvC scope cl C env)) Q E' { s with heap := h, toks := tk })
    (fin : ∀ zs ch, zs.length = n → (∀ (k : Nat) (z : Value), zs[k]? = some z → ∃ v T t1 t2 t3 e, ns[k]? = some v ∧ z = .ref T ∧ (T, tupO [.str (leadI v) t1, .int (lineI v) t2, .int (kindI v) t3] e) ∈ ch) → (∀ q ∈ news, ∀ p ∈ ch, q.1 < p.1) → Fin zs (ch ++ news)) :
    CompRest prog w A h₀ L m env elt x scope cl s (SrcAt h₀ ax vals.toArray) (fun i v => vals.toArray[i]? = some v) Fin n 0 [] news := by
  refine comp_chunkN (M := n) (Res := ResD ns) srcAt_mono ?_ n 0 [] [] (by omega) hS fun zs ch hz hch hlt => ?_
  · intro i v I oI C oC D ys ch0 m₂ h tk E' Q hi hP hC hx F N hret
    have hP' : vals[i]? = some v := by simpa using hP
    have hl : i < ns.length := by
      rw [← Iv.length]
      exact (List.getElem?_eq_some_iff.mp hP').1
    obtain ⟨t, hv⟩ := ints_at Iv hl
    rw [hP'] at hv
    cases hv
    have hg : ns[i]? = some (ns.getD i 0) := by rw [List.getD_eq_getElem?_getD, List.getElem?_eq_getElem hl]; rfl
    refine step _ t I oI C oC D ys ch0 m₂ h tk E' Q (List.mem_of_getElem? hg) hC hx F N fun T t1 t2 t3 e h' tk' F' N' lt => ?_
    exact hret _ [(T, _)] h' tk' F' N' (fun q hq p hp => by rw [List.mem_singleton.mp hp]; exact lt q hq) ⟨_, T, t1, t2, t3, e, hg, rfl, rfl⟩
  · refine fin zs ch hz (fun k z h => ?_) hlt
    have := chok_drawn hch k z h
    rw [Nat.zero_add] at this
    exact this
/-- a comprehension over triples whose entries are texts -/
theorem rest_strs {its : Array Value} {ax : Addr} {Pd : Nat → Value → Value → Value → Prop} {Ps : Nat → Str → Prop} (hS : SrcAt h₀ ax its news)
    (hits : ∀ (i : Nat) v, its[i]? = some v → ∃ T a b c nt, v = .ref T ∧ (T, tupO [a, b, c] nt) ∈ news ∧ Pd i a b c)
    (step : ∀ i a b c I oI C oC D ys m₂ h tk (E' : Value → Shared → Prop) (Q : Value → Shared → Prop), Pd i a b c → NsObj oC m₂ → m₂ x₁ = some a → m₂ x₂ = some b → m₂ x₃ = some c → Fr h₀ L h m → News h₀ L h ((I, oI) :: (C, oC) :: (D, lst ys) :: news) →
      (∀ r t h' tk', Fr h₀ L h' m → News h₀ L h' ((I, oI) :: (C, oC) :: (D, lst ys) :: news) → Ps i r → Q (.str r t) { s with heap := h', toks := tk' }) →
      wpAny (model prog w) A (eval elt (compEnvC scope cl C env)) Q E' { s with heap := h, toks := tk }) :
    ∀ (k i : Nat) (ys : List Value), (∀ zs, zs.length = k → (∀ (j : Nat) (z : Value), zs[j]? = some z → ∃ r t, z = .str r t ∧ Ps (i + j) r) → Fin (ys ++ zs) news) → Rest3 prog w A h₀ L m env elt x₁ x₂ x₃ scope cl s (SrcAt h₀ ax its) its Fin k i ys news := by
  intro k
  induction k with
  | zero =>
    intro i ys fin
    have := fin [] rfl (fun _ _ h => by cases h)
    rw [List.append_nil] at this
    exact this
  | succ k ih =>
    intro i ys fin v hv
    obtain ⟨T, a, b, c, nt, e1, e2, e3⟩ := hits i v hv
    refine ⟨T, a, b, c, nt, e1, e2, fun I oI C oC D m₂ h tk E' hC g1 g2 g3 F N off ne => ?_⟩
    refine step i a b c I oI C oC D ys m₂ h tk E' _ e3 hC g1 g2 g3 F N fun r t h' tk' F' N' hp => ?_
    refine comp_end (ch := []) F' N' (fun _ _ _ h => nomatch h) off (by rw [List.nil_append]; exact hS) ?_
    rw [List.nil_append]
    refine ih (i + 1) (ys ++ [.str r t]) fun zs hz hzs => ?_
    have := fin (.str r t :: zs) (by simp [hz]) fun j z hj => ?_
    · rw [List.append_assoc]
      exact this
    · cases j with
      | zero =>
        cases hj
        exact ⟨r, t, rfl, hp⟩
      | succ j =>
        obtain ⟨r', t', e, hp'⟩ := hzs j z hj
        rw [Nat.add_assoc, Nat.add_comm 1 j] at hp'
        exact ⟨r', t', e, hp'⟩
end
noncomputable def menuS : List Str := [Str.ofString ".", Str.ofString "", Str.ofString ".0.", Str.ofString ".x"]
noncomputable def rowP (ld : Str) (ln kd : Int) : Str := ld ++ Str.ofString (toString ln) ++ menuS.getD (max (kd - 12) 0).toNat Str.empty ++ Str.ofString "2"
section
variable {prog : Program} {w : World} {A : Around} {E : Value → Shared → Prop} {s : Shared} {Q : Value → Shared → Prop}
theorem item_menu {value slice : PySem.Expr} {l : Addr} {a b c d : Str} {t0 t1 t2 t3 : Tok} {h₀ : Heap} {L : Addr} {news : List (Addr × Obj)} {e : Nat} {k : Int} {u : Tok} (N : News h₀ L s.heap news) (hm : (l, W.listOf [Value.str a t0, .str b t1, .str c t2, .str d t3].toArray e) ∈ news)
    (h0 : 0 ≤ k) (h4 : k < 4) (h : ∀ t, Q (.str ([a, b, c, d].getD k.toNat Str.empty) t) s)
    (hs : subscripted slice false (.ref l) (.int k u) = operate [.ref l, .int k u] (getItem (.ref l) (.int k u)) := by with_unfolding_all rfl) :
    wpAny (model prog w) A (subscriptTail value slice (.ref l) (.int k u)) Q E s :=
  KTb.item_list (ws := [a, b, c, d]) (News.isList N hm) (.cons _ _ (.cons _ _ (.cons _ _ (.cons _ _ .nil)))) h0 (by simpa using h4) (by omega) (fun t _ => h t) hs
theorem menu_le {k : Nat} : (menuS.getD k Str.empty).length ≤ 3 := by
  rcases k with _ | _ | _ | _ | k
  · decide
  · decide
  · decide
  · decide
  · show Str.empty.length ≤ 3
    decide
theorem num_le {ln : Int} (h0 : 0 ≤ ln) (h1 : ln ≤ 3) : (Str.ofString (toString ln)).length = 1 := by
  have : ln = 0 ∨ ln = 1 ∨ ln = 2 ∨ ln = 3 := by omega
  rcases this with rfl | rfl | rfl | rfl <;> decide +kernel
end
theorem one_more {α : Type} {l : List α} {n : Nat} (h : l.length = n + 1) : ∃ a r, l = a :: r ∧ r.length = n := by
  cases l with
  | nil => cases h
  | cons a r => exact ⟨a, r, rfl, Nat.succ.inj h⟩
theorem five {α : Type} {l : List α} (h : l.length = 5) : ∃ a b c d e, l = [a, b, c, d, e] := by
  obtain ⟨a, l1, e1, h1⟩ := one_more h
  obtain ⟨b, l2, e2, h2⟩ := one_more h1
  obtain ⟨c, l3, e3, h3⟩ := one_more h2
  obtain ⟨d, l4, e4, h4⟩ := one_more h3
  obtain ⟨e, l5, e5, h5⟩ := one_more h4
  rw [e1, e2, e3, e4, e5, List.eq_nil_of_length_eq_zero h5]
  exact ⟨a, b, c, d, e, rfl⟩
theorem pickC {h₀ h : Heap} {L c1 c2 : Addr} {o1 o2 : Obj} {r : List (Addr × Obj)} {R : Prop} (_ : News h₀ L h ((c2, o2) :: (c1, o1) :: r)) (k : ∀ o2' o1', o2' = o2 → o1' = o1 → R) : R := k o2 o1 rfl rfl
theorem rowP_len (v : Int) : (rowP (leadI v) (lineI v) (kindI v)).length ≤ 14 ∧ 2 ≤ (rowP (leadI v) (lineI v) (kindI v)).length := by
  have h1 : (leadI v).length ≤ 9 := by
    rw [leadI_N]
    exact (q4 ⟨mod64 v, mod64_lt v⟩).2.1
  have h2 : (Str.ofString (toString (lineI v))).length = 1 := num_le (by unfold lineI; rw [Int.fmod_eq_emod_of_nonneg _ (by decide)]; omega) (by unfold lineI; rw [Int.fmod_eq_emod_of_nonneg _ (by decide)]; omega)
  have h3 : (menuS.getD (max (kindI v - 12) 0).toNat Str.empty).length ≤ 3 := menu_le
  have h4 : (Str.ofString "2").length = 1 := by decide
  unfold rowP
  simp only [Str.length_append, h2, h4]
  omega
theorem sum_le {ys : List Str} (h : ∀ y ∈ ys, y.length ≤ 14) : (ys.map (·.length)).sum ≤ 14 * ys.length := by
  induction ys with
  | nil => exact Nat.le_refl _
  | cons y ys ih =>
    have h1 := h y (.head _)
    have h2 := ih fun z hz => h z (.tail _ hz)
    simp only [List.map_cons, List.sum_cons, List.length_cons]
    omega
theorem join_le {ys : List Str} (h : ∀ y ∈ ys, y.length ≤ 14) (hn : ys.length ≤ 6) : (Txt.join (Str.ofString "\n") ys).length ≤ 100 := by
  have h1 := StrLaws.join_length_le (Str.ofString "\n") ys
  have h2 := sum_le h
  have e : (Str.ofString "\n").length = 1 := by decide
  rw [e] at h1
  unfold Txt.join
  rw [StrLaws.glued_eq_join]
  omega
theorem join_ok {ys : List Str} (h : ∀ y ∈ ys, y.length ≤ 14) (hn : ys.length ≤ 6) : (ys.map (·.length)).sum + ys.length * (Str.ofString "\n").length ≤ 16777216 := by
  have h2 := sum_le h
  have e : (Str.ofString "\n").length = 1 := by decide
  rw [e]
  omega
theorem lenS {prog : Program} {w : World} {A : Around} {E : Value → Shared → Prop} {s : Shared} {Q : Value → Shared → Prop} {x : Str} {t : Tok} (hb : x.length ≤ 1000) (h : Q (.int x.length (s.toks + 1)) { s with toks := s.toks + 1 + 1 }) : wpAny (model prog w) A (call (.builtin "len") [.str x t]) Q E s :=
  PySem.P.len_str (by omega) h
/-- where the k-th row begins -/
noncomputable def bgI (rs : List Str) (k : Nat) : Int := ((Txt.join (Str.ofString "\n") (rs.take k ++ [Str.ofString ""])).length : Int)
theorem pickLD {h₀ h : Heap} {L ld lt : Addr} {o1 o2 : Obj} {r : List (Addr × Obj)} {R : Prop} (_ : News h₀ L h ((ld, o1) :: (lt, o2) :: r)) (k : ∀ ld' lt', ld' = ld → lt' = lt → R) : R := k ld lt rfl rfl
theorem pickQ {h₀ h : Heap} {L l0 T0 : Addr} {o0 oT : Obj} {r : List (Addr × Obj)} {R : Prop} (_ : News h₀ L h ((l0, o0) :: (T0, oT) :: r)) (k : ∀ l0' T0' oT', l0' = l0 → T0' = T0 → oT' = oT → R) : R := k l0 T0 oT rfl rfl rfl
theorem place_fin : ∀ (a : Fin 6) (b : Fin 15), Txt.split (Str.ofString (toString ((a : Nat) : Int)) ++ Str.ofString "." ++ Str.ofString (toString ((b : Nat) : Int))) (Str.ofString ".") = [Str.ofString (toString ((a : Nat) : Int)), Str.ofString (toString ((b : Nat) : Int))] := by decide +kernel
theorem num_fin : ∀ b : Fin 15, PySem.intText? (Str.ofString (toString ((b : Nat) : Int))) = some ((b : Nat) : Int) ∧ (Str.ofString (toString ((b : Nat) : Int))).length ≤ 2 := by decide +kernel
theorem place_ok {a b : Int} (h0 : 0 ≤ a) (h1 : a ≤ 5) (h2 : 0 ≤ b) (h3 : b ≤ 14) : Txt.split (Str.ofString (toString a) ++ Str.ofString "." ++ Str.ofString (toString b)) (Str.ofString ".") = [Str.ofString (toString a), Str.ofString (toString b)] := by
  obtain ⟨n, rfl⟩ : ∃ n : Nat, a = (n : Int) := ⟨a.toNat, by omega⟩
  obtain ⟨k, rfl⟩ : ∃ n : Nat, b = (n : Int) := ⟨b.toNat, by omega⟩
  exact place_fin ⟨n, by omega⟩ ⟨k, by omega⟩
theorem num_ok {b : Int} (h2 : 0 ≤ b) (h3 : b ≤ 14) : PySem.intText? (Str.ofString (toString b)) = some b ∧ (Str.ofString (toString b)).length ≤ 2 := by
  obtain ⟨k, rfl⟩ : ∃ n : Nat, b = (n : Int) := ⟨b.toNat, by omega⟩
  exact num_fin ⟨k, by omega⟩
/-- between the turns of the law's loop -/
structure TS where
  tv : List Value
  te : Nat
  dv : List Value
  de : Nat
  tc : List (Addr × Obj)
  ch : List (Addr × Obj)
structure PT (G : Heap) (lt ld : Addr) (base : List (Addr × Obj)) (i : Nat) (c : TS) : Prop where
  ht : TabC c.tc
  l1 : c.tv.length = i
  l2 : c.dv.length = i
  off : ∀ q ∈ c.ch, q.1 ≠ lt ∧ q.1 ≠ ld ∧ q.1 ≠ 151
  tof : ∀ q ∈ c.tc, q.1 ≠ lt ∧ q.1 ≠ ld
  same : ∀ (j : Nat) x, c.tv[j]? = some x → ∃ R, kqdOk 8 (toldD R) = true ∧ RDV G (c.ch ++ base) x (toldD R) ∧ ∃ y, c.dv[j]? = some y ∧ RDV G (c.ch ++ base) y (toldD R)
theorem tabC_off {h₀ h : Heap} {L : Addr} {tc : List (Addr × Obj)} (ht : TabC tc) (N : News h₀ L h tc) {a : Addr} {o : Obj} (ho : h.get? a = some o) (hd : (∃ vs n, o.data = .seq vs n) ∨ ∃ x y t, o.data = .fields #[x, .int y t]) (h151 : a ≠ 151) : ∀ q ∈ tc, q.1 ≠ a := by
  have code : ∀ o1 : Obj, (a, o1) ∈ tc → CodeO o1 → False := fun o1 hm hc => by
    have e := (N _ hm).1
    rw [show (a, o1).1 = a from rfl, ho] at e
    cases e
    obtain ⟨vs, t, h1, h2⟩ := hc
    rcases hd with ⟨ws, n, h3⟩ | ⟨x, y, u, h3⟩
    · rw [h1] at h3
      cases h3
    · rw [h1] at h3
      cases h3
      cases h2
  rintro q hq rfl
  rcases ht with rfl | ⟨a1, o1, a2, o2, rfl, c1, c2, _⟩
  · rw [List.mem_singleton.mp hq] at h151
    exact h151 rfl
  · simp only [List.mem_cons, List.not_mem_nil, or_false] at hq
    rcases hq with rfl | rfl | rfl
    · exact h151 rfl
    · exact code o1 (.tail _ (.head _)) c1
    · exact code o2 (.tail _ (.tail _ (.head _))) c2
/-- one turn more -/
theorem PT.snoc {G : Heap} {lt ld : Addr} {base : List (Addr × Obj)} {i : Nat} {tv dv : List Value} {te de te' de' : Nat} {tc tc' ch ch2 : List (Addr × Obj)} {x y : Value} {R : Res} (P : PT G lt ld base i ⟨tv, te, dv, de, tc, ch⟩) (ht : TabC tc') (tof : ∀ q ∈ tc', q.1 ≠ lt ∧ q.1 ≠ ld)
    (off : ∀ q ∈ ch2, q.1 ≠ lt ∧ q.1 ≠ ld ∧ q.1 ≠ 151) (rx : RDV G ch2 x (toldD R)) (ry : RDV G base y (toldD R)) (hk : kqdOk 8 (toldD R) = true) : PT G lt ld base (i + 1) ⟨tv ++ [x], te', dv ++ [y], de', tc', ch2 ++ ch⟩ := by
  have s1 : ∀ q ∈ ch ++ base, q ∈ ch2 ++ ch ++ base := fun q hq => by rw [List.append_assoc]; exact List.mem_append_right _ hq
  have s2 : ∀ q ∈ ch2, q ∈ ch2 ++ ch ++ base := fun q hq => by rw [List.append_assoc]; exact List.mem_append_left _ hq
  have s3 : ∀ q ∈ base, q ∈ ch2 ++ ch ++ base := fun q hq => List.mem_append_right _ hq
  have h1 : tv.length = i := P.l1
  have h2 : dv.length = i := P.l2
  refine ⟨ht, by simp [h1], by simp [h2], fun q hq => (List.mem_append.mp hq).elim (off q) (P.off q), tof, fun j z hj => ?_⟩
  dsimp only at hj ⊢
  rcases Nat.lt_trichotomy j tv.length with q | q | q
  · rw [List.getElem?_append_left q] at hj
    obtain ⟨R', kk, a, y', hy, b⟩ := P.same j z hj
    exact ⟨R', kk, a.mono s1, y', by rw [List.getElem?_append_left (by rw [h2, ← h1]; exact q)]; exact hy, b.mono s1⟩
  · subst q
    rw [List.getElem?_append_right (Nat.le_refl _), Nat.sub_self] at hj
    cases hj
    refine ⟨R, hk, rx.mono s2, y, ?_, ry.mono s3⟩
    rw [h1, ← h2, List.getElem?_append_right (Nat.le_refl _), Nat.sub_self]
    rfl
  · rw [List.getElem?_eq_none (by simp; omega)] at hj
    cases hj
/-- the two lists read alike -/
theorem PT.reads {G h : Heap} {lt ld : Addr} {base : List (Addr × Obj)} {i : Nat} {c : TS} (P : PT G lt ld base i c) (k1 : ∀ b o, G.get? b = some o → SeqO o → h.get? b = some o) (k2 : ∀ q ∈ c.ch ++ base, h.get? q.1 = some q.2) :
    ∃ Rs : List Res, (∀ R ∈ Rs, kqdOk 8 (toldD R) = true) ∧ RDs h c.tv (Rs.map toldD) ∧ RDs h c.dv (Rs.map toldD) := by
  obtain ⟨tv, te, dv, de, tc, ch⟩ := c
  have key : ∀ (tv dv : List Value), tv.length = dv.length → (∀ (j : Nat) x, tv[j]? = some x → ∃ R, kqdOk 8 (toldD R) = true ∧ RDV G (ch ++ base) x (toldD R) ∧ ∃ y, dv[j]? = some y ∧ RDV G (ch ++ base) y (toldD R)) → ∃ Rs : List Res, (∀ R ∈ Rs, kqdOk 8 (toldD R) = true) ∧ RDs h tv (Rs.map toldD) ∧ RDs h dv (Rs.map toldD) := by
    intro tv
    induction tv with
    | nil =>
      intro dv hl _
      cases dv with
      | nil => exact ⟨[], (fun _ h => nomatch h), RDs.nil, RDs.nil⟩
      | cons y r => cases hl
    | cons x tv ih =>
      intro dv hl hs
      cases dv with
      | nil => cases hl
      | cons y dv =>
        obtain ⟨R, kk, a, y', hy, b⟩ := hs 0 x rfl
        cases hy
        obtain ⟨Rs, ks, r1, r2⟩ := ih dv (by simpa using hl) fun j z hj => hs (j + 1) z hj
        exact ⟨R :: Rs, List.forall_mem_cons.mpr ⟨kk, ks⟩, RDs.cons (a h k1 k2) r1, RDs.cons (b h k1 k2) r2⟩
  exact key tv dv (P.l1.trans P.l2.symm) P.same
section
variable {prog : Program} {w : World} {A₀ : Around} {s : Shared} {base h₀ : Heap} {envc : Env} {L : Addr} {m : Str → Option Value} {tc led : List (Addr × Obj)} {gd : Option (List Code)} {dp un : Nat}
  {p : Program} {loose : List Str} {mean : ExcName → Option Value} {mg mb : Str → Option Value} {Q E : Value → Shared → Prop} {pf : Addr} {D : List RowD} {bes text : Str} {tx tcl : Tok} {col : Int} {R₀ : Res}
theorem told_use (B : Below A₀ base [] h₀) (F : Fr h₀ L s.heap m) (X : (Mine.hd.heap_1 w.params).In h₀) (N : News h₀ L s.heap (tc ++ led)) (T : Top p loose mean mg mb h₀) (XB : (Mine.hd.heap_1 w.params).In base) (TB : Top p loose mean mg mb base)
    (P : PrAt w led pf D bes text) (C : CodeHd h₀ 155 151) (ht : TabC tc) (hne : ∀ q ∈ led, q.1 ≠ 151) (hR : revTop (fun b => searchL bes b 0 D) col = R₀)
    (hw : ∀ k wit row, R₀ = .nag k wit row → wit ≠ [] ∧ ∃ (l : List Int) (f g : Int → Int), wit = l.map fun z => Dat.tuple [.int z, .int (f z), .int (g z)])
    (hd : dp ≤ 480) (hu : un ≤ 800) (hfc : envc.frame = some L) (hck : envc.scope.kind = .function)
    (h : ∀ v tc' ch h' tk', TabC tc' → Fr h₀ L h' m → News h₀ L h' (ch ++ (tc' ++ led)) → RDV h₀ ch v (toldD R₀) → (∀ q ∈ ch, ¬ OffZ h' q.1) → Q v { s with heap := h', toks := tk' }) :
    wpAny (model prog w) { handled := none, depth := dp, frames := some [envc], guards := gd, units := un } (call (.ref 168) [.ref pf, .str text tx, .int col tcl]) Q E s := by
  refine depth_le (A' := { handled := none, depth := 480, frames := some [envc], guards := gd, units := 800 }) (told_walk B F X N T XB TB P C ht hne hR hfc hck fun v tc' ch h' tk' hT F' N' rv => ?_) rfl hd rfl rfl hu
  obtain ⟨ch2, N2, rv2, off⟩ := told_sep F' (rv h' (fun b o hb _ => F'.keep b o hb) fun q hq => (N' q (List.mem_append_left _ hq)).1) hw
  exact h v tc' ch2 h' tk' hT F' (fun q hq => (List.mem_append.mp hq).elim (N2 q) fun hq => N' q (List.mem_append_right _ hq)) rv2 off
end
theorem same3 {z a b c : Str} (h : [a, b, c].contains z = false) : z ≠ a ∧ z ≠ b ∧ z ≠ c := by
  simpa using h
theorem PT.told {G h : Heap} {lt ld : Addr} {base : List (Addr × Obj)} {i : Nat} {c : TS} (P : PT G lt ld base i c) (k1 : ∀ b o, G.get? b = some o → SeqO o → h.get? b = some o) (k2 : ∀ q ∈ c.ch ++ base, h.get? q.1 = some q.2) :
    (∀ x, c.tv[0]? = some x → ∃ R, RD h x (toldD R)) ∧ (∀ y, c.dv[0]? = some y → ∃ R, RD h y (toldD R)) := by
  refine ⟨fun x hx => ?_, fun y hy => ?_⟩
  · obtain ⟨R, _, a, _⟩ := P.same 0 x hx
    exact ⟨R, a h k1 k2⟩
  · have hl : 0 < c.tv.length := by
      rw [P.l1, ← P.l2]
      exact (List.getElem?_eq_some_iff.mp hy).1
    obtain ⟨R, _, _, y', hy', b⟩ := P.same 0 _ (List.getElem?_eq_getElem hl)
    rw [hy] at hy'
    cases hy'
    exact ⟨R, b h k1 k2⟩
end

section
set_option maxRecDepth 100000
noncomputable def rowI (v : Int) : Str := rowP (leadI v) (lineI v) (kindI v)
noncomputable def restI (ln kd : Int) : Str := Str.ofString (toString ln) ++ menuS.getD (max (kd - 12) 0).toNat Str.empty ++ Str.ofString "2"
theorem rowI_eq (v : Int) : rowI v = leadI v ++ restI (lineI v) (kindI v) := by
  unfold rowI rowP restI
  simp only [Str.append_assoc]
theorem line_r (v : Int) : 0 ≤ lineI v ∧ lineI v ≤ 3 := by unfold lineI; rw [Int.fmod_eq_emod_of_nonneg _ (by decide)]; omega
theorem kind_r (v : Int) : 0 ≤ kindI v ∧ kindI v ≤ 15 := by unfold kindI; rw [Int.fmod_eq_emod_of_nonneg _ (by decide)]; omega
theorem kinds {kd : Int} (h0 : 0 ≤ kd) (h1 : kd ≤ 15) : (¬ 12 < kd ∧ (max (kd - 12) 0).toNat = 0) ∨ (12 < kd ∧ ((max (kd - 12) 0).toNat = 1 ∨ (max (kd - 12) 0).toNat = 2 ∨ (max (kd - 12) 0).toNat = 3)) := by
  obtain ⟨n, rfl⟩ := Int.eq_ofNat_of_zero_le h0
  have hn : n < 16 := Int.ofNat_lt.mp (Int.lt_of_le_of_lt h1 (by decide))
  have k : ∀ i : Fin 16, (¬ 12 < ((i : Nat) : Int) ∧ (max (((i : Nat) : Int) - 12) 0).toNat = 0) ∨ (12 < ((i : Nat) : Int) ∧ ((max (((i : Nat) : Int) - 12) 0).toNat = 1 ∨ (max (((i : Nat) : Int) - 12) 0).toNat = 2 ∨ (max (((i : Nat) : Int) - 12) 0).toNat = 3)) := by decide
  exact k ⟨n, hn⟩
theorem rest_reads {ln kd : Int} (h0 : 0 ≤ ln) (h1 : ln ≤ 3) (h2 : 0 ≤ kd) (h3 : kd ≤ 15) : RowK (restI ln kd) (if 12 < kd then none else some ln) := by
  unfold restI
  have hl : ln = 0 ∨ ln = 1 ∨ ln = 2 ∨ ln = 3 := by omega
  rcases kinds h2 h3 with ⟨hk, hm⟩ | ⟨hk, hm | hm | hm⟩
  · rw [if_neg hk, hm]
    rcases hl with rfl | rfl | rfl | rfl
    · exact .two (a := Str.ofString "0") (by decide +kernel) (by decide +kernel) (by decide)
    · exact .two (a := Str.ofString "1") (by decide +kernel) (by decide +kernel) (by decide)
    · exact .two (a := Str.ofString "2") (by decide +kernel) (by decide +kernel) (by decide)
    · exact .two (a := Str.ofString "3") (by decide +kernel) (by decide +kernel) (by decide)
  · rw [if_pos hk, hm]
    rcases hl with rfl | rfl | rfl | rfl
    · exact .few (a := Str.ofString "02") (x := 2) (by decide +kernel) (by decide +kernel) (by decide)
    · exact .few (a := Str.ofString "12") (x := 12) (by decide +kernel) (by decide +kernel) (by decide)
    · exact .few (a := Str.ofString "22") (x := 22) (by decide +kernel) (by decide +kernel) (by decide)
    · exact .few (a := Str.ofString "32") (x := 32) (by decide +kernel) (by decide +kernel) (by decide)
  · rw [if_pos hk, hm]
    rcases hl with rfl | rfl | rfl | rfl
    · exact .many (a := Str.ofString "0") (b := Str.ofString "0") (c := Str.ofString "2") (x := 0) (y := 0) (z := 2) (by decide +kernel) (by decide +kernel) (by decide) (by decide +kernel) (by decide) (by decide +kernel) (by decide)
    · exact .many (a := Str.ofString "1") (b := Str.ofString "0") (c := Str.ofString "2") (x := 1) (y := 0) (z := 2) (by decide +kernel) (by decide +kernel) (by decide) (by decide +kernel) (by decide) (by decide +kernel) (by decide)
    · exact .many (a := Str.ofString "2") (b := Str.ofString "0") (c := Str.ofString "2") (x := 2) (y := 0) (z := 2) (by decide +kernel) (by decide +kernel) (by decide) (by decide +kernel) (by decide) (by decide +kernel) (by decide)
    · exact .many (a := Str.ofString "3") (b := Str.ofString "0") (c := Str.ofString "2") (x := 3) (y := 0) (z := 2) (by decide +kernel) (by decide +kernel) (by decide) (by decide +kernel) (by decide) (by decide +kernel) (by decide)
  · rw [if_pos hk, hm]
    rcases hl with rfl | rfl | rfl | rfl
    · exact .bad (a := Str.ofString "0") (x := 0) (by decide +kernel) (by decide +kernel) (by decide)
    · exact .bad (a := Str.ofString "1") (x := 1) (by decide +kernel) (by decide +kernel) (by decide)
    · exact .bad (a := Str.ofString "2") (x := 2) (by decide +kernel) (by decide +kernel) (by decide)
    · exact .bad (a := Str.ofString "3") (x := 3) (by decide +kernel) (by decide +kernel) (by decide)
theorem rest_head {ln kd : Int} (h0 : 0 ≤ ln) (h1 : ln ≤ 3) : ∃ x q, (restI ln kd).cps.toList = x :: q ∧ blankB x = false := by
  have hl : ln = 0 ∨ ln = 1 ∨ ln = 2 ∨ ln = 3 := by omega
  unfold restI
  simp only [Str.cps_append, Array.toList_append]
  rcases hl with rfl | rfl | rfl | rfl
  · exact ⟨48, _, rfl, by decide⟩
  · exact ⟨49, _, rfl, by decide⟩
  · exact ⟨50, _, rfl, by decide⟩
  · exact ⟨51, _, rfl, by decide⟩
theorem rest_of (v : Int) : restS (rowI v) = restI (lineI v) (kindI v) := by
  obtain ⟨x, q, hx, hb⟩ := rest_head (kd := kindI v) (line_r v).1 (line_r v).2
  have hm := mod64_lt v
  rw [rowI_eq, leadI_N]
  have es := scT_app (q4 ⟨mod64 v, hm⟩).1 hx hb
  dsimp only at es
  have hn := (scT_at hm).2.2.1
  have hl := (q4 ⟨mod64 v, hm⟩).2.2
  dsimp only at hl
  unfold restS
  rw [es, hn, ← hl]
  show StrLaws.sliceText _ _ _ = _
  rw [StrLaws.sliceText_from ⟨by omega, by simp [Str.cps_append, Str.length]; omega⟩]
  have e1 : ((leadN (mod64 v)).length : Int).toNat = (leadN (mod64 v)).cps.toList.length := by simp [Str.length]
  have e2 : (leadN (mod64 v) ++ restI (lineI v) (kindI v)).cps.toList = (leadN (mod64 v)).cps.toList ++ (restI (lineI v) (kindI v)).cps.toList := by simp [Str.cps_append]
  have e3 : (leadN (mod64 v)).length = (leadN (mod64 v)).cps.toList.length := by simp [Str.length]
  rw [e1, e2, List.drop_left, List.take_of_length_le (by rw [List.length_append, e3]; omega)]
theorem rowI_len (v : Int) : (rowI v).length ≤ 14 ∧ 2 ≤ (rowI v).length := rowP_len v
theorem join_nl : ∀ l : List Str, (Txt.join (Str.ofString "\n") (l ++ [Str.ofString ""])).length = (l.map fun r => r.length + 1).sum := by
  intro l
  have e : (Str.ofString "\n").length = 1 := by decide
  unfold Txt.join
  rw [StrLaws.glued_eq_join]
  induction l with
  | nil => rfl
  | cons x l ih =>
    cases l with
    | nil =>
      show (x ++ Str.ofString "\n" ++ Str.ofString "").length = _
      simp only [Str.length_append, e, List.map_cons, List.map_nil, List.sum_cons, List.sum_nil]
      rfl
    | cons y l =>
      show (x ++ Str.ofString "\n" ++ Str.join (Str.ofString "\n") (y :: l ++ [Str.ofString ""])).length = _
      simp only [Str.length_append, e, ih, List.map_cons, List.sum_cons]
theorem bgI_eq (rs : List Str) (k : Nat) : bgI rs k = (((rs.take k).map fun r => r.length + 1).sum : Nat) := by
  unfold bgI
  rw [join_nl]
theorem bgI_zero (rs : List Str) : bgI rs 0 = 0 := by rw [bgI_eq]; rfl
theorem bgI_succ {rs : List Str} {k : Nat} {r : Str} (h : rs[k]? = some r) : bgI rs (k + 1) = bgI rs k + (r.length : Int) + 1 := by
  rw [bgI_eq, bgI_eq, List.take_add_one, h]
  simp only [Option.toList_some, List.map_append, List.map_cons, List.map_nil, List.sum_append, List.sum_cons, List.sum_nil]
  omega
theorem bgI_ge (rs : List Str) (k : Nat) : 0 ≤ bgI rs k := by rw [bgI_eq]; exact Int.natCast_nonneg _
theorem bgI_le {ns : List Int} (hn : ns.length = 5) (k : Nat) : bgI (ns.map rowI) k ≤ 100 := by
  have h : ∀ y ∈ (ns.map rowI).take k ++ [Str.ofString ""], y.length ≤ 14 := fun y hy => by
    rcases List.mem_append.mp hy with hy | hy
    · obtain ⟨v, _, rfl⟩ := List.mem_map.mp (List.mem_of_mem_take hy)
      exact (rowI_len v).1
    · rw [List.mem_singleton.mp hy]
      decide
  have hl : ((ns.map rowI).take k ++ [Str.ofString ""]).length ≤ 6 := by
    rw [List.length_append, List.length_take, List.length_map, hn]
    show min k 5 + 1 ≤ 6
    omega
  have := join_le h hl
  unfold bgI
  omega
/-- the rows as search meets them, and as they were drawn -/
noncomputable def rowD (rs : List Str) (k : Nat) (v : Int) : RowD := ⟨rowI v, bgI rs k, if 12 < kindI v then none else some (lineI v)⟩
noncomputable def evD (rs : List Str) (k : Nat) (v : Int) : EvD := ⟨rowI v, bgI rs k, leadI v, lineI v, kindI v⟩
noncomputable def rowsL (rs : List Str) : Nat → List Int → List RowD
  | _, [] => []
  | k, v :: l => rowD rs k v :: rowsL rs (k + 1) l
noncomputable def drawL (rs : List Str) : Nat → List Int → List EvD
  | _, [] => []
  | k, v :: l => evD rs k v :: drawL rs (k + 1) l
noncomputable def outsL (rs : List Str) (bes : Str) : Nat → List Int → List Out
  | _, [] => []
  | k, v :: l => evOut bes k (evD rs k v) :: outsL rs bes (k + 1) l
theorem ev_rowI (vb : Int) (rs : List Str) (k : Nat) (v : Int) : evRow (leadI vb) k (rowD rs k v) = evOut (leadI vb) k (evD rs k v) := by
  obtain ⟨x, q, hx, hb⟩ := rest_head (kd := kindI v) (line_r v).1 (line_r v).2
  unfold rowD evD
  rw [rowI_eq, leadI_N vb, leadI_N v]
  exact ev_row (mod64_lt vb) (mod64_lt v) hx hb
theorem evs_rows (vb : Int) (rs : List Str) : ∀ (l : List Int) (k : Nat), evsL (leadI vb) k (rowsL rs k l) = outsL rs (leadI vb) k l
  | [], _ => rfl
  | v :: l, k => by
    unfold rowsL evsL outsL
    rw [ev_rowI, evs_rows]
theorem cons_rows {rs : List Str} : ∀ (l : List Int) (k : Nat), (∀ j v, l[j]? = some v → rs[k + j]? = some (rowI v)) → ConsR (bgI rs k) (rowsL rs k l)
  | [], _, _ => trivial
  | v :: l, k, h => by
    have h0 := h 0 v rfl
    rw [Nat.add_zero] at h0
    have hb := bgI_succ h0
    have hl := (rowI_len v).2
    refine ⟨rfl, ?_, ?_⟩
    · show bgI rs k < bgI rs k + ((rowI v).length : Int)
      omega
    · have : (rowD rs k v).fin + 1 = bgI rs (k + 1) := by
        show bgI rs k + ((rowI v).length : Int) + 1 = _
        rw [Nat.add_zero] at hb
        omega
      rw [this]
      refine cons_rows l (k + 1) fun j w hj => ?_
      have := h (j + 1) w hj
      rwa [Nat.add_assoc, Nat.add_comm 1 j]
theorem rowsL_len (rs : List Str) : ∀ (l : List Int) (k : Nat), (rowsL rs k l).length = l.length
  | [], _ => rfl
  | v :: l, k => by simp [rowsL, rowsL_len rs l (k + 1)]
theorem drawL_len (rs : List Str) : ∀ (l : List Int) (k : Nat), (drawL rs k l).length = l.length
  | [], _ => rfl
  | v :: l, k => by simp [drawL, drawL_len rs l (k + 1)]
theorem outsL_len (rs : List Str) (bes : Str) : ∀ (l : List Int) (k : Nat), (outsL rs bes k l).length = l.length
  | [], _ => rfl
  | v :: l, k => by simp [outsL, outsL_len rs bes l (k + 1)]
theorem rowsL_at {rs : List Str} : ∀ {l : List Int} {k j : Nat} {d : RowD}, (rowsL rs k l)[j]? = some d → ∃ v, l[j]? = some v ∧ d = rowD rs (k + j) v
  | [], _, _, _, h => by cases h
  | v :: l, k, 0, d, h => by cases h; exact ⟨v, rfl, rfl⟩
  | v :: l, k, j + 1, d, h => by
    obtain ⟨w, h1, h2⟩ := rowsL_at (l := l) (k := k + 1) h
    exact ⟨w, h1, by rw [h2, Nat.add_assoc, Nat.add_comm 1 j]⟩
theorem drawL_at {rs : List Str} : ∀ {l : List Int} {k j : Nat} {d : EvD}, (drawL rs k l)[j]? = some d → ∃ v, l[j]? = some v ∧ d = evD rs (k + j) v
  | [], _, _, _, h => by cases h
  | v :: l, k, 0, d, h => by cases h; exact ⟨v, rfl, rfl⟩
  | v :: l, k, j + 1, d, h => by
    obtain ⟨w, h1, h2⟩ := drawL_at (l := l) (k := k + 1) h
    exact ⟨w, h1, by rw [h2, Nat.add_assoc, Nat.add_comm 1 j]⟩
theorem outsL_at {rs : List Str} {bes : Str} : ∀ {l : List Int} {k j : Nat} {v : Int}, l[j]? = some v → (outsL rs bes k l)[j]? = some (evOut bes (k + j) (evD rs (k + j) v))
  | [], _, _, _, h => by cases h
  | v :: l, k, 0, d, h => by cases h; rfl
  | v :: l, k, j + 1, d, h => by
    have := outsL_at (rs := rs) (bes := bes) (l := l) (k := k + 1) h
    rw [Nat.add_assoc, Nat.add_comm 1 j] at this
    exact this
theorem p4 : ∀ a : Fin 64, ∀ b : Fin 64, (decide (((rangeKs 1 (max (rowT a).lg (rowT b).lg + 1).toNat).filter fun z => (rowT a).lv.getD (z - 1).toNat 0 != (rowT b).lv.getD (z - 1).toNat 0) = []) && !decide ((rowT a).lv = (rowT b).lv)) = false := by decide +kernel
theorem evOut_inv {bes : Str} {k : Nat} {d : EvD} {i : Int} {wit : List Dat} {row : Str} (h : evOut bes k d = .nag i wit row) :
    colsL bes ≠ colsL d.lead ∧ wit = unlikeL (colsL bes) (colsL d.lead) (longL bes d.lead) ∧ row = d.raw := by
  unfold evOut at h
  split at h
  · cases h
  · split at h
    · split at h <;> cases h
    · split at h
      · cases h
      · rename_i hne
        injection h with _ h1 h2
        exact ⟨fun q => hne (.inl q), h1.symm, h2.symm⟩
theorem evOut_nag {vb : Int} {rs : List Str} {k j : Nat} {v : Int} {i : Int} {wit : List Dat} {row : Str} (h : evOut (leadI vb) k (evD rs j v) = .nag i wit row) :
    wit ≠ [] ∧ ∃ (l : List Int) (f g : Int → Int), wit = l.map fun z => Dat.tuple [.int z, .int (f z), .int (g z)] := by
  obtain ⟨hne, hw', _⟩ := evOut_inv h
  rw [hw']
  refine ⟨fun hw => hne ?_, _, _, _, rfl⟩
  have ha := mod64_lt vb
  have hb := mod64_lt v
  have c1 := q2 ⟨mod64 vb, ha⟩
  have c2 := q2 ⟨mod64 v, hb⟩
  dsimp only at c1 c2
  have e1 : colsL (leadI vb) = (rowT (mod64 vb)).lv := by rw [leadI_N]; exact c1
  have e2 : colsL (evD rs j v).lead = (rowT (mod64 v)).lv := by show colsL (leadI v) = _; rw [leadI_N]; exact c2
  have e3 : longL (leadI vb) (evD rs j v).lead = max (rowT (mod64 vb)).lg (rowT (mod64 v)).lg := by
    show longL (leadI vb) (leadI v) = _
    rw [leadI_N vb, leadI_N v]
    exact long_at ha hb
  rw [e1, e2, e3] at hw
  rw [e1, e2]
  have hp := p4 ⟨mod64 vb, ha⟩ ⟨mod64 v, hb⟩
  dsimp only at hp
  unfold unlikeL at hw
  rw [List.map_eq_nil_iff] at hw
  rw [decide_eq_true hw, Bool.true_and] at hp
  exact of_decide_eq_true (by simpa using hp)
theorem due_nag {bound : Int} {i : Int} {wit : List Dat} {row : Str} {O : List Out} : ∀ {last : Option (Int × Int)}, dueL bound last O = .nag i wit row → Out.nag i wit row ∈ O := by
  induction O with
  | nil => exact fun h => nomatch h
  | cons o r ih =>
    intro last h
    cases o with
    | none => exact .tail _ (ih (last := last) h)
    | hit a b =>
      unfold dueL at h
      split at h
      · cases h
      · exact .tail _ (ih h)
    | nag k w r' =>
      injection h with h1 h2 h3
      rw [h1, h2, h3]
      exact .head _
    | bad => cases h
theorem outs_mem {b : Str} {rs : List Str} {o : Out} {l : List Int} : ∀ {k : Nat}, o ∈ outsL rs b k l → ∃ v k' j, evOut b k' (evD rs j v) = o := by
  induction l with
  | nil => exact fun h => nomatch h
  | cons v l ih =>
    intro k h
    unfold outsL at h
    rcases List.mem_cons.mp h with h | h
    · exact ⟨v, _, _, h.symm⟩
    · exact ih h
theorem outs_nag {vb : Int} {rs : List Str} {i : Int} {wit : List Dat} {row : Str} {l : List Int} {k : Nat} (h : Out.nag i wit row ∈ outsL rs (leadI vb) k l) : wit ≠ [] ∧ ∃ (l : List Int) (f g : Int → Int), wit = l.map fun z => Dat.tuple [.int z, .int (f z), .int (g z)] := by
  obtain ⟨v, k', j, e⟩ := outs_mem h
  exact evOut_nag e
theorem due_wit {vb : Int} {rs : List Str} {l : List Int} {k0 : Nat} {bound : Int} {i : Int} {wit : List Dat} {row : Str} (h : dueL bound none (outsL rs (leadI vb) k0 l) = .nag i wit row) : wit ≠ [] ∧ ∃ (l : List Int) (f g : Int → Int), wit = l.map fun z => Dat.tuple [.int z, .int (f z), .int (g z)] := outs_nag (due_nag h)
theorem strOk_app {a b : Str} (ha : PyData.strOk a = true) (hb : PyData.strOk b = true) : PyData.strOk (a ++ b) = true := by
  unfold PyData.strOk at *
  rw [Str.cps_append, Array.all_append, ha, hb]
  rfl
theorem p5 : ∀ a : Fin 64, PyData.strOk (leadN a) = true := by decide +kernel
theorem p6 : ∀ a : Fin 4, PyData.strOk (Str.ofString (toString ((a : Nat) : Int))) = true := by decide +kernel
theorem p7 : ∀ a : Fin 4, PyData.strOk (menuS.getD a Str.empty) = true := by decide +kernel
theorem rowI_ok (v : Int) : PyData.strOk (rowI v) = true := by
  unfold rowI rowP
  have h1 := line_r v
  have h2 := kind_r v
  obtain ⟨n, hn⟩ : ∃ n : Nat, lineI v = (n : Int) := ⟨(lineI v).toNat, by omega⟩
  have hm : (max (kindI v - 12) 0).toNat < 4 := by omega
  refine strOk_app (strOk_app (strOk_app ?_ ?_) (p7 ⟨_, hm⟩)) (by decide +kernel)
  · rw [leadI_N]
    exact p5 ⟨mod64 v, mod64_lt v⟩
  · rw [hn]
    exact p6 ⟨n, by omega⟩
theorem outs_row {vb : Int} {rs : List Str} {i : Int} {wit : List Dat} {row : Str} {l : List Int} {k : Nat} (h : Out.nag i wit row ∈ outsL rs (leadI vb) k l) : ∃ v, row = rowI v := by
  obtain ⟨v, k', j, e⟩ := outs_mem h
  exact ⟨v, (evOut_inv e).2.2⟩
/-- what is due can be compared -/
theorem due_okD {vb : Int} {rs : List Str} {l : List Int} {k0 : Nat} {bound : Int} : kqdOk 8 (toldD (dueL bound none (outsL rs (leadI vb) k0 l))) = true := by
  cases h : dueL bound none (outsL rs (leadI vb) k0 l) with
  | ret o =>
    cases o with
    | none => rfl
    | some p => rfl
  | bad => show kqdOk 8 (.str (Str.ofString "spoilt")) = true; decide +kernel
  | nag i wit row =>
    obtain ⟨_, l', f, g, rfl⟩ := due_wit h
    obtain ⟨v, rfl⟩ := outs_row (due_nag h)
    show kqdOk 8 (.list [.int i, .list _, .str (rowI v)]) = true
    simp only [kqdOk, List.all_cons, List.all_nil, List.all_map, rowI_ok, Bool.and_true, Bool.true_and]
    exact List.all_eq_true.mpr fun _ _ => rfl
/-- the events' data as the law holds them -/
theorem evs_at {led : List (Addr × Obj)} {vb : Int} {ns : List Int} {vs bs zs : List Value} {ch : List (Addr × Obj)} (hn : ns.length = 5) (hvs : ∀ (k : Nat) v, ns[k]? = some v → ∃ t, vs[k]? = some (Value.str (rowI v) t))
    (Ibs : IntsAre bs ((List.range 5).map (bgI (ns.map rowI)))) (hz : zs.length = 5)
    (hzs : ∀ (k : Nat) (z : Value), zs[k]? = some z → ∃ v T t1 t2 t3 e, ns[k]? = some v ∧ z = .ref T ∧ (T, tupO [.str (leadI v) t1, .int (lineI v) t2, .int (kindI v) t3] e) ∈ ch) (sub : ∀ q ∈ ch, q ∈ led) :
    EvsAt led (leadI vb) (drawL (ns.map rowI) 0 ns) vs bs zs := fun k d hd => by
  obtain ⟨v, hv, rfl⟩ := drawL_at hd
  rw [Nat.zero_add]
  have hk : k < 5 := by
    rw [← hn]
    exact (List.getElem?_eq_some_iff.mp hv).1
  obtain ⟨t, e1⟩ := hvs k v hv
  obtain ⟨tb, e2⟩ := ints_at Ibs (i := k) (by simpa using hk)
  obtain ⟨v', T, t1, t2, t3, e, h1, h2, h3⟩ := hzs k _ (List.getElem?_eq_getElem (by rw [hz]; exact hk))
  rw [hv] at h1
  cases h1
  have hb : ((List.range 5).map (bgI (ns.map rowI))).getD k 0 = bgI (ns.map rowI) k := by
    rw [List.getD_eq_getElem?_getD, List.getElem?_map, List.getElem?_range hk]
    rfl
  rw [hb] at e2
  refine ⟨⟨?_, ?_, ?_, bgI_ge _ _, ?_, (line_r v).1, ?_, (kind_r v).1, ?_⟩, t, tb, T, e, t1, t2, t3, e1, e2, (List.getElem?_eq_getElem _).trans (congrArg some h2), sub _ h3⟩
  · show longL (leadI vb) (leadI v) ≤ 9
    rw [leadI_N vb, leadI_N v, long_at (mod64_lt vb) (mod64_lt v)]
    have := lg_at (mod64_lt vb)
    have := lg_at (mod64_lt v)
    omega
  · show (rowI v).length ≤ 50
    have := (rowI_len v).1
    omega
  · show (leadI v).length ≤ 9
    rw [leadI_N]
    exact (q4 ⟨mod64 v, mod64_lt v⟩).2.1
  · show bgI _ _ ≤ 1000
    have := bgI_le hn k
    omega
  · show lineI v ≤ 4
    have := (line_r v).2
    omega
  · show kindI v ≤ 16
    have := (kind_r v).2
    omega
/-- the rows' data as search holds them -/
theorem rows_at {ns : List Int} {vs bs : List Value} (hn : ns.length = 5) (hvs : ∀ (k : Nat) v, ns[k]? = some v → ∃ t, vs[k]? = some (Value.str (rowI v) t)) (Ibs : IntsAre bs ((List.range 5).map (bgI (ns.map rowI)))) :
    ∀ (k : Nat) (d : RowD), (rowsL (ns.map rowI) 0 ns)[k]? = some d → RowOk d ∧ ∃ t tb, vs[k]? = some (Value.str d.raw t) ∧ bs[k]? = some (Value.int d.beg tb) := fun k d hd => by
  obtain ⟨v, hv, rfl⟩ := rowsL_at hd
  rw [Nat.zero_add]
  have hk : k < 5 := by
    rw [← hn]
    exact (List.getElem?_eq_some_iff.mp hv).1
  obtain ⟨t, e1⟩ := hvs k v hv
  obtain ⟨tb, e2⟩ := ints_at Ibs (i := k) (by simpa using hk)
  have hb : ((List.range 5).map (bgI (ns.map rowI))).getD k 0 = bgI (ns.map rowI) k := by
    rw [List.getD_eq_getElem?_getD, List.getElem?_map, List.getElem?_range hk]
    rfl
  rw [hb] at e2
  refine ⟨⟨?_, bgI_ge _ _, ?_, ?_⟩, t, tb, e1, e2⟩
  · show (rowI v).length ≤ 50
    have := (rowI_len v).1
    omega
  · show bgI _ _ ≤ 1000
    have := bgI_le hn k
    omega
  · show RowK (restS (rowI v)) _
    rw [rest_of]
    exact rest_reads (line_r v).1 (line_r v).2 (kind_r v).1 (kind_r v).2
theorem EvV.mono {l1 l2 : List (Addr × Obj)} {v : Value} {o : Out} (h : EvV l1 v o) (k : ∀ q ∈ l1, q ∈ l2) : EvV l2 v o := by
  cases h with
  | none => exact .none
  | bad => exact .bad
  | hit m => exact .hit (k _ m)
  | nag m1 m2 da hs => exact .nag (k _ m1) (k _ m2) (da.mono k) hs
theorem evs_out {chE BS : List (Addr × Obj)} {evs : List Value} {rs : List Str} {ns : List Int} {bes : Str} (sub : ∀ q ∈ chE, q ∈ BS) (hev : ∀ (j : Nat) (v : Value), evs[j]? = some v → ∃ d, (drawL rs 0 ns)[j]? = some d ∧ EvV chE v (evOut bes j d)) :
    ∀ (j : Nat) (v : Value), evs[j]? = some v → ∃ o, (outsL rs bes 0 ns)[j]? = some o ∧ EvV BS v o := fun j v h => by
  obtain ⟨d, hd, ev⟩ := hev j v h
  obtain ⟨x, hx, rfl⟩ := drawL_at hd
  refine ⟨_, outsL_at hx, ?_⟩
  rw [Nat.zero_add] at ev ⊢
  exact ev.mono sub
theorem begs_at {ns : List Int} {bs : List Value} (Ibs : IntsAre bs ((List.range 5).map (bgI (ns.map rowI)))) {j : Nat} (hj : j < 5) : ∃ t, bs[j]? = some (Value.int (bgI (ns.map rowI) j) t) := by
  obtain ⟨tb, e2⟩ := ints_at Ibs (i := j) (by simpa using hj)
  have hb : ((List.range 5).map (bgI (ns.map rowI))).getD j 0 = bgI (ns.map rowI) j := by
    rw [List.getD_eq_getElem?_getD, List.getElem?_map, List.getElem?_range hj]
    rfl
  rw [hb] at e2
  exact ⟨tb, e2⟩
/-- the law, with no program in sight -/
theorem law_pure (vb : Int) {ns : List Int} (hn : ns.length = 5) (bound : Int) :
    revTop (fun x => searchL (leadI vb) x 0 (rowsL (ns.map rowI) 0 ns)) bound = dueL bound none (outsL (ns.map rowI) (leadI vb) 0 ns) := by
  have hc := cons_rows (rs := ns.map rowI) ns 0 fun j v hj => by rw [Nat.zero_add, List.getElem?_map, hj]; rfl
  rw [bgI_zero] at hc
  rw [rev_due hc (by rw [rowsL_len, hn]; decide), evs_rows]
end

section
theorem sepLawW : True := by
  w_top off
  trivial
open PySem PySem.W PyProof.Rows PySem.Calls PyProof.Rows.LCg PyProof.Rows.LCt
set_option maxRecDepth 100000
set_option hygiene false in
local macro_rules | `(tactic| k_mem) => `(tactic| first | (refine mem1L ?_; k_mem) | (refine mem1R ?_; k_mem) | (refine mem1V ?_; ktr_member))
set_option hygiene false in
local macro_rules | `(tactic| walk_at "exec Assign cons ListComp") => `(tactic| (k_here; (fail_if_success (with_reducible show wpAny _ _ (exec (Stmt.Assign [Expr.Name (Str.ofString "rows") _] _ _) _) _ _ _)); k_dflt (refine LCg.Assign_ListComp_U (F₀ := by k_asm) (by rfl) (by with_unfolding_all rfl) (by with_unfolding_all rfl) (by decide) (by rfl) (by decide) (by rfl) (by rfl) (by rfl) ?_)))
set_option hygiene false in
local macro_rules | `(tactic| walk_at "subscriptTail") => `(tactic| (k_here; (with_reducible show wpAny _ _ (subscriptTail (Expr.Name _ _) _ (Value.ref _) (Value.int _ _)) _ _ _); k_dflt (refine' item_lst ?zz1 ?zz2 ?zz3 ?zz4 ?zz5 ?_; (case zz1 => k_asm); (case zz2 => k_mem); (case zz3 | zz4 => omega); (case zz5 => first | assumption | exact rfl); k_whole)))
theorem lead_le (v : Int) : (leadI v).length ≤ 9 := by
  rw [leadI_N]
  exact (q4 ⟨mod64 v, mod64_lt v⟩).2.1
theorem line_ge (v : Int) : 0 ≤ lineI v := by unfold lineI; rw [Int.fmod_eq_emod_of_nonneg _ (by decide)]; omega
theorem line_le (v : Int) : lineI v ≤ 3 := by unfold lineI; rw [Int.fmod_eq_emod_of_nonneg _ (by decide)]; omega
theorem kind_ge (v : Int) : 0 ≤ kindI v := by unfold kindI; rw [Int.fmod_eq_emod_of_nonneg _ (by decide)]; omega
theorem kind_le (v : Int) : kindI v ≤ 15 := by unfold kindI; rw [Int.fmod_eq_emod_of_nonneg _ (by decide)]; omega
theorem small_five : ∀ (i : Fin 5) (l : Fin 64), Builtin.Range.small (0 + ((i : Nat) : Int)) ((l : Nat) : Int) 5 = true := by decide +kernel
theorem small_5 {i l : Nat} (hi : i < 5) (hl : l ≤ 63) : Builtin.Range.small (0 + (i : Int)) (l : Int) 5 = true := small_five ⟨i, hi⟩ ⟨l, by omega⟩
theorem size_5 {a b : Int} : Builtin.Range.rangeSize a b 5 = ((Builtin.Range.rangeSize a b 5).toNat : Int) := by
  unfold Builtin.Range.rangeSize
  rw [if_pos (by decide)]
  split <;> omega
theorem in_5 {a b : Int} {j : Nat} (h : j < (Builtin.Range.rangeSize a b 5).toNat) : a + (j : Int) * 5 < b := by
  unfold Builtin.Range.rangeSize at h
  rw [if_pos (by decide)] at h
  split at h <;> omega
theorem size_le5 {a b : Int} (ha : 0 ≤ a) (hb : b ≤ 63) : (Builtin.Range.rangeSize a b 5).toNat ≤ 63 := by
  unfold Builtin.Range.rangeSize
  rw [if_pos (by decide)]
  split <;> omega
set_option hygiene false in
local macro_rules | `(tactic| walk_at "call ref") => `(tactic| (k_here; (with_reducible show wpAny _ _ (call (Value.ref 149) _) _ _ _); k_dflt (refine' lead_use ?zB ?zF ?zX ?zT ?zN ?zd ?zu ?zf ?zk ?_; (case zB | zF | zX | zT | zN => k_asm); (case zd | zu => exact Nat.le_of_ble_eq_true rfl); (case zf | zk => exact rfl); k_whole); intro zzt' zzh' zztk' zzF' zzN'; (try dsimp only); (try k_sweep); (try k_fold)))
theorem pickM {h₀ : Heap} {L : Addr} {h : Heap} {m : Str → Option Value} {P : Prop} (F : Fr h₀ L h m) (k : ∀ m', Fr h₀ L h m' → P) : P := k m F
theorem post_true (args : List WData) : PySem.Challenge.rw_mr0234_01.row.toRowW.claim.post args (.bool true) args = true := postW_of (by wrow_shape) (by wtm_val) (by w_fin)
theorem none_raised (args : List WData) (cls : ExcName) : PySem.Challenge.rw_mr0234_01.row.toRowW.claim.raises args cls = false := raisesW_false (by wrow_none_raised) cls
set_option maxHeartbeats 8000000 in
set_option pp.deepTerms false in
set_option pp.deepTerms.threshold 6 in
set_option pp.maxSteps 1500 in
theorem law0 {d : DefRec} {kwd : List (Str × Expr)} (e : defOf qv (Str.ofString "law") = some (d, kwd)) : WalkO qv [Str.ofString "Whitespace"] (XL qv []) Mine.hd.1.says PySem.Challenge.rw_mr0234_01.row.toRowW d kwd fun f vs => call f vs := by
  obtain ⟨rfl, rfl⟩ := Prod.mk.inj (Option.some.inj (show some (_, _) = some (d, kwd) from e))
  clear e
  delta Mine.hd
  dsimp only
  k_go0
  all_goals (try k_fold)
  rename Fr _ _ _ _ => F0
  refine pickL F0 ?_
  intro Lw hLw
  rename _ ∧ _ => l158
  rw [← hLw] at l158
  generalize hG : ghostOf _ _ = G at *
  rw [← hLw] at *
  refine genE (by passes_own) ?_
  intro Q9 E9 hQ9 hE9 hP9
  refine pickM F0 ?_
  clear F0
  intro m0 F0
  rename News _ _ _ _ => N0
  refine pickC N0 ?_
  rintro oR oS rfl rfl
  repeat' (first | (k_unfold; (try dsimp only)) | (k_end; wrow_close) | ((fail_if_success (with_reducible show LCg.CompSrc _ _ _ _ _ _ _ _ _ _ _ _ _ _)); walk1) | ((fail_if_success (with_reducible show LCg.CompSrc _ _ _ _ _ _ _ _ _ _ _ _ _ _));dsimp only; walk1) | (leave1; walk_say "STEP leave1"; try dsimp only) | fail "no step")
  rename Fr _ _ _ _ => F1
  rename News _ _ _ _ => N1
  rename IsRange _ _ _ _ _ _ _ _ => rg1
  refine LCg.CompSrc.range (n := 5) rfl F1 N1 rg1 rfl rfl (by rw [sizeLine_eq]; omega) ?_
  intro g1
  refine comp_ni ?_ ?_
  · intro i v I oI C oC D ys nw m₂ h tk E' Q hi hP hC hx F N hret
    obtain ⟨t, rfl⟩ := hP
    rename IntsAre _ _ => Is
    rename Heap.IsList _ _ _ => Ls
    rename ¬ ((63 : Nat) : Int) < _ => h63
    have hlS := Is.length
    repeat' (first | (k_unfold; (try dsimp only)) | (k_end; wrow_close) | ((fail_if_success (with_reducible show wpAny _ _ (eval (Expr.ListComp _ _ _ _) _) _ _ _)); walk1) | ((fail_if_success (with_reducible show wpAny _ _ (eval (Expr.ListComp _ _ _ _) _) _ _ _));dsimp only; walk1) | fail "no step")
    k_dflt (refine ListComp_S (m := _) F (by with_unfolding_all rfl) (by decide) (by rfl) (by decide) (by rfl) ?_)
    repeat' (first | (k_unfold; (try dsimp only)) | (k_end; wrow_close) | ((fail_if_success (with_reducible show SrcS _ _ _ _ _ _ _ _ _ _ _ _ _ _)); walk1) | ((fail_if_success (with_reducible show SrcS _ _ _ _ _ _ _ _ _ _ _ _ _ _));dsimp only; walk1) | fail "no step")
    rename Fr _ _ _ _ => F2
    rename News _ _ _ _ => N2
    rename IsRange _ _ _ _ _ _ _ _ => rg2
    refine SrcS.mk' rfl F2 N2 rg2 (small_5 hi (by omega)) size_5 (Nat.le_trans (size_le5 (by omega) (by omega)) (by rw [sizeLine_eq]; omega)) ?_
    intro g2
    refine comp_ni ?_ ?_
    · intro j v I2 oI2 C2 oC2 D2 ys2 nw2 m₃ h3 tk3 E3 Q3 hj hP3 hC3 hx3 F3 N3 hret3
      obtain ⟨_, t3, rfl⟩ := hP3
      have hb3 := in_5 hj
      have ha3 : 0 ≤ 0 + (i : Int) + (j : Int) * 5 := by omega
      obtain ⟨t4, hi4⟩ := ints_at Is (i := (0 + (i : Int) + (j : Int) * 5).toNat) (by omega)
      repeat' (first | (k_unfold; (try dsimp only)) | (k_end; wrow_close) | (walk1) | (dsimp only; walk1) | fail "no step")
      exact hret3 _ _ _ _ F3 N3
    · intro zs2 ns2 hl2 Iz2
      repeat' (first | (k_unfold; (try dsimp only)) | (k_end; wrow_close) | (walk1) | (dsimp only; walk1) | fail "no step")
      rename Fr _ _ _ _ => F3
      rename News _ _ _ _ => N3
      exact hret _ _ _ _ F3 (cb_drop N3 fun q hq => .tail _ (.tail _ hq))
  · intro vals ns hns Iv
    repeat' (first | (k_unfold; (try dsimp only)) | (k_end; wrow_close) | ((fail_if_success (with_reducible show LCg.CompSrc _ _ _ _ _ _ _ _ _ _ _ _ _ _)); walk1) | ((fail_if_success (with_reducible show LCg.CompSrc _ _ _ _ _ _ _ _ _ _ _ _ _ _));dsimp only; walk1) | (leave1; walk_say "STEP leave1"; try dsimp only) | fail "no step")
    clear F1 N1
    rename Fr _ _ _ _ => F1
    rename News _ _ _ _ => N1
    refine LCg.CompSrc.ledger rfl F1 N1 (.head _) (by rw [List.size_toArray, sizeLine_eq, Iv.length]; omega) ?_
    intro g2
    refine comp_drawn rfl Iv (.inr ⟨_, .head _, rfl, _, rfl⟩) ?_ ?_
    · intro v t I oI C oC D ys nw m₂ h tk E' Q hv hC hx F N hret
      clear F1 N1
      repeat' (first | (k_unfold; (try dsimp only)) | (k_end; wrow_close) | (walk1) | (dsimp only; walk1) | fail "no step")
      rename Fr _ _ _ _ => F2
      rename News _ _ _ _ => N2
      rename _ ∧ _ ∧ _ ∧ AllLt _ _ => lt9
      exact hret _ _ _ _ _ _ _ F2 N2 (allLt_memE (l := (I, oI) :: (C, oC) :: (D, lst ys) :: _) lt9)
    · intro zs ch hz hzs hlt
      clear F1 N1
      repeat' (first | (k_unfold; (try dsimp only)) | (k_end; wrow_close) | ((fail_if_success (with_reducible show wpAny _ _ (execs _ _) _ _ _)); walk1) | ((fail_if_success (with_reducible show wpAny _ _ (execs _ _) _ _ _));dsimp only; walk1) | fail "no step")
      rename News _ _ _ _ => N1
      rename Off1 _ _ => oDd
      refine pickH N1 ?_
      rintro Dd rfl
      repeat' (first | (k_unfold; (try dsimp only)) | (k_end; wrow_close) | ((fail_if_success (with_reducible show wpAny _ _ (exec (Stmt.Assign [Expr.Name (Str.ofString "rows") _] _ _) _) _ _ _)); walk1) | ((fail_if_success (with_reducible show wpAny _ _ (exec (Stmt.Assign [Expr.Name (Str.ofString "rows") _] _ _) _) _ _ _));dsimp only; walk1) | fail "no step")
      walk_at "exec Assign"
      k_dflt (refine ListComp_3 (by k_asm) (by with_unfolding_all rfl) (by decide) (by rfl) (by decide) (by rfl) (by rfl) (by rfl) (by decide) (by decide) (by decide) ?_)
      repeat' (first | (k_unfold; (try dsimp only)) | (k_end; wrow_close) | ((fail_if_success (with_reducible show Src3 _ _ _ _ _ _ _ _ _ _ _ _ _ _ _ _)); walk1) | ((fail_if_success (with_reducible show Src3 _ _ _ _ _ _ _ _ _ _ _ _ _ _ _ _));dsimp only; walk1) | fail "no step")
      rename Fr _ _ _ _ => F3
      rename News _ _ _ _ => N3
      refine ⟨_, _, _, _, rfl, rfl, F3, N3, .head _, by rw [List.size_toArray, sizeLine_eq, hz, List.size_toArray, Iv.length]; omega, fun g3 => rest_strs (Pd := fun i a b c => ∃ v t1 t2 t3, ns[i]? = some v ∧ a = .str (leadI v) t1 ∧ b = .int (lineI v) t2 ∧ c = .int (kindI v) t3) (Ps := fun i r => ∃ v, ns[i]? = some v ∧ r = rowP (leadI v) (lineI v) (kindI v)) (.inr ⟨_, .head _, rfl, _, rfl⟩) ?_ ?_ _ 0 [] ?_⟩
      · intro i v hv
        obtain ⟨v', T, t1, t2, t3, e, h1, h2, h3⟩ := hzs i v (by simpa using hv)
        exact ⟨T, _, _, _, e, h2, .tail _ (List.mem_append_left _ h3), v', t1, t2, t3, h1, rfl, rfl, rfl⟩
      · intro i a b c I oI C oC D ys m₂ h tk E' Q hP hC hx1 hx2 hx3 F N hret
        obtain ⟨v, t1, t2, t3, hv, rfl, rfl, rfl⟩ := hP
        have hl0 : (leadI v).length ≤ 9 := lead_le v
        have hln0 := line_ge v
        have hln1 := line_le v
        have hk0 := kind_ge v
        have hk1 := kind_le v
        generalize hld : leadI v = ld at *
        generalize hln : lineI v = ln at *
        generalize hkd : kindI v = kd at *
        have hnl := num_le hln0 hln1
        have hml : (menuS.getD (max (kd - 12) 0).toNat Str.empty).length ≤ 3 := menu_le
        repeat' (first | (k_unfold; (try dsimp only)) | (k_end; wrow_close) | ((fail_if_success (with_reducible show wpAny _ _ (subscriptTail _ _ _ _) _ _ _)); walk1) | ((fail_if_success (with_reducible show wpAny _ _ (subscriptTail _ _ _ _) _ _ _)); dsimp only; walk1) | fail "no step")
        rename Fr _ _ _ _ => F4
        rename News _ _ _ _ => N4
        k_dflt refine' item_menu N4 (.head _) ?z0 ?z1 ?_
        case z0 => omega
        case z1 => omega
        intro tm
        change wpAny _ _ _ _ _ _
        repeat' (first | (k_unfold; (try dsimp only)) | (k_end; wrow_close) | (walk1) | (dsimp only; walk1) | fail "no step")
        refine hret _ _ _ _ F4 (cb_drop N4 fun q hq => .tail _ hq) ⟨v, hv, ?_⟩
        rw [hld, hln, hkd]
        unfold rowP menuS
        congr 4
        split <;> omega
      · intro rows hr hrows
        obtain ⟨z0, z1, z2, z3, z4, rfl⟩ := five (hr.trans (by rw [List.size_toArray, hz, List.size_toArray, Iv.length, hns]))
        obtain ⟨v0, v1, v2, v3, v4, rfl⟩ := five hns
        obtain ⟨r0, t0, rfl, v, hv, rfl⟩ := hrows 0 _ rfl
        cases hv
        obtain ⟨r1, t1, rfl, v, hv, rfl⟩ := hrows 1 _ rfl
        cases hv
        obtain ⟨r2, t2, rfl, v, hv, rfl⟩ := hrows 2 _ rfl
        cases hv
        obtain ⟨r3, t3, rfl, v, hv, rfl⟩ := hrows 3 _ rfl
        cases hv
        obtain ⟨r4, t4, rfl, v, hv, rfl⟩ := hrows 4 _ rfl
        cases hv
        clear hrows
        clear F3 N3
        rw [List.nil_append]
        repeat' (first | (k_unfold; (try dsimp only)) | (k_end; wrow_close) | ((fail_if_success (with_reducible show wpAny _ _ (storeName _ _ _) _ _ _)); walk1) | ((fail_if_success (with_reducible show wpAny _ _ (storeName _ _ _) _ _ _)); dsimp only; walk1) | fail "no step")
        rename Fr _ _ _ _ => F5
        rename News _ _ _ _ => N5
        rename _ ∧ Off1 _ _ => o5
        refine pickH N5 ?_
        rintro Dr rfl
        have hq0 := rowP_len v0
        have hq1 := rowP_len v1
        have hq2 := rowP_len v2
        have hq3 := rowP_len v3
        have hq4 := rowP_len v4
        generalize er0 : rowP (leadI v0) (lineI v0) (kindI v0) = r0 at *
        generalize er1 : rowP (leadI v1) (lineI v1) (kindI v1) = r1 at *
        generalize er2 : rowP (leadI v2) (lineI v2) (kindI v2) = r2 at *
        generalize er3 : rowP (leadI v3) (lineI v3) (kindI v3) = r3 at *
        generalize er4 : rowP (leadI v4) (lineI v4) (kindI v4) = r4 at *
        have ne1 : ∀ p ∈ ch, p.1 ≠ Lw + 1 + 1 := fun p hp => Nat.ne_of_gt (hlt (Lw + 1 + 1, oR) (by k_mem) p hp)
        k_dflt refine' store_cellR (c := Lw + 1 + 1) (o := oR) (rest := (Dr, W.listOf [.str r0 t0, .str r1 t1, .str r2 t2, .str r3 t3, .str r4 t4].toArray _) :: (Dd, W.listOf zs.toArray _) :: (Lw + 1, oS) :: (151, tabObj #[]) :: (158, tabObj #[]) :: ch) F5 N5 ?sc ?sm ?sr ?sn ?sd ?_ ?sa ?sb
        case sa => rfl
        case sb => rfl
        case sc => rfl
        case sd => assumption
        case sm => k_mem
        case sr => walk_at "M subs"
        case sn => exact all_cons (Ne.symm (off1_mem o5.2 (Lw + 1 + 1, oR) (by k_mem))) (all_cons (Ne.symm (off1_mem oDd (Lw + 1 + 1, oR) (by k_mem))) (all_cons (Nat.ne_of_lt (Nat.lt_succ_self _)) (all_cons (Nat.ne_of_lt (Nat.lt_succ_of_lt (Nat.lt_succ_of_lt l158.1))) (all_cons (Nat.ne_of_lt (Nat.lt_succ_of_lt (Nat.lt_succ_of_lt l158.2))) ne1))))
        intro h6 oR' F6 N6 dR
        clear F5 N5
        repeat' (first | (k_unfold; (try dsimp only)) | (k_end; wrow_close) | ((fail_if_success (with_reducible show LCg.CompSrc _ _ _ _ _ _ _ _ _ _ _ _ _ _)); walk1) | ((fail_if_success (with_reducible show LCg.CompSrc _ _ _ _ _ _ _ _ _ _ _ _ _ _)); dsimp only; walk1) | fail "no step")
        rename Fr _ _ _ _ => F7
        rename News _ _ _ _ => N7
        rename IsRange _ _ _ _ _ _ _ _ => rg2
        refine LCg.CompSrc.range (n := 5) rfl F7 N7 rg2 rfl rfl (by rw [sizeLine_eq]; omega) ?_
        intro g7
        clear F7 N7
        refine comp_nums (bgI [r0, r1, r2, r3, r4]) ?_ ?_
        · intro i v I oI C oC D ys nw m₂ h tk E' Q hi hP hC hx F N hret
          obtain ⟨t, rfl⟩ := hP
          have hi5 : i = 0 ∨ i = 1 ∨ i = 2 ∨ i = 3 ∨ i = 4 := by omega
          rcases hi5 with rfl | rfl | rfl | rfl | rfl
          · have e0 : (0 : Int) + ((0 : Nat) : Int) = 0 := rfl
            rw [e0] at hx
            have hys : ∀ y ∈ [Str.ofString ""], y.length ≤ 14 := by
              simp only [List.forall_mem_cons]
              exact ⟨by decide, fun _ h => nomatch h⟩
            repeat' (first | (k_unfold; (try dsimp only)) | (k_end; wrow_close) | ((fail_if_success (with_reducible show wpAny _ _ (call (Value.builtin "str.join") _) _ _ _)); walk1) | ((fail_if_success (with_reducible show wpAny _ _ (call (Value.builtin "str.join") _) _ _ _)); dsimp only; walk1) | fail "no step")
            rename Fr _ _ _ _ => F8
            rename News _ _ _ _ => N8
            refine join_list (ys := [Str.ofString ""]) (News.isList N8 (.head _)) (.cons _ _ .nil) (join_ok hys (Nat.le_of_ble_eq_true rfl)) ?_
            intro t9 k9
            repeat' (first | (k_unfold; (try dsimp only)) | (k_end; wrow_close) | ((fail_if_success (with_reducible show wpAny _ _ (call (Value.builtin "len") _) _ _ _)); walk1) | ((fail_if_success (with_reducible show wpAny _ _ (call (Value.builtin "len") _) _ _ _)); dsimp only; walk1) | fail "no step")
            refine lenS (Nat.le_trans (join_le hys (Nat.le_of_ble_eq_true rfl)) (by decide)) ?_
            exact hret _ _ _ F8 (cb_drop N8 fun q hq => .tail _ (.tail _ (.tail _ hq)))
          · have e0 : (0 : Int) + ((1 : Nat) : Int) = 1 := rfl
            rw [e0] at hx
            have hys : ∀ y ∈ [r0, Str.ofString ""], y.length ≤ 14 := by
              simp only [List.forall_mem_cons]
              exact ⟨hq0.1, by decide, fun _ h => nomatch h⟩
            repeat' (first | (k_unfold; (try dsimp only)) | (k_end; wrow_close) | ((fail_if_success (with_reducible show wpAny _ _ (call (Value.builtin "str.join") _) _ _ _)); walk1) | ((fail_if_success (with_reducible show wpAny _ _ (call (Value.builtin "str.join") _) _ _ _)); dsimp only; walk1) | fail "no step")
            rename Fr _ _ _ _ => F8
            rename News _ _ _ _ => N8
            refine join_list (ys := [r0, Str.ofString ""]) (News.isList N8 (.head _)) (.cons _ _ (.cons _ _ .nil)) (join_ok hys (Nat.le_of_ble_eq_true rfl)) ?_
            intro t9 k9
            repeat' (first | (k_unfold; (try dsimp only)) | (k_end; wrow_close) | ((fail_if_success (with_reducible show wpAny _ _ (call (Value.builtin "len") _) _ _ _)); walk1) | ((fail_if_success (with_reducible show wpAny _ _ (call (Value.builtin "len") _) _ _ _)); dsimp only; walk1) | fail "no step")
            refine lenS (Nat.le_trans (join_le hys (Nat.le_of_ble_eq_true rfl)) (by decide)) ?_
            exact hret _ _ _ F8 (cb_drop N8 fun q hq => .tail _ (.tail _ (.tail _ hq)))
          · have e0 : (0 : Int) + ((2 : Nat) : Int) = 2 := rfl
            rw [e0] at hx
            have hys : ∀ y ∈ [r0, r1, Str.ofString ""], y.length ≤ 14 := by
              simp only [List.forall_mem_cons]
              exact ⟨hq0.1, hq1.1, by decide, fun _ h => nomatch h⟩
            repeat' (first | (k_unfold; (try dsimp only)) | (k_end; wrow_close) | ((fail_if_success (with_reducible show wpAny _ _ (call (Value.builtin "str.join") _) _ _ _)); walk1) | ((fail_if_success (with_reducible show wpAny _ _ (call (Value.builtin "str.join") _) _ _ _)); dsimp only; walk1) | fail "no step")
            rename Fr _ _ _ _ => F8
            rename News _ _ _ _ => N8
            refine join_list (ys := [r0, r1, Str.ofString ""]) (News.isList N8 (.head _)) (.cons _ _ (.cons _ _ (.cons _ _ .nil))) (join_ok hys (Nat.le_of_ble_eq_true rfl)) ?_
            intro t9 k9
            repeat' (first | (k_unfold; (try dsimp only)) | (k_end; wrow_close) | ((fail_if_success (with_reducible show wpAny _ _ (call (Value.builtin "len") _) _ _ _)); walk1) | ((fail_if_success (with_reducible show wpAny _ _ (call (Value.builtin "len") _) _ _ _)); dsimp only; walk1) | fail "no step")
            refine lenS (Nat.le_trans (join_le hys (Nat.le_of_ble_eq_true rfl)) (by decide)) ?_
            exact hret _ _ _ F8 (cb_drop N8 fun q hq => .tail _ (.tail _ (.tail _ hq)))
          · have e0 : (0 : Int) + ((3 : Nat) : Int) = 3 := rfl
            rw [e0] at hx
            have hys : ∀ y ∈ [r0, r1, r2, Str.ofString ""], y.length ≤ 14 := by
              simp only [List.forall_mem_cons]
              exact ⟨hq0.1, hq1.1, hq2.1, by decide, fun _ h => nomatch h⟩
            repeat' (first | (k_unfold; (try dsimp only)) | (k_end; wrow_close) | ((fail_if_success (with_reducible show wpAny _ _ (call (Value.builtin "str.join") _) _ _ _)); walk1) | ((fail_if_success (with_reducible show wpAny _ _ (call (Value.builtin "str.join") _) _ _ _)); dsimp only; walk1) | fail "no step")
            rename Fr _ _ _ _ => F8
            rename News _ _ _ _ => N8
            refine join_list (ys := [r0, r1, r2, Str.ofString ""]) (News.isList N8 (.head _)) (.cons _ _ (.cons _ _ (.cons _ _ (.cons _ _ .nil)))) (join_ok hys (Nat.le_of_ble_eq_true rfl)) ?_
            intro t9 k9
            repeat' (first | (k_unfold; (try dsimp only)) | (k_end; wrow_close) | ((fail_if_success (with_reducible show wpAny _ _ (call (Value.builtin "len") _) _ _ _)); walk1) | ((fail_if_success (with_reducible show wpAny _ _ (call (Value.builtin "len") _) _ _ _)); dsimp only; walk1) | fail "no step")
            refine lenS (Nat.le_trans (join_le hys (Nat.le_of_ble_eq_true rfl)) (by decide)) ?_
            exact hret _ _ _ F8 (cb_drop N8 fun q hq => .tail _ (.tail _ (.tail _ hq)))
          · have e0 : (0 : Int) + ((4 : Nat) : Int) = 4 := rfl
            rw [e0] at hx
            have hys : ∀ y ∈ [r0, r1, r2, r3, Str.ofString ""], y.length ≤ 14 := by
              simp only [List.forall_mem_cons]
              exact ⟨hq0.1, hq1.1, hq2.1, hq3.1, by decide, fun _ h => nomatch h⟩
            repeat' (first | (k_unfold; (try dsimp only)) | (k_end; wrow_close) | ((fail_if_success (with_reducible show wpAny _ _ (call (Value.builtin "str.join") _) _ _ _)); walk1) | ((fail_if_success (with_reducible show wpAny _ _ (call (Value.builtin "str.join") _) _ _ _)); dsimp only; walk1) | fail "no step")
            rename Fr _ _ _ _ => F8
            rename News _ _ _ _ => N8
            refine join_list (ys := [r0, r1, r2, r3, Str.ofString ""]) (News.isList N8 (.head _)) (.cons _ _ (.cons _ _ (.cons _ _ (.cons _ _ (.cons _ _ .nil))))) (join_ok hys (Nat.le_of_ble_eq_true rfl)) ?_
            intro t9 k9
            repeat' (first | (k_unfold; (try dsimp only)) | (k_end; wrow_close) | ((fail_if_success (with_reducible show wpAny _ _ (call (Value.builtin "len") _) _ _ _)); walk1) | ((fail_if_success (with_reducible show wpAny _ _ (call (Value.builtin "len") _) _ _ _)); dsimp only; walk1) | fail "no step")
            refine lenS (Nat.le_trans (join_le hys (Nat.le_of_ble_eq_true rfl)) (by decide)) ?_
            exact hret _ _ _ F8 (cb_drop N8 fun q hq => .tail _ (.tail _ (.tail _ hq)))
        · intro bs Ibs
          repeat' (first | (k_unfold; (try dsimp only)) | (k_end; wrow_close) | ((fail_if_success (with_reducible show wpAny _ _ (call (Value.ref 180) _) _ _ _)); walk1) | ((fail_if_success (with_reducible show wpAny _ _ (call (Value.ref 180) _) _ _ _)); dsimp only; walk1) | fail "no step")
          rename Fr _ _ _ _ => F9
          rename News _ _ _ _ => N9
          rename Below _ _ _ _ => B9
          rename Frag.In _ _ => X9
          rename Top _ _ _ _ _ G => T9
          rename _ ∧ _ ∧ _ ∧ _ ∧ _ ∧ _ ∧ Off1 _ _ => oDb
          refine pickH N9 ?_
          rintro Db rfl
          have hrs : [v0, v1, v2, v3, v4].map rowI = [r0, r1, r2, r3, r4] := by
            rw [← er0, ← er1, ← er2, ← er3, ← er4]
            rfl
          rw [← hrs] at Ibs
          have hvs : ∀ (k : Nat) v, [v0, v1, v2, v3, v4][k]? = some v → ∃ t, [Value.str r0 t0, Value.str r1 t1, Value.str r2 t2, Value.str r3 t3, Value.str r4 t4][k]? = some (Value.str (rowI v) t) := by
            intro k v hv
            rcases k with _ | _ | _ | _ | _ | k
            · cases hv; exact ⟨t0, by rw [← er0]; rfl⟩
            · cases hv; exact ⟨t1, by rw [← er1]; rfl⟩
            · cases hv; exact ⟨t2, by rw [← er2]; rfl⟩
            · cases hv; exact ⟨t3, by rw [← er3]; rfl⟩
            · cases hv; exact ⟨t4, by rw [← er4]; rfl⟩
            · cases hv
          have hz5 : zs.length = 5 := by rw [hz, List.size_toArray, Iv.length]; rfl
          have hbs5 : bs.length = 5 := by rw [Ibs.length, List.length_map, List.length_range]
          k_dflt refine' ev_use B9 F9 X9 T9 N9 (fun _ h => h) ?ya ?yb ?yc rfl (drawL_len _ _ _) (evs_at rfl hvs Ibs hz5 hzs ?yd) ?ye ?yf ?yg ?yh ?yi ?_
          case ya => k_mem
          case yb => k_mem
          case yc => k_mem
          case yd => walk_at "M sub"
          case ye => exact lead_le _
          case yf => exact Nat.le_of_ble_eq_true rfl
          case yg => exact Nat.le_of_ble_eq_true rfl
          case yh => exact rfl
          case yi => exact rfl
          intro lev evs ee chE hE tkE FE NE neE hl5 hev KE
          clear F9 N9
          repeat' (first | (k_unfold; (try dsimp only)) | (k_end; wrow_close) | ((fail_if_success (with_reducible show wpAny _ _ (call (Value.ref 138) _) _ _ _)); walk1) | ((fail_if_success (with_reducible show wpAny _ _ (call (Value.ref 138) _) _ _ _)); dsimp only; walk1) | fail "no step")
          rename Fr _ _ _ _ => F9
          rename News _ _ _ _ => N9
          k_dflt refine' ws_useC B9 F9 X9 T9 N9 ?yj ?yk ?yl ?ym ?yn ?_
          case yj => exact Nat.le_trans (lead_le _) (by decide)
          case yk => exact Nat.le_of_ble_eq_true rfl
          case yl => exact Nat.le_of_ble_eq_true rfl
          case ym => exact rfl
          case yn => exact rfl
          intro xw chW hW tkW FW NW WW ltW
          clear F9 N9
          repeat' (first | (k_unfold; (try dsimp only)) | (k_end; wrow_close) | ((fail_if_success (with_reducible show wpAny _ _ (call (Value.ref 161) _) _ _ _)); walk1) | ((fail_if_success (with_reducible show wpAny _ _ (call (Value.ref 161) _) _ _ _)); dsimp only; walk1) | fail "no step")
          rename Fr _ _ _ _ => F9
          rename News _ _ _ _ => N9
          have n158 : ∀ q ∈ (lev, W.listOf evs.toArray ee) :: (Db, W.listOf bs.toArray bs.length) :: (Lw + 1 + 1, oR') :: (Dd, W.listOf zs.toArray zs.length) :: (Lw + 1, oS) :: (151, tabObj #[]) :: (chW ++ (chE ++ ch)), q.1 ≠ 158 :=
            all_cons (neE (158, tabObj #[]) (by k_mem) _ (.head _)) (all_cons (Ne.symm oDb.2.2.2.2.2.1) (all_cons (Nat.ne_of_gt (Nat.lt_succ_of_lt (Nat.lt_succ_of_lt l158.2))) (all_cons (Ne.symm (off1_mem oDd (158, tabObj #[]) (by k_mem))) (all_cons (Nat.ne_of_gt (Nat.lt_succ_of_lt l158.2)) (all_cons (by decide) (all_app (fun p hp => Nat.ne_of_gt (ltW (158, tabObj #[]) (by k_mem) p hp)) (all_app (fun p hp => neE (158, tabObj #[]) (by k_mem) p (.tail _ hp)) fun p hp => Nat.ne_of_gt (hlt (158, tabObj #[]) (by k_mem) p hp)))))))) 
          have NA := cb_drop (news := (158, tabObj #[]) :: (Dr, W.listOf #[Value.str r0 t0, Value.str r1 t1, Value.str r2 t2, Value.str r3 t3, Value.str r4 t4] _) :: (lev, W.listOf evs.toArray ee) :: (Db, W.listOf bs.toArray bs.length) :: (Lw + 1 + 1, oR') :: (Dd, W.listOf zs.toArray zs.length) :: (Lw + 1, oS) :: (151, tabObj #[]) :: (chW ++ (chE ++ ch))) N9 (by walk_at "M subs")
          have nDr : @Ne Nat 158 Dr := off1_mem o5.2 (158, tabObj #[]) (by k_mem)
          have hc160 : CodeHd G 160 158 := by assumption
          have hc155 : CodeHd G 155 151 := by assumption
          k_dflt refine' prog_use (ab := Db) (xb := xw) B9 F9 X9 T9 NA n158 nDr hc160 ?yo ?yp ?yq ?yr ?ys ?yt ?yu ?yv ?yw ?_
          case yo => omega
          case yp => omega
          case yq => omega
          case yr => omega
          case ys => omega
          case yt => exact Nat.le_of_ble_eq_true rfl
          case yu => exact Nat.le_of_ble_eq_true rfl
          case yv => exact rfl
          case yw => exact rfl
          intro pf p8 chP hP tkP FP NP frP PrH
          have c151 : ∀ q ∈ chP, q.1 ≠ 151 := fun q hq z => by
            rcases frP q hq with e | e
            · exact off1_mem o5.2 (151, tabObj #[]) (by k_mem) (z.symm.trans e)
            · rw [z, (NA (151, tabObj #[]) (by k_mem)).1] at e
              cases e
          clear F9 N9 NA
          repeat' (first | (k_unfold; (try dsimp only)) | (k_end; wrow_close) | ((fail_if_success (with_reducible show wpAny _ _ (exec (Stmt.For _ _ _ _ _) _) _ _ _)); walk1) | ((fail_if_success (with_reducible show wpAny _ _ (exec (Stmt.For _ _ _ _ _) _) _ _ _)); dsimp only; walk1) | fail "no step")
          rename Fr _ _ _ _ => F9
          rename News _ _ _ _ => N9
          rename _ ∧ AllLt _ _ => ltd
          rename ∀ p : Addr × Obj, p ∈ chP ++ _ → p.1 < _ => ltt
          refine pickLD N9 ?_
          rintro ld lt rfl rfl
          k_dflt refine For_turns F9 ?_
          repeat' (first | (k_unfold; (try dsimp only)) | (k_end; wrow_close) | ((fail_if_success (with_reducible show wpAny _ _ (eval (Expr.ListComp _ _ _ _) _) _ _ _)); walk1) | ((fail_if_success (with_reducible show wpAny _ _ (eval (Expr.ListComp _ _ _ _) _) _ _ _)); dsimp only; walk1) | fail "no step")
          k_dflt (refine LCg.ListComp_U (F₀ := by k_asm) (by with_unfolding_all rfl) (by decide) (by rfl) (by decide) (by rfl) ?_)
          repeat' (first | (k_unfold; (try dsimp only)) | (k_end; wrow_close) | ((fail_if_success (with_reducible show LCg.CompSrc _ _ _ _ _ _ _ _ _ _ _ _ _ _)); walk1) | ((fail_if_success (with_reducible show LCg.CompSrc _ _ _ _ _ _ _ _ _ _ _ _ _ _)); dsimp only; walk1) | fail "no step")
          rename Fr _ _ _ _ => F9
          rename News _ _ _ _ => N9
          rename IsRange _ _ _ _ _ _ _ _ => rg9
          rename _ ∧ _ ∧ _ ∧ AllLt _ (chP ++ _) => ltl0
          refine pickQ N9 ?_
          rintro l0 T0 oT0 rfl rfl hoT0
          rw [← hoT0] at N9
          refine LCg.CompSrc.range (n := 5) rfl F9 N9 rg9 rfl rfl (by rw [sizeLine_eq]; omega) ?_
          intro g9
          refine comp_pairs (fun k => (k : Int) + 1) (fun k => (([r0, r1, r2, r3, r4].getD k Str.empty).length : Int)) ?_ ?_
          · intro i v I oI C oC D ys nw m₂ h tk E' Q hi hP hC hx F N hret
            clear F9 N9
            obtain ⟨t, rfl⟩ := hP
            have hi5 : i = 0 ∨ i = 1 ∨ i = 2 ∨ i = 3 ∨ i = 4 := by omega
            rcases hi5 with rfl | rfl | rfl | rfl | rfl
            · have e0 : (0 : Int) + ((0 : Nat) : Int) = 0 := rfl
              rw [e0] at hx
              repeat' (first | (k_unfold; (try dsimp only)) | (k_end; wrow_close) | walk1 | (dsimp only; walk1) | fail "no step")
              rename Fr _ _ _ _ => F8
              rename News _ _ _ _ => N8
              rename _ ∧ _ ∧ _ ∧ AllLt _ _ => lt9
              exact hret _ _ _ _ _ _ F8 N8 (allLt_memE (l := (I, oI) :: (C, oC) :: (D, lst ys) :: _) lt9)
            · have e0 : (0 : Int) + ((1 : Nat) : Int) = 1 := rfl
              rw [e0] at hx
              repeat' (first | (k_unfold; (try dsimp only)) | (k_end; wrow_close) | walk1 | (dsimp only; walk1) | fail "no step")
              rename Fr _ _ _ _ => F8
              rename News _ _ _ _ => N8
              rename _ ∧ _ ∧ _ ∧ AllLt _ _ => lt9
              exact hret _ _ _ _ _ _ F8 N8 (allLt_memE (l := (I, oI) :: (C, oC) :: (D, lst ys) :: _) lt9)
            · have e0 : (0 : Int) + ((2 : Nat) : Int) = 2 := rfl
              rw [e0] at hx
              repeat' (first | (k_unfold; (try dsimp only)) | (k_end; wrow_close) | walk1 | (dsimp only; walk1) | fail "no step")
              rename Fr _ _ _ _ => F8
              rename News _ _ _ _ => N8
              rename _ ∧ _ ∧ _ ∧ AllLt _ _ => lt9
              exact hret _ _ _ _ _ _ F8 N8 (allLt_memE (l := (I, oI) :: (C, oC) :: (D, lst ys) :: _) lt9)
            · have e0 : (0 : Int) + ((3 : Nat) : Int) = 3 := rfl
              rw [e0] at hx
              repeat' (first | (k_unfold; (try dsimp only)) | (k_end; wrow_close) | walk1 | (dsimp only; walk1) | fail "no step")
              rename Fr _ _ _ _ => F8
              rename News _ _ _ _ => N8
              rename _ ∧ _ ∧ _ ∧ AllLt _ _ => lt9
              exact hret _ _ _ _ _ _ F8 N8 (allLt_memE (l := (I, oI) :: (C, oC) :: (D, lst ys) :: _) lt9)
            · have e0 : (0 : Int) + ((4 : Nat) : Int) = 4 := rfl
              rw [e0] at hx
              repeat' (first | (k_unfold; (try dsimp only)) | (k_end; wrow_close) | walk1 | (dsimp only; walk1) | fail "no step")
              rename Fr _ _ _ _ => F8
              rename News _ _ _ _ => N8
              rename _ ∧ _ ∧ _ ∧ AllLt _ _ => lt9
              exact hret _ _ _ _ _ _ F8 N8 (allLt_memE (l := (I, oI) :: (C, oC) :: (D, lst ys) :: _) lt9)
          · intro zp chQ hzp hzq ltQ
            clear F9 N9
            obtain ⟨y0, y1, y2, y3, y4, rfl⟩ := five hzp
            obtain ⟨T1, j1, k1, m1, rfl, mT1⟩ := hzq 0 _ rfl
            obtain ⟨T2, j2, k2, m2, rfl, mT2⟩ := hzq 1 _ rfl
            obtain ⟨T3, j3, k3, m3, rfl, mT3⟩ := hzq 2 _ rfl
            obtain ⟨T4, j4, k4, m4, rfl, mT4⟩ := hzq 3 _ rfl
            obtain ⟨T5, j5, k5, m5, rfl, mT5⟩ := hzq 4 _ rfl
            repeat' (first | (k_unfold; (try dsimp only)) | (k_end; wrow_close) | ((fail_if_success (with_reducible show wpAny _ _ (pyIter _) _ _ _)); walk1) | ((fail_if_success (with_reducible show wpAny _ _ (pyIter _) _ _ _)); dsimp only; walk1) | fail "no step")
            rename Fr _ _ _ _ => F9
            rename News _ _ _ _ => N9
            rename _ ∧ AllLt _ (chQ ++ _) => ltlp
            rename _ ∧ _ ∧ AllLt _ (chP ++ _) => ltT0
            refine pickH N9 ?_
            rintro lp rfl
            obtain ⟨BS, hBS⟩ : ∃ l : List (Addr × Obj), l = (lp, W.listOf [Value.ref T0, .ref T1, .ref T2, .ref T3, .ref T4, .ref T5].toArray 0) :: (T0, oT0) :: (chQ ++ (chP ++ ((158, tabObj p8) :: (Dr, W.listOf [Value.str r0 t0, Value.str r1 t1, Value.str r2 t2, Value.str r3 t3, Value.str r4 t4].toArray [Value.str r0 t0, Value.str r1 t1, Value.str r2 t2, Value.str r3 t3, Value.str r4 t4].length) :: (lev, W.listOf evs.toArray ee) :: (Db, W.listOf bs.toArray bs.length) :: (Lw + 1 + 1, oR') :: (chW ++ chE)))) := ⟨_, rfl⟩
            have mlp : (lp, W.listOf [Value.ref T0, .ref T1, .ref T2, .ref T3, .ref T4, .ref T5].toArray 0) ∈ BS := by rw [hBS]; exact .head _
            have mT0 : (T0, oT0) ∈ BS := by rw [hBS]; exact .tail _ (.head _)
            have sQ : ∀ q ∈ chQ, q ∈ BS := by rw [hBS]; walk_at "M sub"
            have sP : ∀ q ∈ chP, q ∈ BS := by rw [hBS]; walk_at "M sub"
            have sW : ∀ q ∈ chW, q ∈ BS := by rw [hBS]; walk_at "M sub"
            have sE : ∀ q ∈ chE, q ∈ BS := by rw [hBS]; walk_at "M sub"
            have mDr : (Dr, W.listOf [Value.str r0 t0, Value.str r1 t1, Value.str r2 t2, Value.str r3 t3, Value.str r4 t4].toArray [Value.str r0 t0, Value.str r1 t1, Value.str r2 t2, Value.str r3 t3, Value.str r4 t4].length) ∈ BS := by rw [hBS]; k_mem
            have m158 : (158, tabObj p8) ∈ BS := by rw [hBS]; k_mem
            have mle : (lev, W.listOf evs.toArray ee) ∈ BS := by rw [hBS]; k_mem
            have mDb : (Db, W.listOf bs.toArray bs.length) ∈ BS := by rw [hBS]; k_mem
            have mRc : (Lw + 1 + 1, oR') ∈ BS := by rw [hBS]; k_mem
            have b1 : ∀ q ∈ BS, q.1 ≠ lt := by
              rw [hBS]
              exact all_cons (Nat.ne_of_gt (allLt_memE ltlp.2 (lt, W.listOf #[] 0) (by k_mem))) (all_cons (Nat.ne_of_gt ltT0.2.1) (all_app (fun p hp => Nat.ne_of_gt (ltQ (lt, W.listOf #[] 0) (by k_mem) p hp)) fun p hp => Nat.ne_of_lt (ltt p ((by walk_at "M subs" : ∀ q ∈ _, q ∈ _) p hp))))
            have b2 : ∀ q ∈ BS, q.1 ≠ ld := by
              rw [hBS]
              exact all_cons (Nat.ne_of_gt (allLt_memE ltlp.2 (ld, W.listOf #[] 0) (by k_mem))) (all_cons (Nat.ne_of_gt ltT0.1) (all_app (fun p hp => Nat.ne_of_gt (ltQ (ld, W.listOf #[] 0) (by k_mem) p hp)) fun p hp => Nat.ne_of_lt (allLt_memE ltd.2 p ((by walk_at "M subs" : ∀ q ∈ _, q ∈ _) p hp))))
            have b3 : ∀ q ∈ BS, q.1 ≠ 151 := by
              rw [hBS]
              exact all_cons (Nat.ne_of_gt (allLt_memE ltlp.2 (151, tabObj #[]) (by k_mem))) (all_cons (Nat.ne_of_gt (allLt_memE ltT0.2.2 (151, tabObj #[]) (by k_mem))) (all_app (fun p hp => Nat.ne_of_gt (ltQ (151, tabObj #[]) (by k_mem) p hp)) (all_app c151 (all_cons (show @Ne Nat 158 151 by decide) (all_cons (Ne.symm (off1_mem o5.2 (151, tabObj #[]) (by k_mem))) (all_cons (neE (151, tabObj #[]) (by k_mem) _ (.head _)) (all_cons (Ne.symm oDb.2.2.2.2.1) (all_cons (Nat.ne_of_gt (Nat.lt_succ_of_lt (Nat.lt_succ_of_lt l158.1))) (all_app (fun p hp => Nat.ne_of_gt (ltW (151, tabObj #[]) (by k_mem) p hp)) fun p hp => neE (151, tabObj #[]) (by k_mem) p (.tail _ hp))))))))))
            have nlt : lt ≠ 151 := Nat.ne_of_gt (ltt (151, tabObj #[]) (by k_mem))
            have nld : ld ≠ 151 := Nat.ne_of_gt (allLt_memE ltd.2 (151, tabObj #[]) (by k_mem))
            have ntd : @Ne Nat lt ld := Nat.ne_of_lt ltd.1
            have hPR := PrH BS _ _ bs bs.length sP mDb (WW.mono sW) (Nat.le_trans (lead_le _) (by decide)) (rowsL_len ([v0, v1, v2, v3, v4].map rowI) [v0, v1, v2, v3, v4] 0) (rows_at rfl hvs Ibs)
            have hEO := evs_out (BS := BS) sE hev
            have hpl : ∀ (i : Nat) v, [Value.ref T0, .ref T1, .ref T2, .ref T3, .ref T4, .ref T5][i]? = some v → ∃ T s1 s2 se a b, v = .ref T ∧ (T, tupO [.int a s1, .int b s2] se) ∈ BS ∧ 1 ≤ a ∧ a ≤ 5 ∧ 0 ≤ b ∧ b ≤ 14 := by
              intro i v hv
              rcases i with _ | _ | _ | _ | _ | _ | i
              · cases hv; exact ⟨T0, _, _, _, 1, 0, rfl, hoT0 ▸ mT0, by decide, by decide, by decide, by decide⟩
              · cases hv; exact ⟨T1, _, _, _, _, _, rfl, sQ _ mT1, by decide, by decide, Int.natCast_nonneg _, Int.ofNat_le.mpr hq0.1⟩
              · cases hv; exact ⟨T2, _, _, _, _, _, rfl, sQ _ mT2, by decide, by decide, Int.natCast_nonneg _, Int.ofNat_le.mpr hq1.1⟩
              · cases hv; exact ⟨T3, _, _, _, _, _, rfl, sQ _ mT3, by decide, by decide, Int.natCast_nonneg _, Int.ofNat_le.mpr hq2.1⟩
              · cases hv; exact ⟨T4, _, _, _, _, _, rfl, sQ _ mT4, by decide, by decide, Int.natCast_nonneg _, Int.ofNat_le.mpr hq3.1⟩
              · cases hv; exact ⟨T5, _, _, _, _, _, rfl, sQ _ mT5, by decide, by decide, Int.natCast_nonneg _, Int.ofNat_le.mpr hq4.1⟩
              · cases hv
            have NB := cb_drop (news := (lt, W.listOf ([] : List Value).toArray 0) :: (ld, W.listOf ([] : List Value).toArray 0) :: ([((151 : Addr), tabObj #[])] ++ ([] ++ BS))) N9 (by rw [hBS]; walk_at "M subs")
            refine t_list (l := lp) (vs := [Value.ref T0, .ref T1, .ref T2, .ref T3, .ref T4, .ref T5]) (nn := 0) (fun c : TS => (lt, W.listOf c.tv.toArray c.te) :: (ld, W.listOf c.dv.toArray c.de) :: (c.tc ++ (c.ch ++ BS))) (fun _ => []) [Str.ofString "line", Str.ofString "col", Str.ofString "place"] (PT G lt ld BS) ⟨[], 0, [], 0, [(151, tabObj #[])], []⟩ rfl (fun _ => .tail _ (.tail _ (List.mem_append_right _ (List.mem_append_right _ mlp)))) ?href F9 NB (fun _ h => h) (List.forall_mem_nil _) ?hp0 ?_ ?_
            case href =>
              intro i v hv
              obtain ⟨T, _, _, _, _, _, e, _⟩ := hpl i v hv
              exact ⟨T, e⟩
            case hp0 =>
              refine ⟨.inl rfl, rfl, rfl, (fun _ h => nomatch h), fun q hq => ?_, fun _ _ h => by cases h⟩
              rw [List.mem_singleton.mp hq]
              exact ⟨Ne.symm nlt, Ne.symm nld⟩
            · clear F9 N9 NB
              rintro ⟨tv, te, dv, de, tc, cc⟩ i v u h tk own hv hoff hcls hP F9 N9
              obtain ⟨T, s1, s2, se, a, b, rfl, mT, ha1, ha5, hb0, hb14⟩ := hpl i v hv
              have pht := hP.ht
              have pof := hP.off
              have ptf := hP.tof
              dsimp only [kstB] at F9 N9 hoff pht pof ptf
              have kMark9 : KstMark := KstMark.mark trivial
              with_reducible show wpAny _ _ _ _ _ _
              repeat' (first | (k_unfold; (try dsimp only)) | (k_end; wrow_close) | ((fail_if_success (with_reducible show wpAny _ _ (call (Value.ref 35) _) _ _ _)); walk1) | ((fail_if_success (with_reducible show wpAny _ _ (call (Value.ref 35) _) _ _ _)); dsimp only; walk1) | fail "no step")
              rename Fr _ _ _ _ => F8
              rename News _ _ _ _ => N8
              have hna := num_ok (b := a) (by omega) (by omega)
              have hnb := num_ok hb0 hb14
              k_dflt refine' glc_twoU B9 F8 X9 T9 N8 (place_ok (by omega) (by omega) hb0 hb14) hna.1 (Nat.le_trans hna.2 (by decide)) hnb.1 (Nat.le_trans hnb.2 (by decide)) ?xa ?xb ?xc ?xd ?xe ?_
              case xa =>
                have e1 : (Str.ofString ".").length = 1 := by decide
                simp only [Str.length_append, e1]
                omega
              case xb => exact Nat.le_of_ble_eq_true rfl
              case xc => exact Nat.le_of_ble_eq_true rfl
              case xd => exact rfl
              case xe => exact rfl
              intro Tp tp1 tp2 ep hp tkp Fp Np nep Kp
              clear F8 N8
              obtain ⟨tb, hbeg⟩ := begs_at Ibs (j := (a - 1).toNat) (by omega)
              have hys : ∀ y ∈ [r0, r1, r2, r3, r4], y.length ≤ 14 := by
                simp only [List.forall_mem_cons]
                exact ⟨hq0.1, hq1.1, hq2.1, hq3.1, hq4.1, fun _ h => nomatch h⟩
              repeat' (first | (k_unfold; (try dsimp only)) | (k_end; wrow_close) | ((fail_if_success (with_reducible show wpAny _ _ (call (Value.builtin "str.join") _) _ _ _)); walk1) | ((fail_if_success (with_reducible show wpAny _ _ (call (Value.builtin "str.join") _) _ _ _)); dsimp only; walk1) | fail "no step")
              rename News _ _ _ _ => N8
              refine join_list (ys := [r0, r1, r2, r3, r4]) (News.isList N8 (by k_mem)) (.cons _ _ (.cons _ _ (.cons _ _ (.cons _ _ (.cons _ _ .nil))))) (join_ok hys (Nat.le_of_ble_eq_true rfl)) ?_
              intro t9 k9
              repeat' (first | (k_unfold; (try dsimp only)) | (k_end; wrow_close) | ((fail_if_success (with_reducible show wpAny _ _ (call (Value.ref 168) _) _ _ _)); walk1) | ((fail_if_success (with_reducible show wpAny _ _ (call (Value.ref 168) _) _ _ _)); dsimp only; walk1) | fail "no step")
              rename Fr _ _ _ _ => F8
              rename News _ _ _ _ => N8
              obtain ⟨ps1, h151⟩ := pht.has
              have o151 : ∀ p ∈ own, p.1 ≠ 151 := fun p hp => hoff p hp (151, tabObj ps1) (.tail _ (.tail _ (List.mem_append_left _ h151)))
              have NA := cb_drop (news := tc ++ ((lt, W.listOf tv.toArray te) :: (ld, W.listOf dv.toArray de) :: (cc ++ (BS ++ own)))) N8 (by walk_at "M subs")
              k_dflt refine' told_use B9 F8 X9 NA T9 X9 T9 (hPR.mono ?yA) hc155 pht ?yB (law_pure _ rfl _) (fun k wit row => due_wit) ?yC ?yD rfl rfl ?_
              case yA => exact fun q hq => .tail _ (.tail _ (List.mem_append_right _ (List.mem_append_left _ hq)))
              case yB => exact all_cons nlt (all_cons nld (all_app (fun p hp => (pof p hp).2.2) (all_app b3 o151)))
              case yC => exact Nat.le_of_ble_eq_true rfl
              case yD => exact Nat.le_of_ble_eq_true rfl
              intro tx tc2 ch2 h2 tk2 hT2 F2 N2 rv2 off2
              clear F8 N8 NA
              obtain ⟨ps2, h152⟩ := hT2.has
              have m2 : ∀ q ∈ (lt, W.listOf tv.toArray te) :: (ld, W.listOf dv.toArray de) :: (cc ++ (BS ++ own)), h2.get? q.1 = some q.2 := fun q hq => (N2 q (List.mem_append_right _ (List.mem_append_right _ hq))).1
              have ptl := PT.told hP (h := h2) (fun b o e _ => F2.keep b o e) fun q hq => m2 q (.tail _ (.tail _ (by rw [← List.append_assoc]; exact List.mem_append_left _ hq)))
              have z1 : OffZ h2 lt := .inl ⟨tv, te, m2 (lt, W.listOf tv.toArray te) (.head _), ptl.1⟩
              have z2 : OffZ h2 ld := .inl ⟨dv, de, m2 (ld, W.listOf dv.toArray de) (.tail _ (.head _)), ptl.2⟩
              have z3 : OffZ h2 151 := .inr (.inl ⟨ps2, (N2 _ (List.mem_append_right _ (List.mem_append_left _ h152))).1⟩)
              have mo : ∀ p ∈ own, h2.get? p.1 = some p.2 := fun p hp => m2 p (.tail _ (.tail _ (List.mem_append_right _ (List.mem_append_right _ hp))))
              have z4 : ∀ p ∈ own, OffZ h2 p.1 := fun p hp => .inr (.inr ⟨p.2, mo p hp, (hcls p hp).1⟩)
              have oc2 : ∀ q ∈ ch2, q.1 ≠ lt ∧ q.1 ≠ ld ∧ q.1 ≠ 151 := fun q hq => ⟨fun e => off2 q hq (by rw [e]; exact z1), fun e => off2 q hq (by rw [e]; exact z2), fun e => off2 q hq (by rw [e]; exact z3)⟩
              have ow2 : ∀ p ∈ own, ∀ q ∈ ch2, q.1 ≠ p.1 := fun p hp q hq e => off2 q hq (by rw [e]; exact z4 p hp)
              have Nt2 : News G _ h2 tc2 := fun q hq => N2 q (List.mem_append_right _ (List.mem_append_left _ hq))
              have ot1 := tabC_off hT2 Nt2 (m2 (lt, W.listOf tv.toArray te) (.head _)) (.inl ⟨_, _, rfl⟩) nlt
              have ot2 := tabC_off hT2 Nt2 (m2 (ld, W.listOf dv.toArray de) (.tail _ (.head _))) (.inl ⟨_, _, rfl⟩) nld
              have ot3 : ∀ p ∈ own, ∀ q ∈ tc2, q.1 ≠ p.1 := fun p hp => tabC_off hT2 Nt2 (mo p hp) (let ⟨x, y, e⟩ := (hcls p hp).2; .inr ⟨x, y, 0, e⟩) (o151 p hp)
              clear Nt2
              have i6 : i < 6 := (List.getElem?_eq_some_iff.mp hv).1
              have lv1 : tv.length ≤ 1000 := Nat.le_trans (Nat.le_of_eq hP.l1) (by omega)
              have lv2 : dv.length ≤ 1000 := Nat.le_trans (Nat.le_of_eq hP.l2) (by omega)
              repeat' (first | (k_unfold; (try dsimp only)) | (k_end; wrow_close) | ((fail_if_success (with_reducible show wpAny _ _ (call (Value.builtin "list.append") _) _ _ _)); walk1) | ((fail_if_success (with_reducible show wpAny _ _ (call (Value.builtin "list.append") _) _ _ _)); dsimp only; walk1) | fail "no step")
              rename Fr _ _ _ _ => F8
              rename News _ _ _ _ => N8
              k_dflt refine' app_lst (vs := tv) (e := te) (rest := (ld, W.listOf dv.toArray de) :: (tc2 ++ ((ch2 ++ cc) ++ (BS ++ own)))) F8 N8 ?zam ?zar ?zan lv1 ?_
              case zam => k_mem
              case zar => walk_at "M subs"
              case zan => exact all_cons (Ne.symm ntd) (all_app ot1 (all_app (all_app (fun q hq => (oc2 q hq).1) fun q hq => (pof q hq).1) (all_app b1 fun p hp => hoff p hp (lt, W.listOf tv.toArray te) (.head _))))
              intro h3 F3 N3
              clear F8 N8
              repeat' (first | (k_unfold; (try dsimp only)) | (k_end; wrow_close) | ((fail_if_success (with_reducible show wpAny _ _ (call (Value.ref 187) _) _ _ _)); walk1) | ((fail_if_success (with_reducible show wpAny _ _ (call (Value.ref 187) _) _ _ _)); dsimp only; walk1) | fail "no step")
              rename Fr _ _ _ _ => F8
              rename News _ _ _ _ => N8
              k_dflt refine' due_use (led := BS) B9 F8 X9 T9 N8 ?yA mle hl5 hEO (outsL_len _ _ _ _) ?yC ?yD rfl rfl ?_
              case yA => walk_at "M sub"
              case yC => exact Nat.le_of_ble_eq_true rfl
              case yD => exact Nat.le_of_ble_eq_true rfl
              intro ty h4 tk4 F4 N4 _ ry
              clear F8 N8
              repeat' (first | (k_unfold; (try dsimp only)) | (k_end; wrow_close) | ((fail_if_success (with_reducible show wpAny _ _ (call (Value.builtin "list.append") _) _ _ _)); walk1) | ((fail_if_success (with_reducible show wpAny _ _ (call (Value.builtin "list.append") _) _ _ _)); dsimp only; walk1) | fail "no step")
              rename Fr _ _ _ _ => F8
              rename News _ _ _ _ => N8
              k_dflt refine' app_lst (vs := dv) (e := de) (rest := (lt, W.listOf (tv ++ [tx]).toArray (te + 1)) :: (tc2 ++ ((ch2 ++ cc) ++ (BS ++ own)))) F8 N8 ?zam ?zar ?zan lv2 ?_
              case zam => k_mem
              case zar => walk_at "M subs"
              case zan => exact all_cons ntd (all_app ot2 (all_app (all_app (fun q hq => (oc2 q hq).2.1) fun q hq => (pof q hq).2.1) (all_app b2 fun p hp => hoff p hp (ld, W.listOf dv.toArray de) (.tail _ (.head _)))))
              intro h5 F5 N5
              clear F8 N8
              repeat' (first | (k_unfold; (try dsimp only)) | (k_end; wrow_close) | walk1 | (dsimp only; walk1) | fail "no step")
              refine t_end (⟨tv ++ [tx], te + 1, dv ++ [ty], de + 1, tc2, ch2 ++ cc⟩ : TS) F5 N5 ?zhn ?zho ?zha (List.forall_mem_nil _) ?zhr (hP.snoc hT2 (fun q hq => ⟨ot1 q hq, ot2 q hq⟩) oc2 rv2 ry due_okD)
              case zhn => walk_at "M subs"
              case zho => walk_at "M sub"
              case zha =>
                intro p hp q hq
                have hall : ∀ q ∈ (lt, W.listOf (tv ++ [tx]).toArray (te + 1)) :: (ld, W.listOf (dv ++ [ty]).toArray (de + 1)) :: (tc2 ++ ((ch2 ++ cc) ++ BS)), q.1 ≠ p.1 := all_cons (Ne.symm (hoff p hp (lt, W.listOf tv.toArray te) (.head _))) (all_cons (Ne.symm (hoff p hp (ld, W.listOf dv.toArray de) (.tail _ (.head _)))) (all_app (ot3 p hp) (all_app (all_app (ow2 p hp) fun q hq => Ne.symm (hoff p hp q (.tail _ (.tail _ (List.mem_append_right _ (List.mem_append_left _ hq)))))) fun q hq => Ne.symm (hoff p hp q (.tail _ (.tail _ (List.mem_append_right _ (List.mem_append_right _ hq))))))))
                exact Ne.symm (hall q hq)
              case zhr =>
                intro z _ h3
                obtain ⟨z1, z2, z3⟩ := same3 h3
                simp only [if_neg z1, if_neg z2, if_neg z3, kstB, h3, Bool.false_eq_true, if_false]
            · clear F9 N9 NB
              rintro ⟨tv, te, dv, de, tc, cc⟩ u h tk hP F9 N9
              dsimp only [kstB] at F9 N9
              have kMark9 : KstMark := KstMark.mark trivial
              with_reducible show wpAny _ _ _ _ _ _
              repeat' (first | (k_unfold; (try dsimp only)) | (k_end; wrow_close) | ((fail_if_success (with_reducible show wpAny _ _ (compareOp _ (Value.ref _) (Value.ref _)) _ _ _)); walk1) | ((fail_if_success (with_reducible show wpAny _ _ (compareOp _ (Value.ref _) (Value.ref _)) _ _ _)); dsimp only; walk1) | fail "no step")
              rename Fr _ _ _ _ => F8
              rename News _ _ _ _ => N8
              obtain ⟨Rs, ks, r1, r2⟩ := hP.reads (fun b o e _ => F8.keep b o e) fun q hq => (N8 q (.tail _ (.tail _ (List.mem_append_right _ hq)))).1
              have okL : kqdOk 9 (.list (Rs.map toldD)) = true := List.all_eq_true.mpr fun d hd => by
                obtain ⟨R, hR, rfl⟩ := List.mem_map.mp hd
                exact ks R hR
              k_dflt refine' eq_dat (d := .list (Rs.map toldD)) (e := .list (Rs.map toldD)) true (Iff.intro (fun _ => rfl) fun _ => rfl) (RD.list (N8 _ (.head _)).1 r1) (RD.list (N8 _ (.tail _ (.head _))).1 r2) okL okL ?zu ?_
              case zu => units_room
              obtain ⟨ps1, h151⟩ := hP.ht.has
              have gw := And.intro (GrownAt.of N8 (.tail _ (.tail _ (List.mem_append_left _ h151)))) (And.intro (GrownAt.of N8 (.tail _ (.tail _ (List.mem_append_right _ (List.mem_append_right _ m158))))) True.intro)
              repeat' (first | (k_unfold; (try dsimp only)) | (k_end; refine goodW_bool (by assumption) (by assumption) (none_raised _) (post_true _)) | ((fail_if_success (with_reducible show GrownAll _ _)); walk1) | ((fail_if_success (with_reducible show GrownAll _ _)); dsimp only; walk1) | exact gw | (refine Leads.on hQ9 ?_; dsimp only) | fail "no step")
end

section
open PySem PySem.W PyProof.Rows
set_option maxRecDepth 100000
set_option maxHeartbeats 8000000
theorem lawF.tw5862889001043238388 : True := trivial
theorem lawF.tw844372067994531004 : True := trivial
theorem lawF.tw10587918776732353321 : True := trivial
theorem lawF.tw8572151828498171117 : True := trivial
theorem lawF.tw5792983586958421828 : True := trivial
theorem lawF.tw8754491882163061713 : True := trivial
theorem lawF.tw10911994768934328843 : True := trivial
theorem lawF.tw11459415897844902267 : True := trivial
theorem lawF.tw15401065044878571373 : True := trivial
theorem lawF.tw14775389007413705451 : True := trivial
theorem lawF.tw9765402773730533001 : True := trivial
theorem lawF.tw14088009683565674665 : True := trivial
theorem lawF.tw12375000710408212443 : True := trivial
theorem lawF.tw5158722694138049428 : True := trivial
theorem lawF.tw8161645235409928715 : True := trivial
theorem lawF.tw4799166535332879059 : True := trivial
theorem lawF.tw16291169227542943140 : True := trivial
theorem lawF.tw9032846201413083260 : True := trivial
theorem lawF.tw10954872508320571278 : True := trivial
theorem lawF.tw2503984323172001312 : True := trivial
theorem lawF.tw4608440173900680484 : True := trivial
theorem lawF.tw13911700725037740702 : True := trivial
theorem lawF.tw5053998280404931807 : True := trivial
theorem lawF.tw4160422549673686488 : True := trivial
theorem lawF.tw13328629818369530481 : True := trivial
theorem lawF.tw17356019772309043360 : True := trivial
theorem lawF.tw3346185105811831394 : True := trivial
theorem lawF.tw13706746864095706770 : True := trivial
theorem lawF.tw15727022447429039076 : True := trivial
theorem lawF.tw7724281025693318824 : True := trivial
theorem lawF.tw14912932929809511422 : True := trivial
theorem lawF.tw8008627898296982269 : True := trivial
theorem lawF.tw10518864095542832243 : True := trivial
theorem lawF.tw10311589393366418251 : True := trivial
theorem lawF.tw2275905934674929590 : True := trivial
theorem lawF.tw17775155154468649493 : True := trivial
theorem lawF.tw1996054343130404604 : True := trivial
theorem lawF.tw17961693629585132892 : True := trivial
theorem lawF.tw4075303491330179333 : True := trivial
theorem lawF.tw13281308517963772212 : True := trivial
theorem lawF.tw5381783371021051815 : True := trivial
theorem lawF.tw6491733057038746757 : True := trivial
theorem lawF.tw17411469143806493323 : True := trivial
theorem lawF.tw2779836195586486648 : True := trivial
theorem lawF.tw12842175269661062918 : True := trivial
theorem lawF.tw4107849962255551150 : True := trivial
theorem lawF.tw13723531776787468597 : True := trivial
theorem lawF.tw9567436123038207017 : True := trivial
theorem lawF.tw14409367009565103740 : True := trivial
theorem lawF.tw1302389845966481908 : True := trivial
theorem lawF.tw1774815538149261202 : True := trivial
theorem lawF.tw7732015154319376619 : True := trivial
theorem lawF.tw3756573583370675838 : True := trivial
theorem lawF.tw17560581137820015401 : True := trivial
theorem lawF.tw3682819012067864116 : True := trivial
theorem lawF.tw11254155950607473229 : True := trivial
theorem lawF.tw9581980957667067630 : True := trivial
theorem lawF.tw4626093492656661451 : True := trivial
theorem lawF.tw15717603175150887604 : True := trivial
theorem lawF.tw5417061710058134100 : True := trivial
theorem lawF.tw14235940952037593502 : True := trivial
theorem lawF.tw4931364881698399693 : True := trivial
theorem lawF.tw2303693435159520252 : True := trivial
theorem lawF.tw15535596295718492366 : True := trivial
theorem lawF.tw11587134546433890346 : True := trivial
theorem lawF.tw12263318736631411025 : True := trivial
theorem lawF.tw6564180599180049602 : True := trivial
theorem lawF.tw14542684037464848409 : True := trivial
theorem lawF.tw11318506812213201337 : True := trivial
theorem lawF.tw9720697106060155818 : True := trivial
theorem lawF.tw5122445231289636617 : True := trivial
theorem lawF.tw7327904811974435764 : True := trivial
theorem lawF.tw17324596282943048940 : True := trivial
theorem lawF.tw1670620985983677757 : True := trivial
theorem lawF.tw11254721392368547237 : True := trivial
theorem lawF.tw16873522504760455596 : True := trivial
theorem lawF.tw8046118867104196579 : True := trivial
theorem lawF.tw6602366557596789227 : True := trivial
theorem lawF.tw8690768084472934570 : True := trivial
theorem lawF.tw15156216951442185365 : True := trivial
theorem lawF.tw10496980814505092792 : True := trivial
theorem lawF.tw2634620301096363093 : True := trivial
theorem lawF.tw6842632646938455067 : True := trivial
theorem lawF.tw8243654099708502460 : True := trivial
theorem lawF.tw17802900367501921462 : True := trivial
theorem lawF.tw745698697383420572 : True := trivial
theorem lawF.tw16816250144891341522 : True := trivial
theorem lawF.tw15792203660225097872 : True := trivial
theorem lawF.tw15619537145475336317 : True := trivial
theorem lawF.tw4807510421515191793 : True := trivial
theorem lawF.tw11526942646672542866 : True := trivial
theorem lawF.tw11164013276501492932 : True := trivial
theorem lawF.tw5104628591968922131 : True := trivial
theorem lawF.tw4074154424612866890 : True := trivial
theorem lawF.tw15778080018074857211 : True := trivial
theorem lawF.tw9188738120253700569 : True := trivial
theorem lawF.tw4816671254735153173 : True := trivial
theorem lawF.tw17435534997765779268 : True := trivial
theorem lawF.tw8782567097207482553 : True := trivial
theorem lawF.tw8392465284202505085 : True := trivial
theorem lawF.tw5425441881526688416 : True := trivial
theorem lawF.tw9589884501767682183 : True := trivial
theorem lawF.tw9739120122319603036 : True := trivial
theorem lawF.tw14754168211610582210 : True := trivial
theorem lawF.tw5525823050451722114 : True := trivial
theorem lawF.tw1252058351718300390 : True := trivial
theorem lawF.tw15476317274247912400 : True := trivial
theorem lawF.tw9177354316377215333 : True := trivial
theorem lawF.tw4056593925779566299 : True := trivial
theorem lawF.tw17344813746871027559 : True := trivial
theorem lawF.tw17965034123298823699 : True := trivial
theorem lawF.tw10322393680938487512 : True := trivial
theorem lawF.tw11094508836466627039 : True := trivial
theorem lawF.tw17687392627821737435 : True := trivial
theorem lawF.tw2116496992624912336 : True := trivial
theorem lawF.tw16083016519533114019 : True := trivial
theorem lawF.tw17754844351930265427 : True := trivial
theorem lawF.tw13123419521288960303 : True := trivial
theorem lawF.tw13368696555600152358 : True := trivial
theorem lawF.tw14593166535792031448 : True := trivial
theorem lawF.tw6039440210228768690 : True := trivial
theorem lawF.tw16240753872294398598 : True := trivial
theorem lawF.tw12983668714836399117 : True := trivial
theorem lawF.tw4691601832314458259 : True := trivial
theorem lawF.tw12371176765138378676 : True := trivial
theorem lawF.tw8427895289299704707 : True := trivial
theorem lawF.tw1174931352050361404 : True := trivial
theorem lawF.tw8691865501151418859 : True := trivial
theorem lawF.tw6922509532692460695 : True := trivial
theorem lawF.tw8933450486405584128 : True := trivial
theorem lawF.tw914910229220747719 : True := trivial
theorem lawF.tw10563559494536168879 : True := trivial
theorem lawF.tw12619227563352672659 : True := trivial
theorem lawF.tw13920844267211356250 : True := trivial
theorem lawF.tw5371820367463636893 : True := trivial
theorem lawF.tw18419070452680710895 : True := trivial
theorem lawF.tw237483861766348871 : True := trivial
theorem lawF.tw5458701266247296494 : True := trivial
theorem lawF.tw4856702698796632229 : True := trivial
theorem lawF.tw2671456379738222887 : True := trivial
theorem lawF.tw16964459689261643381 : True := trivial
theorem lawF.tw278879421561404436 : True := trivial
theorem lawF.tw12044963933965797713 : True := trivial
theorem lawF.tw14786567605683080333 : True := trivial
theorem lawF.tw3881233613625272078 : True := trivial
theorem lawF.tw15434526180754343786 : True := trivial
theorem lawF.tw11769280248741400288 : True := trivial
theorem lawF.tw12070150171634082682 : True := trivial
theorem lawF.tw7551920469131869539 : True := trivial
theorem lawF.tw2393041453453758093 : True := trivial
theorem lawF.tw3062086970465660542 : True := trivial
theorem lawF.tw6828690764181138195 : True := trivial
theorem lawF.tw5311333357083195876 : True := trivial
theorem lawF.tw12931246048647272626 : True := trivial
theorem lawF.tw6313068624809052520 : True := trivial
theorem lawF.tw8385518900351234998 : True := trivial
theorem lawF.tw1634985679757437354 : True := trivial
theorem lawF.tw5988531649265912173 : True := trivial
theorem lawF.tw15122011386684460731 : True := trivial
theorem lawF.tw5854919026006585050 : True := trivial
theorem lawF.tw5177765274452641842 : True := trivial
theorem lawF.tw8680501375833943646 : True := trivial
theorem lawF.tw5880499834116146191 : True := trivial
theorem lawF.tw9577491980078430150 : True := trivial
theorem lawF.tw18019624447030736000 : True := trivial
theorem lawF.tw4999947962524965726 : True := trivial
theorem lawF.tw10335868768473720832 : True := trivial
theorem lawF.tw10928560602897197952 : True := trivial
theorem lawF.tw2098537085094787697 : True := trivial
theorem lawF.tw463710048031914404 : True := trivial
theorem lawF.tw18135566126050163080 : True := trivial
theorem lawF.tw5963988231510637549 : True := trivial
theorem lawF.tw15195220240913944103 : True := trivial
theorem lawF.tw8405243004952226384 : True := trivial
theorem lawF.tw10201265671666135781 : True := trivial
theorem lawF.tw6643104151276312235 : True := trivial
theorem lawF.tw15282654479523385260 : True := trivial
theorem lawF.tw357486453476387696 : True := trivial
set_option Elab.async true
theorem lawF : PySem.Challenge.rw_mr0234_01.Holds := by
  w_on; o_law; o_head Mine.hd.1
  case hw => w_witness2
  exact law0 rfl
set_option Elab.async false
end

end Mine

theorem PySem.Challenge.cw_mr0234_01_holds : PySem.Challenge.rw_mr0234_01.Holds :=
  Mine.lawF
