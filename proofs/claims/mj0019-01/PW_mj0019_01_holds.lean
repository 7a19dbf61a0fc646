import PyProof.Rows.All
import Wide.All
import OpenK.AllK
import Wide.FinOn
import PyProof.FactsAll.range_2
import PySem.Challenge.RW_mj0019_01
open PySem PySem.W PyProof.Rows
set_option Elab.async false
set_option maxRecDepth 100000
set_option linter.unusedVariables false
set_option linter.unusedSimpArgs false
namespace Mine
set_option maxHeartbeats 8000000 in
open_top hd for PySem.Challenge.rw_mj0019_01
end Mine
namespace Mine
open PySem.Calls
/-- the state, with another heap and count of tokens -/
def St (s : Shared) (h : Heap) (tk : Nat) : Shared := { s with heap := h, toks := tk }

structure Cx (K : Frag) (A : Around) (env : Env) (L : Addr) (h₀ : Heap) : Prop where
  top : ∃ A₀ base outer p loose mean mg mb, Below A₀ base outer h₀ ∧ Top p loose mean mg mb h₀ ∧ A.frames = some (env :: outer)
  X : K.In h₀
  hf : env.frame = some L
  hke : env.scope.kind = .function
  hh : A.handled = none

def Back (s : Shared) (h₀ : Heap) (L : Addr) (m : Str → Option Value) (g : Heap) (Q : Value → Shared → Prop) (v : Value) (s' : Shared) : Prop :=
  ∃ h' tk' L' m' news', s' = St s h' tk' ∧ Fr g L' h' m' ∧ News g L' h' news' ∧ (Fr h₀ L h' m → News h₀ L h' news' → Q v (St s h' tk'))

def flowVal : Flow → Value
  | .ret v => v
  | _ => .none

section
variable {prog : Program} {w : World} {A : Around} {E : Value → Shared → Prop} {s : Shared} {h : Heap} {tk : Nat} {K : Frag} {L : Addr} {h₀ : Heap} {m : Str → Option Value} {news : List (Addr × Obj)} {env : Env} {Q : Value → Shared → Prop}

theorem enter {name qual : Str} {params : Arguments} {body : List Stmt} {scope : Scope} {dV kV doc pm cdv ct oc : Value} {an od : Option Addr} {osl : Array (Option Value)} {f : Addr} {vals : List Value} {binds : List (Str × Value)}
    (C : Cx K A env L h₀) (F : Fr h₀ L h m) (N : News h₀ L h news)
    (ho : K.lookup f = some ⟨oc, od, .func (fnOf name qual params body scope dV kV doc pm an cdv ct), osl⟩) (hcd : codeIn K cdv qual = true) (hroom : A.depth < recursionLimit)
    (hbind : BindsTo (St s h tk) (fnOf name qual params body scope dV kV doc pm an cdv ct) ⟨vals, []⟩ binds) (hloc : ∀ y ∈ binds, scope.names.lookup y.1 = some .local)
    (hb : ∀ g L' h₁ tk' m', Cx K (A.deeper (envOf qual scope L' f cdv)) (envOf qual scope L' f cdv) L' g → Fr g L' h₁ m' → News g L' h₁ news → (∀ y, m' y = binds.reverse.lookup y) →
      wpAny (model prog w) (A.deeper (envOf qual scope L' f cdv)) (execs body (envOf qual scope L' f cdv))
        (fun fl s' => Back s h₀ L m g Q (flowVal fl) s') (fun _ _ => False) (St s h₁ tk'))
    (hco : scope.isCoroutine = false) (hgen : scope.isGenerator = false) (hk : scope.kind = .function)
    (hcell : ∀ x ∈ scope.names, x.2 ≠ .cell) : wpAny (model prog w) A (call (.ref f) vals) Q E (St s h tk) := by
  obtain ⟨A₀, base, outer, p, loose, mean, mg, mb, B, T, hA⟩ := C.top
  refine wpAny_call (code_def (s := St s h tk) B F C.X N T hA C.hf C.hke ho hcd hroom hbind hloc ?_ hco hgen hk hcell)
  intro g L' h₁ FG F' N' B' X' T'
  refine wpAny_mono (hb g L' h₁ _ _ ⟨⟨A, base, env :: outer, p, loose, mean, mg, mb, B', T', ?_⟩, X', rfl, hk, C.hh⟩ F' N' fun _ => rfl) ?_ (fun _ _ x => x.elim)
  · show A.frames.map _ = _
    rw [hA]; rfl
  · rintro fl s' ⟨h2, t2, L2, m2, n2, rfl, a, b, c⟩
    refine ⟨L2, m2, n2, a, b, fun x y => ?_⟩
    have := c x y
    cases fl <;> exact this

theorem Cx.glob {x : Str} {pos : Pos} {v : Value} {a : Addr} {cn : Str} {cs : Scope} {ccd : Value} (C : Cx K A (envOf cn cs L a ccd) L h₀) (F : Fr h₀ L h m) (e : nsIn K mainGlobals x = some (some v)) (hq : Q v (St s h tk))
    (hk : cs.kind = .function := by rfl) (hx : (envOf cn cs L a ccd).kindOf x = some .globalImplicit := by rfl) (hd : (x == ("__debug__" : Str)) = false := by decide) :
    wpAny (model prog w) A (eval (.Name x pos) (envOf cn cs L a ccd)) Q E (St s h tk) := by
  obtain ⟨A₀, base, outer, p, loose, mean, mg, mb, B, T, hA⟩ := C.top
  exact name_K F C.X (topRead_of T) e hq hk hx hd
theorem Cx.blt {x : Str} {pos : Pos} {v : Value} {a : Addr} {cn : Str} {cs : Scope} {ccd : Value} (C : Cx K A (envOf cn cs L a ccd) L h₀) (F : Fr h₀ L h m) (e : nsIn K mainGlobals x = some none) (hv : bootBuiltins x = some v) (hn : x ≠ "__name__") (hq : Q v (St s h tk))
    (hk : cs.kind = .function := by rfl) (hx : (envOf cn cs L a ccd).kindOf x = some .globalImplicit := by rfl) (hd : (x == ("__debug__" : Str)) = false := by decide) :
    wpAny (model prog w) A (eval (.Name x pos) (envOf cn cs L a ccd)) Q E (St s h tk) := by
  obtain ⟨A₀, base, outer, p, loose, mean, mg, mb, B, T, hA⟩ := C.top
  exact name_B F C.X (topRead_of T) e hv hn hq hk hx hd
theorem qld {x : Str} {pos : Pos} {v : Value} {a : Addr} {cn : Str} {cs : Scope} {ccd : Value} (F : Fr h₀ L h m) (hv : m x = some v) (hq : Q v (St s h tk))
    (hk : cs.kind = .function := by rfl) (hl : (envOf cn cs L a ccd).kindOf x = some .local := by rfl)
    (hd : (x == ("__debug__" : Str)) = false := by decide) :
    wpAny (model prog w) A (eval (.Name x pos) (envOf cn cs L a ccd)) Q E (St s h tk) := ld (s := St s h tk) F hv hq hk hl hd
theorem qst {x : Str} {v : Value} {a : Addr} {cn : Str} {cs : Scope} {ccd : Value} {Q : Unit → Shared → Prop} (F : Fr h₀ L h m) (N : News h₀ L h news)
    (hq : ∀ h' m' tk', Fr h₀ L h' m' → News h₀ L h' news → m' x = some v → (∀ y, (y == x) = false → m' y = m y) → Q () (St s h' tk'))
    (hk : cs.kind = .function := by rfl) (hl : (envOf cn cs L a ccd).kindOf x = some .local := by rfl) :
    wpAny (model prog w) A (storeName (envOf cn cs L a ccd) x v) Q E (St s h tk) :=
  stN (s := St s h tk) F N (fun h' F' N' => hq h' _ _ F' N' (if_pos rfl) fun y hy => if_neg (by simpa using hy)) hk hl
theorem qint {i : Int} {k : Nat} {pos : Pos} (hq : ∀ t tk', Q (.int i t) (St s h tk')) : wpAny (model prog w) A (eval (.Constant (.int i) k pos) env) Q E (St s h tk) := wpAny_Constant_int (hq _ _)
theorem qadd {a b : Int} {t u : Tok} (hq : ∀ t tk', Q (.int (a + b) t) (St s h tk')) : wpAny (model prog w) A (binaryOp .Add (.int a t) (.int b u)) Q E (St s h tk) := add_int (hq _ _)
theorem qsub {a b : Int} {t u : Tok} (hq : ∀ t tk', Q (.int (a - b) t) (St s h tk')) : wpAny (model prog w) A (binaryOp .Sub (.int a t) (.int b u)) Q E (St s h tk) := sub_int (hq _ _)
theorem qmul {a b : Int} {t u : Tok} (hm : IntMulOk a b) (hq : ∀ t tk', Q (.int (a * b) t) (St s h tk')) : wpAny (model prog w) A (binaryOp .Mult (.int a t) (.int b u)) Q E (St s h tk) := mul_int (hq _ _) hm
theorem qshr {a b : Int} {t u : Tok} (hb : 0 ≤ b) (hq : ∀ t tk', Q (.int (a.fdiv (2 ^ b.toNat)) t) (St s h tk')) : wpAny (model prog w) A (binaryOp .RShift (.int a t) (.int b u)) Q E (St s h tk) := rshift_int hb (hq _ _)
theorem qlen {l : Addr} {vs : List Value} {n : Nat} (N : News h₀ L h news) (hm : (l, W.listOf vs.toArray n) ∈ news) (hz : vs.length ≤ 16384) (hq : ∀ t tk', Q (.int vs.length t) (St s h tk')) :
    wpAny (model prog w) A (call (.builtin "len") [.ref l]) Q E (St s h tk) :=
  kun_lenL (s := St s h tk) (PySem.IsL.isList (n := n) (N _ hm).1) (by simp) (by omega) (hq _ _)

variable {l : Addr} {vs : List Value} {rest : List (Addr × Obj)} {n : Nat} {k : Int} {t : Tok} {x : Value}
theorem qitem {value slice : PySem.Expr} (N : News h₀ L h news) (hm : (l, W.listOf vs.toArray n) ∈ news) (h0 : 0 ≤ k) (h1 : k < vs.length) (hfit : vs.length < 2 ^ 20) (hx : vs[k.toNat]? = some x) (hq : Q x (St s h tk))
    (hs : subscripted slice false (.ref l) (.int k t) = operate [.ref l, .int k t] (getItem (.ref l) (.int k t)) := by with_unfolding_all rfl) :
    wpAny (model prog w) A (subscriptTail value slice (.ref l) (.int k t)) Q E (St s h tk) :=
  have hl : (St s h tk).heap.IsList l vs.toArray := PySem.IsL.isList (n := n) (N _ hm).1
  tail_any hl.typeIs slot_list_getitem.lookup (wpAny_getItem_list hl h0 (by omega) (by simpa using hx) hq) hs

theorem qset {Q : Unit → Shared → Prop} (F : Fr h₀ L h m) (N : News h₀ L h ((l, W.listOf vs.toArray n) :: rest)) (hr : ∀ p ∈ rest, p.1 ≠ l) (h0 : 0 ≤ k) (h1 : k < vs.length) (hfit : vs.length < 2 ^ 20)
    (hq : ∀ h', Fr h₀ L h' m → News h₀ L h' ((l, W.listOf (vs.set k.toNat x).toArray n) :: rest) → Q () (St s h' tk)) :
    wpAny (model prog w) A (setItem (.ref l) (.int k t) x) Q E (St s h tk) := by
  have z := N (l, W.listOf vs.toArray n) (.head _)
  refine ki_setAt (s := St s h tk) z.1 h0 (by omega) (by simpa using h1) (hq _ (F.change (Heap.SameBut.update ..) z.2.1 z.2.2) ?_)
  refine ki_turn (pre := []) (n := n) (n' := n) _ N (fun _ hp => nomatch hp) hr ?_ ?_
  · show vs.toArray.setIfInBounds k.toNat x = (vs.set k.toNat x).toArray
    apply Array.toList_inj.mp
    simp
  · simp

def WStep (h₀ : Heap) (L : Addr) (s : Shared) (J : Nat → (Str → Option Value) → List (Addr × Obj) → Prop) (Q : Flow → Shared → Prop) (n : Nat) (f : Flow) (s₃ : Shared) : Prop :=
  match f with
  | .next | .cont => ∃ h' tk m₂ news₂ n', s₃ = St s h' tk ∧ Fr h₀ L h' m₂ ∧ News h₀ L h' news₂ ∧ n' < n ∧ J n' m₂ news₂
  | .brk => Q .next s₃
  | .ret v => Q (.ret v) s₃
theorem qwhile {test : PySem.Expr} {body : List Stmt} {pos : Pos} {Q : Flow → Shared → Prop} (J : Nat → (Str → Option Value) → List (Addr × Obj) → Prop) (n₀ : Nat)
    (F : Fr h₀ L h m) (N : News h₀ L h news) (hJ : J n₀ m news)
    (turn : ∀ n m₁ news₁ h₁ tk₁, Fr h₀ L h₁ m₁ → News h₀ L h₁ news₁ → J n m₁ news₁ →
      wpAny (model prog w) A (isTrue test env (eval test env)) (fun b s₂ =>
        if b = true then wpAny (model prog w) A (execs body env) (WStep h₀ L s J Q n) (fun _ _ => False) s₂ else Q .next s₂) (fun _ _ => False) (St s h₁ tk₁)) :
    wpAny (model prog w) A (exec (.While test body [] pos) env) Q (fun _ _ => False) (St s h tk) := by
  refine While_inv2 (s := St s h tk) J F N hJ ?_ PassesOwn.never
  intro k m₁ news₁ h₁ tk₁ a b c
  refine wpAny_mono (turn k m₁ news₁ h₁ tk₁ a b c) (fun bb s2 p => ?_) fun _ _ x => x
  cases bb with
  | false => simpa using p
  | true =>
    simp only [if_true] at p ⊢
    refine wpAny_mono p (fun f s₃ q => ?_) fun _ _ x => x
    cases f <;> exact q

def FStep (h₀ : Heap) (L I : Addr) (s : Shared) (P : Obj → Prop) (J : (Str → Option Value) → List (Addr × Obj) → Prop) (Q : Flow → Shared → Prop) (f : Flow) (s₃ : Shared) : Prop :=
  match f with
  | .next | .cont => ∃ h' tk m₂ news₂ o, s₃ = St s h' tk ∧ P o ∧ Fr h₀ L h' m₂ ∧ News h₀ L h' ((I, o) :: news₂) ∧ (∀ p ∈ news₂, p.1 ≠ I) ∧ J m₂ news₂
  | .brk => Q .next s₃
  | .ret v => Q (.ret v) s₃
theorem qfor {x : Str} {px : Pos} {body : List Stmt} {I a : Addr} {cn : Str} {cs : Scope} {ccd : Value} {o : Obj} {Q : Flow → Shared → Prop} (cnt : Nat) (P : Nat → Obj → Prop) (V : Nat → Value → Prop) (J : Nat → (Str → Option Value) → List (Addr × Obj) → Prop)
    (F : Fr h₀ L h m) (N : News h₀ L h ((I, o) :: news)) (hn : ∀ p ∈ news, p.1 ≠ I) (hP : P 0 o) (hJ : J 0 m news)
    (nxt : ∀ i h₁ tk₁ o₁ news₁ m₁ (Q : Option Value → Shared → Prop), i < cnt → h₁.get? I = some o₁ → P i o₁ → News h₀ L h₁ news₁ → J i m₁ news₁ →
      (∀ v h' o' tk', V i v → h'.get? I = some o' → P (i + 1) o' → Heap.SameBut I h₁ h' → Q (some v) (St s h' tk')) → wpAny (model prog w) A (pyNext (.ref I)) Q (fun _ _ => False) (St s h₁ tk₁))
    (stp : ∀ h₁ tk₁ o₁ news₁ m₁ (Q : Option Value → Shared → Prop), h₁.get? I = some o₁ → P cnt o₁ → News h₀ L h₁ news₁ → J cnt m₁ news₁ →
      (∀ h' tk', Heap.ExtBut I h₁ h' → Q none (St s h' tk')) → wpAny (model prog w) A (pyNext (.ref I)) Q (fun _ _ => False) (St s h₁ tk₁))
    (turn : ∀ i v h₁ tk₁ m₁ m₂ news₁ o₁, i < cnt → V i v → J i m₁ news₁ → P (i + 1) o₁ → (∀ p ∈ news₁, p.1 ≠ I) → Fr h₀ L h₁ m₂ → News h₀ L h₁ ((I, o₁) :: news₁) → m₂ x = some v → (∀ y, (y == x) = false → m₂ y = m₁ y) →
      wpAny (model prog w) A (execs body (envOf cn cs L a ccd)) (FStep h₀ L I s (P (i + 1)) (J (i + 1)) Q) (fun _ _ => False) (St s h₁ tk₁))
    (done : ∀ h₁ tk₁ m₁ news₁, J cnt m₁ news₁ → Fr h₀ L h₁ m₁ → News h₀ L h₁ news₁ → Q .next (St s h₁ tk₁))
    (hk : cs.kind = .function := by rfl) (hl : (envOf cn cs L a ccd).kindOf x = some .local := by rfl) :
    codeAny (model prog w) A (.forLoop (.Name x px) (.ref I) body [] (envOf cn cs L a ccd)) (fun r s' => match r with | .ok f => Q f s' | .error e => cameBackBy (model prog w) A (envOf cn cs L a ccd) (fun _ _ => False) e s') (St s h tk) := by
  refine codeAny_forLoop (fun k s' => ∃ i h' tk' m₁ news₁ o₁, s' = St s h' tk' ∧ P i o₁ ∧ Fr h₀ L h' m₁ ∧ News h₀ L h' ((I, o₁) :: news₁) ∧ (∀ p ∈ news₁, p.1 ≠ I) ∧ J i m₁ news₁ ∧ i ≤ cnt ∧ k = cnt + 1 - i) ?_ (cnt + 1)
    ⟨0, h, tk, m, news, o, rfl, hP, F, N, hn, hJ, Nat.zero_le _, rfl⟩
  rintro k s' ⟨i, h₁, tk₁, m₁, news₁, o₁, rfl, hP₁, F₁, N₁, hn₁, hJ₁, hi, rfl⟩
  have nI := N₁ (I, o₁) (.head _)
  have Nr : News h₀ L h₁ news₁ := fun p hp => N₁ p (.tail _ hp)
  by_cases hlt : i < cnt
  · refine wpAny_mono (nxt i h₁ tk₁ o₁ news₁ m₁ (fun r s₁ => ∃ v h' o' tk', r = some v ∧ V i v ∧ h'.get? I = some o' ∧ P (i + 1) o' ∧ Heap.SameBut I h₁ h' ∧ s₁ = St s h' tk') hlt nI.1 hP₁ Nr hJ₁ fun v h' o' tk' a b c d => ⟨v, h', o', tk', rfl, a, b, c, d, rfl⟩) ?_ fun _ _ x => x.elim
    rintro r s₁ ⟨v, h', o', tk', rfl, hv, ho', hP', sb, rfl⟩
    have F' : Fr h₀ L h' m₁ := F₁.change sb nI.2.1 nI.2.2
    have N' : News h₀ L h' ((I, o') :: news₁) := fun p hp => by
      rcases List.mem_cons.mp hp with rfl | hp
      · exact ⟨ho', nI.2⟩
      · exact ⟨(sb.2 p.1 (hn₁ p hp)).trans (Nr p hp).1, (Nr p hp).2⟩
    refine wpAny_mono (E := fun _ _ => False) (wpAny_assign_Name (qst (cn := cn) (cs := cs) (a := a) (ccd := ccd) F' N' ?_ hk hl)) (fun _ _ x => x) fun _ _ x => x.elim
    intro h2 m2 tk2 F2 N2 y1 y2
    refine wpAny_mono (turn i v h2 tk2 m₁ m2 news₁ o' hlt hv hJ₁ hP' hn₁ F2 N2 y1 y2) ?_ fun _ _ x => x.elim
    intro f s₃ q
    cases f with
    | ret v => exact q
    | brk => exact q
    | next =>
      obtain ⟨h3, tk3, m3, news3, o3, rfl, p3, F3, N3, hn3, J3⟩ := q
      exact ⟨cnt + 1 - (i + 1), by omega, i + 1, h3, tk3, m3, news3, o3, rfl, p3, F3, N3, hn3, J3, by omega, rfl⟩
    | cont =>
      obtain ⟨h3, tk3, m3, news3, o3, rfl, p3, F3, N3, hn3, J3⟩ := q
      exact ⟨cnt + 1 - (i + 1), by omega, i + 1, h3, tk3, m3, news3, o3, rfl, p3, F3, N3, hn3, J3, by omega, rfl⟩
  · have hin : i = cnt := by omega
    subst hin
    refine wpAny_mono (stp h₁ tk₁ o₁ news₁ m₁ (fun r s₁ => ∃ h' tk', r = none ∧ Heap.ExtBut I h₁ h' ∧ s₁ = St s h' tk') nI.1 hP₁ Nr hJ₁ fun h' tk' a => ⟨h', tk', rfl, a, rfl⟩) ?_ fun _ _ x => x.elim
    rintro r s₁ ⟨h', tk', rfl, eb, rfl⟩
    refine wpAny_execs_nil (done h' tk' m₁ news₁ hJ₁ ?_ ?_)
    · obtain ⟨oL, a1, a2, hoL, a3⟩ := F₁.ns
      refine ⟨⟨oL, a1, a2, eb L oL nI.2.1.symm hoL, a3⟩, fun b x e => eb b x ?_ (F₁.keep b x e), F₁.above⟩
      rintro rfl
      rw [nI.2.2] at e
      cases e
    · exact fun p hp => ⟨eb p.1 p.2 (hn₁ p hp) (Nr p hp).1, (Nr p hp).2⟩

abbrev ritObj (x left step : Int) : Obj := { cls := .type "range_iterator", dict := none, data := .fields #[rawInt x, rawInt left, rawInt step], slots := #[] }
theorem qfor_range {x : Str} {px : Pos} {body : List Stmt} {I a : Addr} {cn : Str} {cs : Scope} {ccd : Value} {Q : Flow → Shared → Prop} (cnt : Nat) (lo c : Int) (J : Nat → (Str → Option Value) → List (Addr × Obj) → Prop) (hh : A.handled = none)
    (F : Fr h₀ L h m) (N : News h₀ L h ((I, ritObj lo cnt c) :: news)) (hn : ∀ p ∈ news, p.1 ≠ I) (hJ : J 0 m news)
    (turn : ∀ i t h₁ tk₁ m₁ m₂ news₁ o₁, i < cnt → J i m₁ news₁ → o₁ = ritObj (lo + ((i + 1 : Nat) : Int) * c) ((cnt : Int) - ((i + 1 : Nat) : Int)) c → (∀ p ∈ news₁, p.1 ≠ I) → Fr h₀ L h₁ m₂ → News h₀ L h₁ ((I, o₁) :: news₁) → m₂ x = some (.int (lo + i * c) t) → (∀ y, (y == x) = false → m₂ y = m₁ y) →
      wpAny (model prog w) A (execs body (envOf cn cs L a ccd)) (FStep h₀ L I s (fun o => o = ritObj (lo + ((i + 1 : Nat) : Int) * c) ((cnt : Int) - ((i + 1 : Nat) : Int)) c) (J (i + 1)) Q) (fun _ _ => False) (St s h₁ tk₁))
    (done : ∀ h₁ tk₁ m₁ news₁, J cnt m₁ news₁ → Fr h₀ L h₁ m₁ → News h₀ L h₁ news₁ → Q .next (St s h₁ tk₁))
    (hk : cs.kind = .function := by rfl) (hl : (envOf cn cs L a ccd).kindOf x = some .local := by rfl) :
    codeAny (model prog w) A (.forLoop (.Name x px) (.ref I) body [] (envOf cn cs L a ccd)) (fun r s' => match r with | .ok f => Q f s' | .error e => cameBackBy (model prog w) A (envOf cn cs L a ccd) (fun _ _ => False) e s') (St s h tk) := by
  refine qfor cnt (fun i o => o = ritObj (lo + (i : Nat) * c) ((cnt : Int) - (i : Nat)) c) (fun i v => ∃ t, v = .int (lo + i * c) t) J F N hn (by simp) hJ ?_ ?_ ?_ done hk hl
  · rintro i h₁ tk₁ o₁ news₁ m₁ Q hi ho rfl N₁ _ hQ
    refine wpAny_pyNext_range_item (s := St s h₁ tk₁) ho (by omega) fun h' hit' hs' => ?_
    refine hQ _ h' _ _ ⟨_, rfl⟩ hit' ?_ hs'
    have e1 : lo + ((i + 1 : Nat) : Int) * c = lo + (i : Int) * c + c := by push_cast; rw [Int.add_mul, Int.one_mul, Int.add_assoc]
    have e2 : (cnt : Int) - ((i + 1 : Nat) : Int) = (cnt : Int) - (i : Int) - 1 := by push_cast; omega
    rw [e1, e2]
  · rintro h₁ tk₁ o₁ news₁ m₁ Q ho rfl N₁ _ hQ
    exact wpAny_pyNext_range_end (s := St s h₁ tk₁) hh ho (by omega) fun h' he' => hQ h' _ he'
  · rintro i v h₁ tk₁ m₁ m₂ news₁ o₁ hi ⟨t, rfl⟩ hJ rfl hn1 F1 N1 y1 y2
    exact turn i t h₁ tk₁ m₁ m₂ news₁ _ hi hJ rfl hn1 F1 N1 y1 y2
end

def CmpOk (prog : Program) (w : World) (u : Nat) (rest : List (Addr × Obj)) (U : Value → Prop) (lt : Value → Value → Bool) : Prop :=
  ∀ x y, U x → U y → ∀ (A : Around) (s : Shared) (h : Heap) (tk : Nat) (Q : Value → Shared → Prop) (E : Value → Shared → Prop), A.units ≤ u → (∀ p ∈ rest, h.get? p.1 = some p.2) → Q (.bool (lt x y)) (St s h tk) → wpAny (model prog w) A (compareOp .Lt x y) Q E (St s h tk)
end Mine
/-! plain functions of the heap's two sifts -/
namespace Mine
def sdLoop {α : Type} (lt : α → α → Bool) (x : α) (st : Nat) (pos : Nat) (vs : List α) : List α :=
  if _h : st < pos then
    match vs[(pos - 1) / 2]? with
    | some par => if lt x par then sdLoop lt x st ((pos - 1) / 2) (vs.set pos par) else vs.set pos x
    | none => vs
  else vs.set pos x
termination_by pos
decreasing_by omega

/-- the child that _siftup goes down to -/
def chd {α : Type} (lt : α → α → Bool) (pos : Nat) (vs : List α) : Nat :=
  match vs[2 * pos + 1]?, vs[2 * pos + 2]? with
  | some a, some b => if lt a b then 2 * pos + 1 else 2 * pos + 2
  | _, _ => 2 * pos + 1
theorem chd_ge {α : Type} (lt : α → α → Bool) (pos : Nat) (vs : List α) : pos < chd lt pos vs := by
  unfold chd; split
  · split <;> omega
  · omega
/-- _siftup's first loop: the place where it ends and the list -/
def suLoop {α : Type} (lt : α → α → Bool) (pos : Nat) (vs : List α) : Nat × List α :=
  if _h : 2 * pos + 1 < vs.length then
    match vs[chd lt pos vs]? with
    | some c => suLoop lt (chd lt pos vs) (vs.set pos c)
    | none => (pos, vs)
  else (pos, vs)
termination_by vs.length - pos
decreasing_by
  have := chd_ge lt pos vs
  simp only [List.length_set]
  omega
def siftdown {α : Type} (lt : α → α → Bool) (st pos : Nat) (vs : List α) : List α :=
  match vs[pos]? with
  | some x => sdLoop lt x st pos vs
  | none => vs
def siftup {α : Type} (lt : α → α → Bool) (pos : Nat) (vs : List α) : List α :=
  match vs[pos]? with
  | some x => siftdown lt pos (suLoop lt pos vs).1 ((suLoop lt pos vs).2.set (suLoop lt pos vs).1 x)
  | none => vs

/-! permutations -/
section
variable {α : Type} {lt : α → α → Bool}
open Classical in
theorem set_set_perm (vs : List α) (i j : Nat) (hi : i < vs.length) (hj : j < vs.length) (hij : i ≠ j) (x : α) : ((vs.set i vs[j]).set j x).Perm (vs.set i x) := by
  rw [List.perm_iff_count]
  intro b
  rw [List.count_set (by simpa using hj), List.count_set hi, List.count_set hi]
  have e : (vs.set i vs[j])[j]'(by simpa using hj) = vs[j] := List.getElem_set_ne hij _
  rw [e]
  have c1 : (if vs[i] == b then 1 else 0) ≤ vs.count b := by
    split
    · rename_i h
      have : vs[i] = b := by simpa using h
      exact List.count_pos_iff.mpr (this ▸ List.getElem_mem hi)
    · omega
  omega
theorem sdLoop_perm (x : α) (st : Nat) (pos : Nat) (vs : List α) (hp : pos < vs.length) : (sdLoop lt x st pos vs).Perm (vs.set pos x) := by
  induction pos using Nat.strongRecOn generalizing vs with
  | ind pos ih =>
    rw [sdLoop]
    split
    · rename_i h
      have hq : (pos - 1) / 2 < vs.length := by omega
      rw [List.getElem?_eq_getElem hq]
      dsimp only
      split
      · refine (ih _ (by omega) _ (by simpa using hq)).trans ?_
        exact set_set_perm vs pos ((pos - 1) / 2) hp hq (by omega) x
      · exact .refl _
    · exact .refl _
theorem chd_lt (pos : Nat) (vs : List α) (h : 2 * pos + 1 < vs.length) : chd lt pos vs < vs.length := by
  unfold chd
  split
  · rename_i p1 p2
    split
    · omega
    · exact (List.getElem?_eq_some_iff.mp p2).1
  · omega
theorem suLoop_perm (pos : Nat) (vs : List α) (hp : pos < vs.length) : (suLoop lt pos vs).1 < vs.length ∧ (suLoop lt pos vs).2.length = vs.length ∧ ∀ x, ((suLoop lt pos vs).2.set (suLoop lt pos vs).1 x).Perm (vs.set pos x) := by
  induction hk : vs.length - pos using Nat.strongRecOn generalizing pos vs with
  | ind k ih =>
    rw [suLoop]
    split
    · rename_i h
      have hc := chd_lt (lt := lt) pos vs h
      have hg := chd_ge lt pos vs
      rw [List.getElem?_eq_getElem hc]
      dsimp only
      obtain ⟨a, b, c⟩ := ih (vs.length - chd lt pos vs) (by omega) (chd lt pos vs) (vs.set pos vs[chd lt pos vs]) (by simpa using hc) (by simp)
      refine ⟨by simpa using a, by simpa using b, fun x => (c x).trans ?_⟩
      exact set_set_perm vs pos _ hp hc (by omega) x
    · exact ⟨hp, rfl, fun _ => .refl _⟩
theorem siftdown_perm (st pos : Nat) (vs : List α) : (siftdown lt st pos vs).Perm vs := by
  unfold siftdown
  split
  · rename_i x h
    obtain ⟨hp, e⟩ := List.getElem?_eq_some_iff.mp h
    have := sdLoop_perm (lt := lt) x st pos vs hp
    rw [← e, List.set_getElem_self] at this
    rw [← e]
    exact this
  · exact .refl _
theorem siftup_perm (pos : Nat) (vs : List α) : (siftup lt pos vs).Perm vs := by
  unfold siftup
  split
  · rename_i x h
    obtain ⟨hp, e⟩ := List.getElem?_eq_some_iff.mp h
    obtain ⟨_, _, c⟩ := suLoop_perm (lt := lt) pos vs hp
    refine (siftdown_perm _ _ _).trans ((c x).trans ?_)
    rw [← e, List.set_getElem_self]
  · exact .refl _
/-- heapify's loop -/
def hfLoop (lt : α → α → Bool) : Nat → List α → List α
  | 0, vs => vs
  | k + 1, vs => hfLoop lt k (siftup lt k vs)
def heapF (lt : α → α → Bool) (vs : List α) : List α := hfLoop lt (vs.length / 2) vs
theorem hfLoop_perm : ∀ (k : Nat) (vs : List α), (hfLoop lt k vs).Perm vs
  | 0, _ => .refl _
  | k + 1, vs => (hfLoop_perm k _).trans (siftup_perm k vs)
theorem heapF_perm (vs : List α) : (heapF lt vs).Perm vs := hfLoop_perm _ _

/-! order -/
structure Good (lt : α → α → Bool) : Prop where
  asymm : ∀ a b, lt a b = true → lt b a = false
  ntrans : ∀ a b c, lt a b = false → lt b c = false → lt a c = false
def HP (lt : α → α → Bool) (p : Nat) (vs : List α) : Prop :=
  ∀ i a b, 0 < i → p ≤ (i - 1) / 2 → vs[i]? = some a → vs[(i - 1) / 2]? = some b → lt a b = false
def HH (lt : α → α → Bool) (p q : Nat) (vs : List α) : Prop :=
  ∀ i a b, 0 < i → p ≤ (i - 1) / 2 → i ≠ q → (i - 1) / 2 ≠ q → vs[i]? = some a → vs[(i - 1) / 2]? = some b → lt a b = false
inductive Desc (p : Nat) : Nat → Prop
  | refl : Desc p p
  | step {q : Nat} : 0 < q → Desc p ((q - 1) / 2) → Desc p q
theorem Desc.le {p q : Nat} (h : Desc p q) : p ≤ q := by
  induction h with
  | refl => exact Nat.le_refl _
  | step _ _ ih => omega
theorem Desc.up {p q : Nat} (h : Desc p q) (hn : q ≠ p) : 0 < q ∧ Desc p ((q - 1) / 2) := by
  cases h with
  | refl => exact absurd rfl hn
  | step a b => exact ⟨a, b⟩
theorem sdLoop_HP (G : Good lt) (x : α) (p : Nat) (q : Nat) (vs : List α) (hq : q < vs.length) (hd : Desc p q) (ha : HH lt p q vs)
    (hb : ∀ c a, 0 < c → (c - 1) / 2 = q → vs[c]? = some a → lt a x = false)
    (hc : q ≠ p → ∀ c a b, 0 < c → (c - 1) / 2 = q → vs[c]? = some a → vs[(q - 1) / 2]? = some b → lt a b = false) : HP lt p (sdLoop lt x p q vs) := by
  induction q using Nat.strongRecOn generalizing vs with
  | ind q ih =>
    rw [sdLoop]
    have fin : (q = p ∨ ∀ b, vs[(q - 1) / 2]? = some b → lt x b = false) → HP lt p (vs.set q x) := by
      intro hx i a b h0 h1 h2 h3
      rw [List.getElem?_set] at h2 h3
      by_cases e1 : q = i
      · subst e1
        rw [if_pos rfl, if_pos hq] at h2
        cases h2
        rw [if_neg (by omega)] at h3
        rcases hx with rfl | hx
        · exact absurd h1 (by omega)
        · exact hx b h3
      · rw [if_neg e1] at h2
        by_cases e2 : q = (i - 1) / 2
        · rw [if_pos e2, if_pos hq] at h3
          cases h3
          exact hb i a h0 e2.symm h2
        · rw [if_neg e2] at h3
          exact ha i a b h0 h1 (Ne.symm e1) (Ne.symm e2) h2 h3
    split
    · rename_i h
      have hqp : q ≠ p := by omega
      obtain ⟨h0, hd'⟩ := hd.up hqp
      have hr : (q - 1) / 2 < vs.length := by omega
      have hle := hd'.le
      have hpar : vs[(q - 1) / 2]? = some vs[(q - 1) / 2] := List.getElem?_eq_getElem hr
      rw [hpar]
      dsimp only
      split
      · rename_i hlt
        refine ih _ (by omega) _ (by simpa using hr) hd' ?_ ?_ ?_
        · intro i a b k0 k1 k2 k3 h2 h3
          rw [List.getElem?_set] at h2 h3
          by_cases e1 : q = i
          · subst e1; exact absurd rfl k3
          · rw [if_neg e1] at h2
            by_cases e2 : q = (i - 1) / 2
            · rw [if_pos e2, if_pos hq] at h3
              cases h3
              exact hc hqp i a _ k0 e2.symm h2 hpar
            · rw [if_neg e2] at h3
              exact ha i a b k0 k1 (Ne.symm e1) (Ne.symm e2) h2 h3
        · intro c a k0 k1 h2
          rw [List.getElem?_set] at h2
          by_cases e1 : q = c
          · subst e1
            rw [if_pos rfl, if_pos hq] at h2
            cases h2
            exact G.asymm _ _ hlt
          · rw [if_neg e1] at h2
            have := ha c a vs[(q - 1) / 2] k0 (by omega) (Ne.symm e1) (by omega) h2 (by rw [k1]; exact hpar)
            cases hax : lt a x with
            | false => rfl
            | true =>
              have n1 := G.asymm _ _ hax
              have n2 := G.ntrans _ _ _ n1 this
              rw [n2] at hlt
              cases hlt
        · intro hrp c a b k0 k1 h2 h3
          obtain ⟨r0, hd2⟩ := hd'.up hrp
          have hle2 := hd2.le
          rw [List.getElem?_set, if_neg (by omega)] at h3
          have hrr := ha ((q - 1) / 2) vs[(q - 1) / 2] b r0 hle2 (by omega) (by omega) hpar h3
          rw [List.getElem?_set] at h2
          by_cases e1 : q = c
          · subst e1
            rw [if_pos rfl, if_pos hq] at h2
            cases h2
            exact hrr
          · rw [if_neg e1] at h2
            have := ha c a vs[(q - 1) / 2] k0 (by omega) (Ne.symm e1) (by omega) h2 (by rw [k1]; exact hpar)
            exact G.ntrans _ _ _ this hrr
      · rename_i hlt
        refine fin (.inr fun b hb' => ?_)
        rw [hpar] at hb'
        cases hb'
        simpa using hlt
    · exact fin (.inl (by have := hd.le; omega))
theorem suLoop_HH (G : Good lt) (p : Nat) (q : Nat) (vs : List α) (hq : q < vs.length) (hd : Desc p q) (ha : HH lt p q vs)
    (hc : q ≠ p → ∀ c a b, 0 < c → (c - 1) / 2 = q → vs[c]? = some a → vs[(q - 1) / 2]? = some b → lt a b = false) :
    Desc p (suLoop lt q vs).1 ∧ HH lt p (suLoop lt q vs).1 (suLoop lt q vs).2 ∧ vs.length ≤ 2 * (suLoop lt q vs).1 + 1 := by
  induction hk : vs.length - q using Nat.strongRecOn generalizing q vs with
  | ind k ih =>
    rw [suLoop]
    split
    · rename_i h
      have hcl := chd_lt (lt := lt) q vs h
      have hg := chd_ge lt q vs
      have hcv : vs[chd lt q vs]? = some vs[chd lt q vs] := List.getElem?_eq_getElem hcl
      have hch : chd lt q vs = 2 * q + 1 ∨ chd lt q vs = 2 * q + 2 := by
        unfold chd; split
        · split <;> simp
        · simp
      rw [hcv]
      dsimp only
      have hle := hd.le
      have main := ih (vs.length - chd lt q vs) (by omega) (chd lt q vs) (vs.set q vs[chd lt q vs]) (by simpa using hcl) (.step (by omega) (by rw [show (chd lt q vs - 1) / 2 = q by omega]; exact hd)) ?_ ?_ (by simp)
      · simpa using main
      · intro i a b k0 k1 k2 k3 h2 h3
        rw [List.getElem?_set] at h2 h3
        by_cases e1 : q = i
        · subst e1
          rw [if_pos rfl, if_pos hq] at h2
          cases h2
          rw [if_neg (by omega)] at h3
          exact hc (by omega) (chd lt q vs) _ b (by omega) (by omega) hcv h3
        · rw [if_neg e1] at h2
          by_cases e2 : q = (i - 1) / 2
          · rw [if_pos e2, if_pos hq] at h3
            cases h3
            -- the sibling
            have hi : i < vs.length := (List.getElem?_eq_some_iff.mp h2).1
            have key : chd lt q vs = if lt vs[2 * q + 1] (vs[2 * q + 2]'(by omega)) then 2 * q + 1 else 2 * q + 2 := by
              unfold chd
              rw [List.getElem?_eq_getElem h, List.getElem?_eq_getElem (by omega : 2 * q + 2 < vs.length)]
            by_cases hl : lt vs[2 * q + 1] (vs[2 * q + 2]'(by omega)) = true
            · have key' := key.trans (if_pos hl)
              have ei : i = 2 * q + 2 := by omega
              subst ei
              have ea : a = vs[2 * q + 2] := by rw [List.getElem?_eq_getElem hi] at h2; exact (Option.some.inj h2).symm
              subst ea
              have eb : vs[chd lt q vs]? = vs[2 * q + 1]? := by rw [key']
              rw [List.getElem?_eq_getElem hcl, List.getElem?_eq_getElem h] at eb
              rw [Option.some.inj eb]
              exact G.asymm _ _ hl
            · have key' := key.trans (if_neg hl)
              have ei : i = 2 * q + 1 := by omega
              subst ei
              have ea : a = vs[2 * q + 1] := by rw [List.getElem?_eq_getElem hi] at h2; exact (Option.some.inj h2).symm
              subst ea
              have eb : vs[chd lt q vs]? = vs[2 * q + 2]? := by rw [key']
              rw [List.getElem?_eq_getElem hcl, List.getElem?_eq_getElem (by omega : 2 * q + 2 < vs.length)] at eb
              rw [Option.some.inj eb]
              simpa using hl
          · rw [if_neg e2] at h3
            exact ha i a b k0 k1 (Ne.symm e1) (Ne.symm e2) h2 h3
      · intro _ c a b k0 k1 h2 h3
        have e : (chd lt q vs - 1) / 2 = q := by omega
        rw [e, List.getElem?_set, if_pos rfl, if_pos hq] at h3
        cases h3
        rw [List.getElem?_set, if_neg (by omega)] at h2
        exact ha c a _ k0 (by omega) (by omega) (by omega) h2 (by rw [k1]; exact hcv)
    · rename_i h
      exact ⟨hd, ha, by omega⟩
theorem siftup_HP (G : Good lt) (p : Nat) (vs : List α) (hp : p < vs.length) (h : HP lt (p + 1) vs) : HP lt p (siftup lt p vs) := by
  unfold siftup
  rw [List.getElem?_eq_getElem hp]
  dsimp only
  obtain ⟨b1, b2, _⟩ := suLoop_perm (lt := lt) p vs hp
  obtain ⟨a1, a2, a3⟩ := suLoop_HH (lt := lt) G p p vs hp .refl (fun i a b k0 k1 k2 k3 h2 h3 => h i a b k0 (by omega) h2 h3) (fun hn => absurd rfl hn)
  generalize suLoop lt p vs = r at *
  obtain ⟨q, ws⟩ := r
  dsimp only at *
  unfold siftdown
  have hq : q < (ws.set q vs[p]).length := by simp; omega
  rw [List.getElem?_eq_getElem hq]
  dsimp only
  refine sdLoop_HP G _ p q _ hq a1 ?_ ?_ ?_
  · intro i a b k0 k1 k2 k3 h2 h3
    rw [List.getElem?_set, if_neg (Ne.symm k2)] at h2
    rw [List.getElem?_set, if_neg (Ne.symm k3)] at h3
    exact a2 i a b k0 k1 k2 k3 h2 h3
  · intro c a k0 k1 h2
    have := (List.getElem?_eq_some_iff.mp h2).1
    simp at this
    omega
  · intro _ c a b k0 k1 h2
    have := (List.getElem?_eq_some_iff.mp h2).1
    simp at this
    omega
theorem hfLoop_HP (G : Good lt) : ∀ (k : Nat) (vs : List α), k ≤ vs.length → HP lt k vs → HP lt 0 (hfLoop lt k vs)
  | 0, _, _, h => h
  | k + 1, vs, hk, h => hfLoop_HP G k _ (by rw [(siftup_perm k vs).length_eq]; omega) (siftup_HP G k vs (by omega) h)
theorem heapF_HP (G : Good lt) (vs : List α) : HP lt 0 (heapF lt vs) := by
  refine hfLoop_HP G _ vs (by omega) ?_
  intro i a b k0 k1 h2 h3
  have := (List.getElem?_eq_some_iff.mp h2).1
  omega
/-- the root is least -/
theorem HP_root (G : Good lt) {vs : List α} (h : HP lt 0 vs) {r : α} (hr : vs[0]? = some r) : ∀ a ∈ vs, lt a r = false := by
  have hrr : lt r r = false := by
    cases e : lt r r with
    | false => rfl
    | true => have := G.asymm _ _ e; rw [e] at this; cases this
  have key : ∀ (i : Nat) (a : α), vs[i]? = some a → lt a r = false := by
    intro i
    induction i using Nat.strongRecOn with
    | ind i ih =>
      intro a ha
      by_cases h0 : i = 0
      · subst h0; rw [hr] at ha; cases ha; exact hrr
      · have hi := (List.getElem?_eq_some_iff.mp ha).1
        have hq : (i - 1) / 2 < vs.length := by omega
        have hb := List.getElem?_eq_getElem hq
        exact G.ntrans _ _ _ (h i a _ (by omega) (by omega) ha hb) (ih _ (by omega) _ hb)
  intro a ha
  obtain ⟨i, hi⟩ := List.mem_iff_getElem?.mp ha
  exact key i a hi
end
end Mine
namespace Mine
open PySem.Calls
theorem sub_rit_reversed : isSubtype (.type "range_iterator") (.type "reversed") = pure false := by rw [isSubtype_type]; kernel_rfl
abbrev rngObj (a b c : Int) (t u v : Tok) : Obj := { cls := .type "range", dict := none, data := .fields #[.int a t, .int b u, .int c v], slots := #[] }
section
variable {prog : Program} {w : World} {A : Around} {E : Value → Shared → Prop} {s : Shared} {h : Heap} {tk : Nat} {K : Frag} {L : Addr} {h₀ : Heap} {m : Str → Option Value} {news : List (Addr × Obj)} {env : Env} {Q : Value → Shared → Prop}

theorem call_rng_reversed {s : Shared} {l : Addr} {b : Nat} {t u v : Tok} (hl : s.heap.get? l = some (rngObj 0 b 1 t u v)) (hb : b < 2 ^ 20)
    (hq : Q (.ref s.heap.objs.size) { s with heap := s.heap.push (ritObj ((b : Int) - 1) b (-1)) }) : wpAny (model prog w) A (call (.builtin "range.__reversed__") [.ref l]) Q E s := by
  have hT : s.TypeIs (.ref l) "range" := ⟨_, hl, rfl⟩
  refine wpAny_call_entry F.slot_range_reversed hT F.entry_range_reversed ?_ (F.args_range_reversed_1 _)
  unfold Builtin.«range.__reversed__»
  refine wpAny_bind (wpAny_of_eq (a := Value.ref l) rfl ?_)
  unfold Builtin.Range.rangeFields
  refine wpAny_bind ?_
  refine wpAny_bind (wpAny_field hl rfl (x := .int 0 t) rfl ?_)
  refine wpAny_bind (wpAny_of_eq (a := some (0 : Int)) rfl ?_)
  refine wpAny_bind (wpAny_field hl rfl (x := .int b u) rfl ?_)
  refine wpAny_bind (wpAny_of_eq (a := some (b : Int)) rfl ?_)
  refine wpAny_bind (wpAny_field hl rfl (x := .int 1 v) rfl ?_)
  refine wpAny_bind ?_
  refine wpAny_pure (a := some (1 : Int)) ?_
  refine wpAny_pure (a := ((0 : Int), (b : Int), (1 : Int))) ?_
  have hn : Builtin.Range.rangeSize 0 b 1 = (b : Int) := by
    rw [rangeSize_one]; split <;> omega
  have hf : ∀ i : Int, -(2 ^ 30) ≤ i → i < 2 ^ 30 → Builtin.Range.rangeFitsLong i = true := by
    intro i h1 h2
    unfold Builtin.Range.rangeFitsLong
    rw [Bool.and_eq_true]
    constructor
    · exact decide_eq_true (by omega)
    · exact decide_eq_true (by omega)
  simp only [hn, hf 0 (by decide) (by decide), hf b (by omega) (by omega), hf 1 (by decide) (by decide), hf (-1) (by decide) (by decide), hf (0 - 1) (by decide) (by decide), Bool.and_true, Bool.not_true, Bool.false_eq_true, if_false, if_true]
  refine wpAny_bind ?_
  unfold newFields
  refine wpAny_newObj_type (wpAny_pure ⟨_, rfl, ?_⟩)
  have e : (0 : Int) + ((b : Int) - 1) * 1 = (b : Int) - 1 := by omega
  rw [e]
  exact hq

theorem newClass_rev (a : Value) : Builtin.SmallTypes.newClass "reversed" ⟨[.type "reversed", a], []⟩ = pure (.type "reversed", [a]) := newClass_reversed a

theorem code_rng_reversed_new {s : Shared} {l : Addr} {b : Nat} {t u v : Tok} {Q₁ : Value → Shared → Prop} (hl : s.heap.get? l = some (rngObj 0 b 1 t u v)) (hb : b < 2 ^ 20)
    (hq : Q₁ (.ref s.heap.objs.size) { s with heap := s.heap.push (ritObj ((b : Int) - 1) b (-1)) }) :
    codeAny (model prog w) A (.call (.builtin "reversed.__new__") ⟨[.type "reversed", .ref l], []⟩) (wants Q₁ E) s := by
  have hT : s.TypeIs (.ref l) "range" := ⟨_, hl, rfl⟩
  refine codeAny_of_tree ?_
  show wpAny _ A.in1 (do checkBuiltinCall "reversed.__new__" ⟨[.type "reversed", .ref l], []⟩; again (.builtin "reversed.__new__" ⟨[.type "reversed", .ref l], []⟩)) _ _ s
  refine wpAny_bind (wpAny_of_eq (F.newCall_reversed_1 _) (wpAny_pure ⟨plainId_quiet F.plain_reversed_new _, codeAny_builtin F.entry_reversed_new ?_⟩))
  rw [Around.under_plainId F.plain_reversed_new _]
  unfold Builtin.«reversed.__new__»
  refine wpAny_bind (wpAny_of_eq (newClass_reversed _) ?_)
  try dsimp only
  refine wpAny_bind (wpAny_of_eq (a := ()) (by first | rfl | kernel_rfl) ?_)
  refine wpAny_bind (wpAny_of_eq (a := ()) (by first | rfl | kernel_rfl) ?_)
  try dsimp only
  refine wpAny_bind (wpAny_specialOf hT F.slot_range_reversed.lookup ?_)
  try dsimp only
  refine wpAny_bind (wpAny_of_eq (F.slot_range_reversed.bind _) ?_)
  try dsimp only
  show wpAny _ _ (if (Value.builtin "range.__reversed__" == Value.none) = true then _ else _) _ _ _
  rw [if_neg (show ¬ ((Value.builtin "range.__reversed__" == Value.none) = true) from Bool.false_ne_true)]
  refine wpAny_bind (wpAny_rule ?_)
  refine wpAny_bind (m := runValue (.call (.builtin "range.__reversed__") ⟨[.ref l], []⟩)) (show wpAny _ _ (call (.builtin "range.__reversed__") [.ref l]) _ _ _ from call_rng_reversed hl hb ?_)
  first
  | exact wpAny_pure hq
  | exact wpAny_bind (wpAny_pure (wpAny_pure hq))

theorem call_reversed_rng {s : Shared} {l : Addr} {b : Nat} {t u v : Tok} (hl : s.heap.get? l = some (rngObj 0 b 1 t u v)) (hb : b < 2 ^ 20)
    (hq : Q (.ref s.heap.objs.size) { s with heap := s.heap.push (ritObj ((b : Int) - 1) b (-1)) }) : wpAny (model prog w) A (call (.type "reversed") [.ref l]) Q E s := by
  refine callType_other (U := "range_iterator") (Q₁ := fun obj s₁ => obj = .ref s.heap.objs.size ∧ s₁ = { s with heap := s.heap.push (ritObj ((b : Int) - 1) b (-1)) }) (by decide +kernel) F.create_reversed ⟨_, _, F.mro_reversed⟩ F.made_reversed sub_rit_reversed (F.typeCall_reversed_1 _) (code_rng_reversed_new hl hb ⟨rfl, rfl⟩) ?_
  rintro obj s₁ ⟨rfl, rfl⟩
  exact ⟨⟨_, Heap.get?_push_size _ rfl, rfl⟩, hq⟩

/-! over the ledger -/
theorem qrange {b : Int} {t : Tok} (F : Fr h₀ L h m) (N : News h₀ L h news) (hq : ∀ r h' tk' t u v, Fr h₀ L h' m → News h₀ L h' ((r, rngObj 0 b 1 t u v) :: news) → (∀ p ∈ news, p.1 < r) → Q (.ref r) (St s h' tk')) :
    wpAny (model prog w) A (call (.type "range") [.int b t]) Q E (St s h tk) :=
  call_range_1 (s := St s h tk) (hq h.objs.size _ _ _ _ _ (F.push _) (N.push F _) fun p hp => Heap.lt_size (N p hp).1)
theorem qrev {r : Addr} {b : Nat} {t u v : Tok} (F : Fr h₀ L h m) (N : News h₀ L h news) (hm : (r, rngObj 0 b 1 t u v) ∈ news) (hb : b < 2 ^ 20)
    (hq : ∀ I h' tk', Fr h₀ L h' m → News h₀ L h' ((I, ritObj ((b : Int) - 1) b (-1)) :: news) → (∀ p ∈ news, p.1 < I) → Q (.ref I) (St s h' tk')) :
    wpAny (model prog w) A (call (.type "reversed") [.ref r]) Q E (St s h tk) :=
  call_reversed_rng (s := St s h tk) (N _ hm).1 hb (hq h.objs.size _ tk (F.push _) (N.push F _) fun p hp => Heap.lt_size (N p hp).1)
theorem qiter_rit {I : Addr} {x left step : Int} (N : News h₀ L h news) (hm : (I, ritObj x left step) ∈ news) (hq : Q (.ref I) (St s h tk)) : wpAny (model prog w) A (pyIter (.ref I)) Q E (St s h tk) :=
  wpAny_pyIter_rangeiter (s := St s h tk) (N _ hm).1 hq
theorem small_rng (b : Nat) (hb : b < 2 ^ 20) : Builtin.Range.small 0 b 1 = true := by
  have hn : Builtin.Range.rangeSize 0 b 1 = (b : Int) := by
    rw [rangeSize_one]; split <;> omega
  have hf : ∀ i : Int, -(2 ^ 30) ≤ i → i < 2 ^ 30 → Builtin.Range.rangeFitsLong i = true := by
    intro i h1 h2
    unfold Builtin.Range.rangeFitsLong
    rw [Bool.and_eq_true]
    constructor
    · exact decide_eq_true (by omega)
    · exact decide_eq_true (by omega)
  unfold Builtin.Range.small
  simp [hn, hf 0 (by decide) (by decide), hf b (by omega) (by omega), hf 1 (by decide) (by decide)]
theorem qiter_rng {r : Addr} {b : Nat} {t u v : Tok} (F : Fr h₀ L h m) (N : News h₀ L h news) (hm : (r, rngObj 0 b 1 t u v) ∈ news) (hb : b < 2 ^ 20)
    (hq : ∀ I h', Fr h₀ L h' m → News h₀ L h' ((I, ritObj 0 b 1) :: news) → (∀ p ∈ news, p.1 < I) → Q (.ref I) (St s h' tk)) :
    wpAny (model prog w) A (pyIter (.ref r)) Q E (St s h tk) := by
  have hn : Builtin.Range.rangeSize 0 b 1 = (b : Int) := by
    rw [rangeSize_one]; split <;> omega
  refine wpAny_pyIter_range (s := St s h tk) (N _ hm).1 (small_rng b hb) ?_
  rw [hn]
  exact hq h.objs.size _ (F.push _) (N.push F _) fun p hp => Heap.lt_size (N p hp).1
theorem qfdiv {a b : Int} {t u : Tok} (hb : b ≠ 0) (hp : Builtin.divisionGoesByPylong a b = false) (hq : ∀ t tk', Q (.int (a.fdiv b) t) (St s h tk')) : wpAny (model prog w) A (binaryOp .FloorDiv (.int a t) (.int b u)) Q E (St s h tk) :=
  floordiv_int hb (hq _ _) (Or.inl hp)
theorem noPy2 (a : Int) : Builtin.divisionGoesByPylong a 2 = false := PyProof.noPylong_of_log2 (by decide +kernel)
theorem qneg {a : Int} {t : Tok} (hq : ∀ t tk', Q (.int (-a) t) (St s h tk')) : wpAny (model prog w) A (unaryOp .USub (.int a t)) Q E (St s h tk) := neg_int (hq _ _)
end
theorem CmpOk.mono {prog : Program} {w : World} {u : Nat} {rest rest' : List (Addr × Obj)} {U : Value → Prop} {lt : Value → Value → Bool} (c : CmpOk prog w u rest U lt) (hs : ∀ p ∈ rest, p ∈ rest') : CmpOk prog w u rest' U lt :=
  fun x y hx hy A s h tk Q E hu hr hq => c x y hx hy A s h tk Q E hu (fun p hp => hr p (hs p hp)) hq
theorem news_sub {h₀ h : Heap} {L : Addr} {a b : List (Addr × Obj)} (N : News h₀ L h a) (hs : ∀ p ∈ b, p ∈ a) : News h₀ L h b := fun p hp => N p (hs p hp)
end Mine
namespace Mine
open PySem.Calls LCg LCt
section
variable {prog : Program} {w : World} {A : Around} {E : Value → Shared → Prop} {s : Shared} {h : Heap} {tk : Nat} {L : Addr} {h₀ : Heap} {m : Str → Option Value} {news : List (Addr × Obj)} {env : Env} {elt ct : PySem.Expr} {x : Str} {scope : Scope} {cl : List (Str × Addr)} {Fin : Shared → List Value → List (Addr × Obj) → Prop}
/-- a turn's element: it ends in a state whose ledger is told by `Inv` -/
def ElEnd (s : Shared) (h₀ : Heap) (L : Addr) (m : Str → Option Value) (base : List (Addr × Obj)) (off : List (Addr × Obj) → Prop) (P : Value → List (Addr × Obj) → Prop) (y : Value) (s₂ : Shared) : Prop :=
  ∃ h' tk' nw, s₂ = St s h' tk' ∧ Fr h₀ L h' m ∧ News h₀ L h' (base ++ nw) ∧ off nw ∧ P y nw
theorem comp_rest {n : Nat} (S : List (Addr × Obj) → Prop) (P : Nat → Value → Prop) (Inv : Nat → List Value → List (Addr × Obj) → Prop) (Fn : List Value → List (Addr × Obj) → Prop) (hS : ∀ i ys nw, Inv i ys nw → S nw)
    (el : ∀ i v I oI C oC D ys nw m₂ h₁ tk₁, i < n → P i v → Inv i ys nw → NsObj oC m₂ → m₂ x = some v → Fr h₀ L h₁ m → News h₀ L h₁ ((I, oI) :: (C, oC) :: (D, lst ys) :: nw) → Off3 I C D nw → (I ≠ C ∧ I ≠ D ∧ C ≠ D) →
      wpAny (model prog w) A (eval elt (compEnvC scope cl C env)) (ElEnd s h₀ L m [(I, oI), (C, oC), (D, lst ys)] (Off3 I C D) fun y nw' => Inv (i + 1) (ys ++ [y]) nw') (fun _ _ => False) (St s h₁ tk₁))
    (fin : ∀ ys nw, Inv n ys nw → Fn ys nw) (g : Heap) : ∀ (k i : Nat) (ys : List Value) (nw : List (Addr × Obj)), k + i = n → Inv i ys nw → CompRest prog w A h₀ L m env elt x scope cl { St s h tk with heap := g } S P Fn k i ys nw
  | 0, i, ys, nw, e, hi => by
    have e' : i = n := by omega
    subst e'
    exact fin ys nw hi
  | k + 1, i, ys, nw, e, hi => by
    refine CompRest.succ ?_
    intro v I oI C oC D m₂ h₁ tk₁ E' hP hC hx F N off ne
    refine wpAny_mono (el i v I oI C oC D ys nw m₂ h₁ tk₁ (by omega) hP hi hC hx F N off ne) ?_ fun _ _ x => x.elim
    rintro y s₂ ⟨h', tk', nw', rfl, F', N', off', hI⟩
    exact ⟨h', tk', nw', rfl, F', N', off', hS _ _ _ hI, comp_rest S P Inv Fn hS el fin g k (i + 1) _ nw' (by omega) hI⟩
theorem src_list {ax : Addr} {its : List Value} {k : Nat} (Inv : Nat → List Value → List (Addr × Obj) → Prop) (hh : A.handled = none) (F : Fr h₀ L h m) (N : News h₀ L h news) (hm : (ax, W.listOf its.toArray k) ∈ news) (hz : its.length ≤ 16384)
    (h0 : Inv 0 [] news) (hS : ∀ i ys nw, Inv i ys nw → (ax, W.listOf its.toArray k) ∈ nw)
    (el : ∀ i v I oI C oC D ys nw m₂ h₁ tk₁, i < its.length → its[i]? = some v → Inv i ys nw → NsObj oC m₂ → m₂ x = some v → Fr h₀ L h₁ m → News h₀ L h₁ ((I, oI) :: (C, oC) :: (D, lst ys) :: nw) → Off3 I C D nw → (I ≠ C ∧ I ≠ D ∧ C ≠ D) →
      wpAny (model prog w) A (eval elt (compEnvC scope cl C env)) (ElEnd s h₀ L m [(I, oI), (C, oC), (D, lst ys)] (Off3 I C D) fun y nw' => Inv (i + 1) (ys ++ [y]) nw') (fun _ _ => False) (St s h₁ tk₁))
    (fin : ∀ g ys nw, Inv its.length ys nw → Fin (St s g tk) ys nw) : CompSrc prog w A h₀ L m env elt x scope cl Fin (.ref ax) (St s h tk) := by
  refine CompSrc.ledger (s₁ := St s h tk) (its := its.toArray) (k := k) hh F N hm (by rw [List.size_toArray, sizeLine_eq]; omega) fun g => ?_
  refine comp_rest (n := its.toArray.size) _ _ Inv _ (fun i ys nw hi => .inr ⟨_, hS i ys nw hi, rfl, _, rfl⟩) ?_ (fun ys nw hi => fin g ys nw (by simpa using hi)) g _ 0 [] news (by simp) h0
  intro i v I oI C oC D ys nw m₂ h₁ tk₁ hi hP
  exact el i v I oI C oC D ys nw m₂ h₁ tk₁ (by simpa using hi) (by simpa using hP)
theorem src_range {r : Addr} {a b : Nat} {t u v : Tok} (Inv : Nat → List Value → List (Addr × Obj) → Prop) (hh : A.handled = none) (F : Fr h₀ L h m) (N : News h₀ L h news) (hm : (r, rngObj a b 1 t u v) ∈ news) (ha : a ≤ b) (hb : b < 2 ^ 20)
    (h0 : Inv 0 [] news)
    (el : ∀ i t I oI C oC D ys nw m₂ h₁ tk₁, i < b - a → Inv i ys nw → NsObj oC m₂ → m₂ x = some (.int ((a + i : Nat) : Int) t) → Fr h₀ L h₁ m → News h₀ L h₁ ((I, oI) :: (C, oC) :: (D, lst ys) :: nw) → Off3 I C D nw → (I ≠ C ∧ I ≠ D ∧ C ≠ D) →
      wpAny (model prog w) A (eval elt (compEnvC scope cl C env)) (ElEnd s h₀ L m [(I, oI), (C, oC), (D, lst ys)] (Off3 I C D) fun y nw' => Inv (i + 1) (ys ++ [y]) nw') (fun _ _ => False) (St s h₁ tk₁))
    (fin : ∀ g ys nw, Inv (b - a) ys nw → Fin (St s g tk) ys nw) : CompSrc prog w A h₀ L m env elt x scope cl Fin (.ref r) (St s h tk) := by
  have hn : Builtin.Range.rangeSize a b 1 = ((b - a : Nat) : Int) := by
    rw [rangeSize_one]; split <;> omega
  have hf : ∀ i : Int, -(2 ^ 30) ≤ i → i < 2 ^ 30 → Builtin.Range.rangeFitsLong i = true := by
    intro i h1 h2
    unfold Builtin.Range.rangeFitsLong
    rw [Bool.and_eq_true]
    constructor
    · exact decide_eq_true (by omega)
    · exact decide_eq_true (by omega)
  have hsm : Builtin.Range.small a b 1 = true := by
    unfold Builtin.Range.small
    rw [hn]
    simp [hf a (by omega) (by omega), hf b (by omega) (by omega), hf 1 (by decide) (by decide), hf ((b - a : Nat) : Int) (by omega) (by omega)]
  refine CompSrc.range (s₁ := St s h tk) (n := b - a) hh F N (N _ hm).1 hsm hn (by rw [sizeLine_eq]; omega) fun g => ?_
  refine comp_rest (n := b - a) _ _ Inv _ (fun _ _ _ _ => trivial) ?_ (fun ys nw hi => fin g ys nw hi) g _ 0 [] news (by simp) h0
  rintro i v I oI C oC D ys nw m₂ h₁ tk₁ hi ⟨t, rfl⟩ hI hC hx
  exact el i t I oI C oC D ys nw m₂ h₁ tk₁ hi hI hC (by rw [hx]; simp)

theorem comp_restT {n : Nat} (S : List (Addr × Obj) → Prop) (P : Nat → Value → Prop) (Inv : Nat → List Value → List (Addr × Obj) → Prop) (Fn : List Value → List (Addr × Obj) → Prop) (hS : ∀ i ys nw, Inv i ys nw → S nw)
    (el : ∀ i v I oI C oC D ys nw m₂ h₁ tk₁, i < n → P i v → Inv i ys nw → NsObj oC m₂ → m₂ x = some v → Fr h₀ L h₁ m → News h₀ L h₁ ((I, oI) :: (C, oC) :: (D, lst ys) :: nw) → Off3 I C D nw → (I ≠ C ∧ I ≠ D ∧ C ≠ D) →
      wpAny (model prog w) A (isTrue ct (compEnvC scope cl C env) (eval ct (compEnvC scope cl C env))) (fun ok s' => if ok = true then
        wpAny (model prog w) A (eval elt (compEnvC scope cl C env)) (ElEnd s h₀ L m [(I, oI), (C, oC), (D, lst ys)] (Off3 I C D) fun y nw' => Inv (i + 1) (ys ++ [y]) nw') (fun _ _ => False) s'
        else ElEnd s h₀ L m [(I, oI), (C, oC), (D, lst ys)] (Off3 I C D) (fun _ nw' => Inv (i + 1) ys nw') Value.none s') (fun _ _ => False) (St s h₁ tk₁))
    (fin : ∀ ys nw, Inv n ys nw → Fn ys nw) (g : Heap) : ∀ (k i : Nat) (ys : List Value) (nw : List (Addr × Obj)), k + i = n → Inv i ys nw → CompRestT prog w A h₀ L m env ct elt x scope cl { St s h tk with heap := g } S P Fn k i ys nw
  | 0, i, ys, nw, e, hi => by
    have e' : i = n := by omega
    subst e'
    exact fin ys nw hi
  | k + 1, i, ys, nw, e, hi => by
    refine CompRestT.succ ?_
    intro v I oI C oC D m₂ h₁ tk₁ E' hP hC hx F N off ne
    refine wpAny_mono (el i v I oI C oC D ys nw m₂ h₁ tk₁ (by omega) hP hi hC hx F N off ne) ?_ fun _ _ x => x.elim
    intro ok s' hs'
    cases ok with
    | true =>
      simp only [if_true] at hs' ⊢
      refine wpAny_mono hs' ?_ fun _ _ x => x.elim
      rintro y s₂ ⟨h', tk', nw', rfl, F', N', off', hI⟩
      exact ⟨h', tk', nw', rfl, F', N', off', hS _ _ _ hI, comp_restT S P Inv Fn hS el fin g k (i + 1) _ nw' (by omega) hI⟩
    | false =>
      simp only [Bool.false_eq_true, if_false] at hs' ⊢
      obtain ⟨h', tk', nw', rfl, F', N', off', hI⟩ := hs'
      exact ⟨h', tk', nw', rfl, F', N', off', hS _ _ _ hI, comp_restT S P Inv Fn hS el fin g k (i + 1) _ nw' (by omega) hI⟩
theorem src_rangeT {r : Addr} {b : Nat} {t u v : Tok} (Inv : Nat → List Value → List (Addr × Obj) → Prop) (hh : A.handled = none) (F : Fr h₀ L h m) (N : News h₀ L h news) (hm : (r, rngObj 0 b 1 t u v) ∈ news) (hb : b < 2 ^ 20)
    (h0 : Inv 0 [] news)
    (el : ∀ i t I oI C oC D ys nw m₂ h₁ tk₁, i < b → Inv i ys nw → NsObj oC m₂ → m₂ x = some (.int (i : Nat) t) → Fr h₀ L h₁ m → News h₀ L h₁ ((I, oI) :: (C, oC) :: (D, lst ys) :: nw) → Off3 I C D nw → (I ≠ C ∧ I ≠ D ∧ C ≠ D) →
      wpAny (model prog w) A (isTrue ct (compEnvC scope cl C env) (eval ct (compEnvC scope cl C env))) (fun ok s' => if ok = true then
        wpAny (model prog w) A (eval elt (compEnvC scope cl C env)) (ElEnd s h₀ L m [(I, oI), (C, oC), (D, lst ys)] (Off3 I C D) fun y nw' => Inv (i + 1) (ys ++ [y]) nw') (fun _ _ => False) s'
        else ElEnd s h₀ L m [(I, oI), (C, oC), (D, lst ys)] (Off3 I C D) (fun _ nw' => Inv (i + 1) ys nw') Value.none s') (fun _ _ => False) (St s h₁ tk₁))
    (fin : ∀ g ys nw, Inv b ys nw → Fin (St s g tk) ys nw) : CompSrcT prog w A h₀ L m env ct elt x scope cl Fin (.ref r) (St s h tk) := by
  have hn : Builtin.Range.rangeSize 0 b 1 = ((b : Nat) : Int) := by
    rw [rangeSize_one]; split <;> omega
  refine CompSrcT.range (s₁ := St s h tk) (n := b) hh F N (N _ hm).1 (small_rng b hb) hn (by rw [sizeLine_eq]; omega) fun g => ?_
  refine comp_restT (n := b) _ _ Inv _ (fun _ _ _ _ => trivial) ?_ (fun ys nw hi => fin g ys nw hi) g _ 0 [] news (by simp) h0
  rintro i v I oI C oC D ys nw m₂ h₁ tk₁ hi ⟨t, rfl⟩ hI hC hx
  exact el i t I oI C oC D ys nw m₂ h₁ tk₁ hi hI hC (by rw [hx]; simp)
variable {Q : Value → Shared → Prop} {pos : Pos} {v : Value} {c C : Addr} {o oC : Obj} {m₂ : Str → Option Value} {K : Frag} {y : Str}
theorem qce (N : News h₀ L h news) (hm : (C, oC) ∈ news) (hC : NsObj oC m₂) (hv : m₂ y = some v) (hq : Q v (St s h tk))
    (hk : scope.kind = .function := by rfl) (hx : (compEnvC scope cl C env).kindOf y = some .local := by rfl) (hd : (y == ("__debug__" : Str)) = false := by decide) :
    wpAny (model prog w) A (eval (.Name y pos) (compEnvC scope cl C env)) Q E (St s h tk) :=
  wpAny_Name (wpAny_loadName_local (s := St s h tk) (env := compEnvC scope cl C env) hk hx (hC.ns (N _ hm).1) hv hq) hd
theorem qceC (N : News h₀ L h news) (hc : cl.lookup y = some c) (hm : (c, o) ∈ news) (hd : o.data = .cell (some v)) (hq : Q v (St s h tk))
    (hk : scope.kind = .function := by rfl) (hx : (compEnvC scope cl C env).kindOf y = some .cell := by rfl) (hb : (y == ("__debug__" : Str)) = false := by decide) :
    wpAny (model prog w) A (eval (.Name y pos) (compEnvC scope cl C env)) Q E (St s h tk) :=
  wpAny_Name (wpAny_loadName_cell (s := St s h tk) (env := compEnvC scope cl C env) hk hx hc ⟨o, N.get hm, hd⟩ hq) hb
theorem qceB (Cc : Cx K A env L h₀) (F : Fr h₀ L h m) (e : nsIn K mainGlobals y = some none) (hv : bootBuiltins y = some v) (hn : y ≠ "__name__") (hq : Q v (St s h tk))
    (hg : env.globals = mainGlobals := by rfl) (hbn : env.builtins = builtinsNs := by rfl)
    (hk : scope.kind = .function := by rfl) (hx : (compEnvC scope cl C env).kindOf y = some .globalImplicit := by rfl) (hd : (y == ("__debug__" : Str)) = false := by decide) :
    wpAny (model prog w) A (eval (.Name y pos) (compEnvC scope cl C env)) Q E (St s h tk) := by
  obtain ⟨A₀, base, outer, p, loose, mean, mg, mb, B, T, hA⟩ := Cc.top
  refine Name_function_global hk hx (loadGlobal_builtin (s := St s h tk) (env := compEnvC scope cl C env) (mg := mg) (mb := mb) ?_ (mg_none_of Cc.X T.g e) ?_ ((T.builtins y hn).trans hv) hq) hd
  · show h.Ns env.globals mg
    rw [hg]; exact T.g.keeps F.keep
  · show h.Ns env.builtins mb
    rw [hbn]; exact T.b.keeps F.keep
theorem qceG (Cc : Cx K A env L h₀) (F : Fr h₀ L h m) (e : nsIn K mainGlobals y = some (some v)) (hq : Q v (St s h tk))
    (hg : env.globals = mainGlobals := by rfl)
    (hk : scope.kind = .function := by rfl) (hx : (compEnvC scope cl C env).kindOf y = some .globalImplicit := by rfl) (hd : (y == ("__debug__" : Str)) = false := by decide) :
    wpAny (model prog w) A (eval (.Name y pos) (compEnvC scope cl C env)) Q E (St s h tk) := by
  obtain ⟨A₀, base, outer, p, loose, mean, mg, mb, B, T, hA⟩ := Cc.top
  refine Name_function_global hk hx (loadGlobal_global (s := St s h tk) (env := compEnvC scope cl C env) (mg := mg) ?_ (mg_of Cc.X T.g e) hq) hd
  show h.Ns env.globals mg
  rw [hg]; exact T.g.keeps F.keep
theorem qitemO {value slice : PySem.Expr} {a : Addr} {lo : Obj} {l : List Value} {n : Nat} {k : Int} {u : Tok} {x : Value} (N : News h₀ L h news) (hm : (a, lo) ∈ news) (hl : lo = W.listOf l.toArray n) (h0 : 0 ≤ k) (h1 : k < l.length) (hz : l.length < 2 ^ 20) (hx : l[k.toNat]? = some x) (hq : Q x (St s h tk))
    (hs : subscripted slice false (.ref a) (.int k u) = operate [.ref a, .int k u] (getItem (.ref a) (.int k u)) := by with_unfolding_all rfl) (hg : ∀ r, letTemporaryGo value (.ref a) r = pure () := by intro _; with_unfolding_all rfl) :
    wpAny (model prog w) A (subscriptTail value slice (.ref a) (.int k u)) Q E (St s h tk) :=
  kim_list (s := St s h tk) N hm (by rw [hl]) (by rw [hl]) h0 (by omega) hx hq hs hg
theorem qlast {value slice : PySem.Expr} {a : Addr} {lo : Obj} {l : List Value} {n : Nat} {u : Tok} {x : Value} (N : News h₀ L h news) (hm : (a, lo) ∈ news) (hl : lo = W.listOf l.toArray n) (h1 : 0 < l.length) (hx : l[l.length - 1]? = some x) (hq : Q x (St s h tk))
    (hs : subscripted slice false (.ref a) (.int (-1) u) = operate [.ref a, .int (-1) u] (getItem (.ref a) (.int (-1) u)) := by with_unfolding_all rfl) (hg : ∀ r, letTemporaryGo value (.ref a) r = pure () := by intro _; with_unfolding_all rfl) :
    wpAny (model prog w) A (subscriptTail value slice (.ref a) (.int (-1) u)) Q E (St s h tk) :=
  kim_back (s := St s h tk) (l := l) (n := n) N hm (by rw [hl]) (by rw [hl]) (by decide) (by omega) (by decide) (by rw [show ((-1 : Int) + (l.length : Int)).toNat = l.length - 1 by omega]; exact hx) hq hs hg
theorem qrange2 {a b : Int} {t u : Tok} (F : Fr h₀ L h m) (N : News h₀ L h news) (hq : ∀ r h' tk' v, Fr h₀ L h' m → News h₀ L h' ((r, rngObj a b 1 t u v) :: news) → (∀ p ∈ news, p.1 < r) → Q (.ref r) (St s h' tk')) :
    wpAny (model prog w) A (call (.type "range") [.int a t, .int b u]) Q E (St s h tk) :=
  call_range_2 (s := St s h tk) (hq h.objs.size _ _ _ (F.push _) (N.push F _) fun p hp => Heap.lt_size (N p hp).1)
theorem qmax2 {a b : Int} {t u : Tok} (hh : A.handled = none) (F : Fr h₀ L h m) (N : News h₀ L h news) (hq : ∀ h' tk' t', Fr h₀ L h' m → News h₀ L h' news → Q (.int (if b > a then b else a) t') (St s h' tk')) :
    wpAny (model prog w) A (call (.builtin "max") [.int a t, .int b u]) Q E (St s h tk) :=
  max_two_N (s := St s h tk) hh F N fun h' tk' F' N' => hq h' tk' _ F' N'
theorem qmod {a b : Int} {t u : Tok} (hb : b ≠ 0) (hq : ∀ t tk', Q (.int (a.fmod b) t) (St s h tk')) : wpAny (model prog w) A (binaryOp .Mod (.int a t) (.int b u)) Q E (St s h tk) := mod_int hb (hq _ _)
theorem qmaxL {a : Addr} {oa : Obj} {vs : List Value} {ns : List Int} {n : Nat} (hh : A.handled = none) (F : Fr h₀ L h m) (N : News h₀ L h news) (ha : (a, oa) ∈ news) (ea : oa = W.listOf vs.toArray n) (hi : IntsAre vs ns) (hne : 0 < ns.length)
    (hq : ∀ h' M t tk', Fr h₀ L h' m → News h₀ L h' news → M ∈ ns → (∀ a ∈ ns, a ≤ M) → Q (.int M t) (St s h' tk')) : wpAny (model prog w) A (call (.builtin "max") [.ref a]) Q E (St s h tk) := by
  subst ea
  exact kso_max (s := St s h tk) F N (PySem.IsL.isList (n := n) (N _ ha).1) hi hne hh hq
theorem qlist {vs : List Value} (F : Fr h₀ L h m) (N : News h₀ L h news) (hz : vs.length ≤ 16384) (hq : ∀ D h', Fr h₀ L h' m → News h₀ L h' ((D, W.listOf vs.toArray 0) :: news) → (∀ p ∈ news, p.1 < D) → Q (.ref D) (St s h' tk)) :
    wpAny (model prog w) A (newList vs) Q E (St s h tk) :=
  newList_N (s := St s h tk) F N (fun h' F' N' => hq h.objs.size h' F' N' fun p hp => Heap.lt_size (N p hp).1) (by rw [sizeLine_eq]; omega)
theorem qcat {a b : Addr} {oa ob : Obj} {us vs : List Value} {n k : Nat} (F : Fr h₀ L h m) (N : News h₀ L h news) (ha : (a, oa) ∈ news) (hb : (b, ob) ∈ news) (ea : oa = W.listOf us.toArray n) (eb : ob = W.listOf vs.toArray k) (hz : us.length + vs.length ≤ 16384)
    (hq : ∀ D h', Fr h₀ L h' m → News h₀ L h' ((D, W.listOf (us ++ vs).toArray 0) :: news) → (∀ p ∈ news, p.1 < D) → Q (.ref D) (St s h' tk)) :
    wpAny (model prog w) A (binaryOp .Add (.ref a) (.ref b)) Q E (St s h tk) := by
  subst ea eb
  exact add_lists (s := St s h tk) F N (PySem.IsL.isList (n := n) (N _ ha).1) (PySem.IsL.isList (n := k) (N _ hb).1) (fun h' F' N' => hq h.objs.size h' F' N' fun p hp => Heap.lt_size (N p hp).1) (by rw [sizeLine_eq]; omega)
end
theorem ints_item {vs : List Value} {ns : List Int} (h : IntsAre vs ns) {i : Nat} {v : Value} (hv : vs[i]? = some v) : ∃ t, v = .int (ns.getD i 0) t ∧ i < ns.length := by
  have hi := (List.getElem?_eq_some_iff.mp hv).1
  rw [h.length] at hi
  obtain ⟨t, e⟩ := h.get i ns[i] (by simp [hi])
  rw [hv] at e
  refine ⟨t, ?_, hi⟩
  rw [Option.some.inj e]
  simp [hi]
theorem ints_at {vs : List Value} {ns : List Int} (h : IntsAre vs ns) {i : Nat} (hi : i < ns.length) : ∃ t, vs[i]? = some (.int (ns.getD i 0) t) := by
  obtain ⟨t, e⟩ := h.get i ns[i] (by simp [hi])
  exact ⟨t, by rw [e]; simp [hi]⟩
theorem ints_snoc {vs : List Value} {ns : List Int} (h : IntsAre vs ns) (i : Int) (t : Tok) : IntsAre (vs ++ [.int i t]) (ns ++ [i]) := h.append (.cons i t .nil)
theorem take_snoc (l : List Int) {i : Nat} (hi : i < l.length) : l.take (i + 1) = l.take i ++ [l.getD i 0] := by
  rw [List.take_add_one]; simp [hi]
end Mine
namespace Mine
open PySem.Calls
section
variable {prog : Program} {w : World} {A : Around} {E : Value → Shared → Prop} {s : Shared} {h : Heap} {tk : Nat} {K : Frag} {L : Addr} {h₀ : Heap} {m : Str → Option Value} {news : List (Addr × Obj)} {env : Env} {Q : Value → Shared → Prop}
/-- a for loop whose target is stored in any way -/
theorem qforA {x : Str} {px : Pos} {body : List Stmt} {I : Addr} {o : Obj} {Q : Flow → Shared → Prop} (cnt : Nat) (P : Nat → Obj → Prop) (V : Nat → Value → Prop) (J : Nat → (Str → Option Value) → List (Addr × Obj) → Prop)
    (F : Fr h₀ L h m) (N : News h₀ L h ((I, o) :: news)) (hn : ∀ p ∈ news, p.1 ≠ I) (hP : P 0 o) (hJ : J 0 m news)
    (nxt : ∀ i h₁ tk₁ o₁ news₁ m₁ (Q : Option Value → Shared → Prop), i < cnt → h₁.get? I = some o₁ → P i o₁ → News h₀ L h₁ news₁ → J i m₁ news₁ →
      (∀ v h' o' tk', V i v → h'.get? I = some o' → P (i + 1) o' → Heap.SameBut I h₁ h' → Q (some v) (St s h' tk')) → wpAny (model prog w) A (pyNext (.ref I)) Q (fun _ _ => False) (St s h₁ tk₁))
    (stp : ∀ h₁ tk₁ o₁ news₁ m₁ (Q : Option Value → Shared → Prop), h₁.get? I = some o₁ → P cnt o₁ → News h₀ L h₁ news₁ → J cnt m₁ news₁ →
      (∀ h' tk', Heap.ExtBut I h₁ h' → Q none (St s h' tk')) → wpAny (model prog w) A (pyNext (.ref I)) Q (fun _ _ => False) (St s h₁ tk₁))
    (turn : ∀ i v h₁ tk₁ m₁ news₁ o₁, i < cnt → V i v → J i m₁ news₁ → P (i + 1) o₁ → (∀ p ∈ news₁, p.1 ≠ I) → Fr h₀ L h₁ m₁ → News h₀ L h₁ ((I, o₁) :: news₁) →
      wpAny (model prog w) A (storeName env x v) (fun _ s₂ => wpAny (model prog w) A (execs body env) (FStep h₀ L I s (P (i + 1)) (J (i + 1)) Q) (fun _ _ => False) s₂) (fun _ _ => False) (St s h₁ tk₁))
    (done : ∀ h₁ tk₁ m₁ news₁, J cnt m₁ news₁ → Fr h₀ L h₁ m₁ → News h₀ L h₁ news₁ → Q .next (St s h₁ tk₁)) :
    codeAny (model prog w) A (.forLoop (.Name x px) (.ref I) body [] env) (fun r s' => match r with | .ok f => Q f s' | .error e => cameBackBy (model prog w) A env (fun _ _ => False) e s') (St s h tk) := by
  refine codeAny_forLoop (fun k s' => ∃ i h' tk' m₁ news₁ o₁, s' = St s h' tk' ∧ P i o₁ ∧ Fr h₀ L h' m₁ ∧ News h₀ L h' ((I, o₁) :: news₁) ∧ (∀ p ∈ news₁, p.1 ≠ I) ∧ J i m₁ news₁ ∧ i ≤ cnt ∧ k = cnt + 1 - i) ?_ (cnt + 1)
    ⟨0, h, tk, m, news, o, rfl, hP, F, N, hn, hJ, Nat.zero_le _, rfl⟩
  rintro k s' ⟨i, h₁, tk₁, m₁, news₁, o₁, rfl, hP₁, F₁, N₁, hn₁, hJ₁, hi, rfl⟩
  have nI := N₁ (I, o₁) (.head _)
  have Nr : News h₀ L h₁ news₁ := fun p hp => N₁ p (.tail _ hp)
  by_cases hlt : i < cnt
  · refine wpAny_mono (nxt i h₁ tk₁ o₁ news₁ m₁ (fun r s₁ => ∃ v h' o' tk', r = some v ∧ V i v ∧ h'.get? I = some o' ∧ P (i + 1) o' ∧ Heap.SameBut I h₁ h' ∧ s₁ = St s h' tk') hlt nI.1 hP₁ Nr hJ₁ fun v h' o' tk' a b c d => ⟨v, h', o', tk', rfl, a, b, c, d, rfl⟩) ?_ fun _ _ x => x.elim
    rintro r s₁ ⟨v, h', o', tk', rfl, hv, ho', hP', sb, rfl⟩
    have F' : Fr h₀ L h' m₁ := F₁.change sb nI.2.1 nI.2.2
    have N' : News h₀ L h' ((I, o') :: news₁) := fun p hp => by
      rcases List.mem_cons.mp hp with rfl | hp
      · exact ⟨ho', nI.2⟩
      · exact ⟨(sb.2 p.1 (hn₁ p hp)).trans (Nr p hp).1, (Nr p hp).2⟩
    refine wpAny_mono (E := fun _ _ => False) (wpAny_assign_Name (turn i v h' tk' m₁ news₁ o' hlt hv hJ₁ hP' hn₁ F' N')) ?_ fun _ _ x => x.elim
    intro _ s₂ hs₂
    refine wpAny_mono hs₂ ?_ fun _ _ x => x.elim
    intro f s₃ q
    cases f with
    | ret v => exact q
    | brk => exact q
    | next =>
      obtain ⟨h3, tk3, m3, news3, o3, rfl, p3, F3, N3, hn3, J3⟩ := q
      exact ⟨cnt + 1 - (i + 1), by omega, i + 1, h3, tk3, m3, news3, o3, rfl, p3, F3, N3, hn3, J3, by omega, rfl⟩
    | cont =>
      obtain ⟨h3, tk3, m3, news3, o3, rfl, p3, F3, N3, hn3, J3⟩ := q
      exact ⟨cnt + 1 - (i + 1), by omega, i + 1, h3, tk3, m3, news3, o3, rfl, p3, F3, N3, hn3, J3, by omega, rfl⟩
  · have hin : i = cnt := by omega
    subst hin
    refine wpAny_mono (stp h₁ tk₁ o₁ news₁ m₁ (fun r s₁ => ∃ h' tk', r = none ∧ Heap.ExtBut I h₁ h' ∧ s₁ = St s h' tk') nI.1 hP₁ Nr hJ₁ fun h' tk' a => ⟨h', tk', rfl, a, rfl⟩) ?_ fun _ _ x => x.elim
    rintro r s₁ ⟨h', tk', rfl, eb, rfl⟩
    refine wpAny_execs_nil (done h' tk' m₁ news₁ hJ₁ ?_ ?_)
    · obtain ⟨oL, a1, a2, hoL, a3⟩ := F₁.ns
      refine ⟨⟨oL, a1, a2, eb L oL nI.2.1.symm hoL, a3⟩, fun b x e => eb b x ?_ (F₁.keep b x e), F₁.above⟩
      rintro rfl
      rw [nI.2.2] at e
      cases e
    · exact fun p hp => ⟨eb p.1 p.2 (hn₁ p hp) (Nr p hp).1, (Nr p hp).2⟩
def litP (l : Addr) (i : Nat) (o : Obj) : Prop := o.cls = .type "list_iterator" ∧ o.data = .fields #[.ref l, .int i 0]
/-- a for loop over a list of the ledger -/
theorem qfor_list {x : Str} {px : Pos} {body : List Stmt} {l : Addr} {vs : List Value} {n : Nat} {Q : Flow → Shared → Prop} (J : Nat → (Str → Option Value) → List (Addr × Obj) → Prop) (hh : A.handled = none)
    (F : Fr h₀ L h m) (N : News h₀ L h news) (hJ : J 0 m news) (hm : ∀ i m₁ nw, J i m₁ nw → (l, W.listOf vs.toArray n) ∈ nw)
    (turn : ∀ i v I h₁ tk₁ m₁ news₁ o₁, vs[i]? = some v → J i m₁ news₁ → litP l (i + 1) o₁ → (∀ p ∈ news₁, p.1 ≠ I) → Fr h₀ L h₁ m₁ → News h₀ L h₁ ((I, o₁) :: news₁) →
      wpAny (model prog w) A (storeName env x v) (fun _ s₂ => wpAny (model prog w) A (execs body env) (FStep h₀ L I s (litP l (i + 1)) (J (i + 1)) Q) (fun _ _ => False) s₂) (fun _ _ => False) (St s h₁ tk₁))
    (done : ∀ h₁ tk₁ m₁ news₁, J vs.length m₁ news₁ → Fr h₀ L h₁ m₁ → News h₀ L h₁ news₁ → Q .next (St s h₁ tk₁)) :
    wpAny (model prog w) A (pyIter (.ref l)) (fun it s₂ => codeAny (model prog w) A (.forLoop (.Name x px) it body [] env) (fun r s' => match r with | .ok f => Q f s' | .error e => cameBackBy (model prog w) A env (fun _ _ => False) e s') s₂) E (St s h tk) := by
  refine wpAny_pyIter_list (s := St s h tk) (PySem.IsL.isList (n := n) (N _ (hm 0 m news hJ)).1) ?_
  refine qforA (h := h.push { cls := .type "list_iterator", data := .fields #[.ref l, .int 0 0] }) (tk := tk) vs.length (litP l) (fun i v => vs[i]? = some v) J (F.push _) (N.push F _) (fun p hp => Nat.ne_of_lt (Heap.lt_size (N p hp).1)) ⟨rfl, rfl⟩ hJ ?_ ?_ (fun i v h₁ tk₁ m₁ news₁ o₁ hi hv => turn i v _ h₁ tk₁ m₁ news₁ o₁ hv) done
  · rintro i h₁ tk₁ o₁ news₁ m₁ Q hi ho ⟨hc, hd⟩ N₁ hJ₁ hQ
    refine wpAny_pyNext_list_item (s := St s h₁ tk₁) (i := i) (items := vs.toArray) (x := vs[i]) ⟨o₁, ho, hc, hd⟩ (PySem.IsL.isList (n := n) (N₁ _ (hm i m₁ news₁ hJ₁)).1) (by simp [hi]) fun h' hit' hs' => ?_
    obtain ⟨o', ho', hc', hd'⟩ := hit'
    exact hQ _ h' o' _ (by simp [hi]) ho' ⟨hc', hd'⟩ hs'
  · rintro h₁ tk₁ o₁ news₁ m₁ Q ho ⟨hc, hd⟩ N₁ hJ₁ hQ
    exact wpAny_pyNext_list_end (s := St s h₁ tk₁) (items := vs.toArray) hh ⟨o₁, ho, hc, hd⟩ (PySem.IsL.isList (n := n) (N₁ _ (hm _ m₁ news₁ hJ₁)).1) (by simp) fun h' he' => hQ h' _ he'

/-! frames with cells -/
theorem enterC {name qual : Str} {params : Arguments} {body : List Stmt} {scope : Scope} {dV kV doc pm cdv ct oc : Value} {an od : Option Addr} {osl : Array (Option Value)} {f : Addr} {vals : List Value} {binds : List (Str × Value)}
    (C : Cx K A env L h₀) (F : Fr h₀ L h m) (N : News h₀ L h news)
    (ho : K.lookup f = some ⟨oc, od, .func (fnOf name qual params body scope dV kV doc pm an cdv ct), osl⟩) (hcd : codeIn K cdv qual = true) (hroom : A.depth < recursionLimit)
    (hbind : BindsTo (St s h tk) (fnOf name qual params body scope dV kV doc pm an cdv ct) ⟨vals, []⟩ binds) (hkind : (binds.all fun y => scope.names.lookup y.1 == some .local || scope.names.lookup y.1 == some .cell) = true)
    (hnd : ((cellsFrom 0 scope.names []).map (·.1)).Nodup)
    (hb : ∀ g L' h₁ tk' cells m', Cx K (A.deeper (envX qual scope L' f cdv (cellsFrom (L' + 1) scope.names []))) (envX qual scope L' f cdv (cellsFrom (L' + 1) scope.names [])) L' g → Fr g L' h₁ m' → News g L' h₁ (cells ++ news) → (∀ p ∈ news, p.1 < L') →
      (∀ y, m' y = bindL (envX qual scope L' f cdv (cellsFrom (L' + 1) scope.names [])).kindOf binds (fun _ => none) y) →
      CellsAre (bindC (envX qual scope L' f cdv (cellsFrom (L' + 1) scope.names [])).kindOf binds fun _ => none) (cellsFrom (L' + 1) scope.names []) cells →
      wpAny (model prog w) (A.deeper (envX qual scope L' f cdv (cellsFrom (L' + 1) scope.names []))) (execs body (envX qual scope L' f cdv (cellsFrom (L' + 1) scope.names [])))
        (fun fl s' => Back s h₀ L m g Q (flowVal fl) s') (fun _ _ => False) (St s h₁ tk'))
    (hco : scope.isCoroutine = false) (hgen : scope.isGenerator = false) (hk : scope.kind = .function) : wpAny (model prog w) A (call (.ref f) vals) Q E (St s h tk) := by
  obtain ⟨A₀, base, outer, p, loose, mean, mg, mb, B, T, hA⟩ := C.top
  refine wpAny_call (code_defC (s := St s h tk) B F C.X N T hA C.hf C.hke ho hcd hroom hbind hkind hnd ?_ hco hgen hk)
  intro g L' h₁ tk' cells FG F' N' Y' B' X' T' hlt
  refine wpAny_mono (hb g L' h₁ tk' cells _ ⟨⟨A, base, env :: outer, p, loose, mean, mg, mb, B', T', ?_⟩, X', rfl, hk, C.hh⟩ F' N' hlt (fun _ => rfl) Y') ?_ (fun _ _ x => x.elim)
  · show A.frames.map _ = _
    rw [hA]; rfl
  · rintro fl s' ⟨h2, t2, L2, m2, n2, rfl, a, b, c⟩
    refine ⟨L2, m2, n2, a, b, fun x y => ?_⟩
    have := c x y
    cases fl <;> exact this
variable {a : Addr} {cn : Str} {cs : Scope} {ccd : Value} {cl : List (Str × Addr)} {x : Str} {pos : Pos} {v : Value} {c : Addr} {o : Obj}
theorem Cx.globX (C : Cx K A (envX cn cs L a ccd cl) L h₀) (F : Fr h₀ L h m) (e : nsIn K mainGlobals x = some (some v)) (hq : Q v (St s h tk))
    (hk : cs.kind = .function := by rfl) (hx : (envX cn cs L a ccd cl).kindOf x = some .globalImplicit := by rfl) (hd : (x == ("__debug__" : Str)) = false := by decide) :
    wpAny (model prog w) A (eval (.Name x pos) (envX cn cs L a ccd cl)) Q E (St s h tk) := by
  obtain ⟨A₀, base, outer, p, loose, mean, mg, mb, B, T, hA⟩ := C.top
  exact nameX_K (s := St s h tk) F C.X (topRead_of T) e hq hk hx hd
theorem Cx.bltX (C : Cx K A (envX cn cs L a ccd cl) L h₀) (F : Fr h₀ L h m) (e : nsIn K mainGlobals x = some none) (hv : bootBuiltins x = some v) (hn : x ≠ "__name__") (hq : Q v (St s h tk))
    (hk : cs.kind = .function := by rfl) (hx : (envX cn cs L a ccd cl).kindOf x = some .globalImplicit := by rfl) (hd : (x == ("__debug__" : Str)) = false := by decide) :
    wpAny (model prog w) A (eval (.Name x pos) (envX cn cs L a ccd cl)) Q E (St s h tk) := by
  obtain ⟨A₀, base, outer, p, loose, mean, mg, mb, B, T, hA⟩ := C.top
  exact nameX_B (s := St s h tk) F C.X (topRead_of T) e hv hn hq hk hx hd
theorem qldX (F : Fr h₀ L h m) (hv : m x = some v) (hq : Q v (St s h tk))
    (hk : cs.kind = .function := by rfl) (hx : (envX cn cs L a ccd cl).kindOf x = some .local := by rfl) (hd : (x == ("__debug__" : Str)) = false := by decide) :
    wpAny (model prog w) A (eval (.Name x pos) (envX cn cs L a ccd cl)) Q E (St s h tk) := nameX_L (s := St s h tk) F hv hq hk hx hd
theorem qldC (N : News h₀ L h news) (hc : cl.lookup x = some c) (hm : (c, o) ∈ news) (hd : o.data = .cell (some v)) (hq : Q v (St s h tk))
    (hk : cs.kind = .function := by rfl) (hx : (envX cn cs L a ccd cl).kindOf x = some .cell := by rfl) (hb : (x == ("__debug__" : Str)) = false := by decide) :
    wpAny (model prog w) A (eval (.Name x pos) (envX cn cs L a ccd cl)) Q E (St s h tk) := nameX_C (s := St s h tk) N hc hm hd hq hk hx hb
theorem qstX {Q : Unit → Shared → Prop} (F : Fr h₀ L h m) (N : News h₀ L h news)
    (hq : ∀ h' m' tk', Fr h₀ L h' m' → News h₀ L h' news → m' x = some v → (∀ y, (y == x) = false → m' y = m y) → Q () (St s h' tk'))
    (hk : cs.kind = .function := by rfl) (hx : (envX cn cs L a ccd cl).kindOf x = some .local := by rfl) : wpAny (model prog w) A (storeName (envX cn cs L a ccd cl) x v) Q E (St s h tk) :=
  storeX_L (s := St s h tk) F N (fun h' F' N' => hq h' _ _ F' N' (if_pos rfl) fun y hy => if_neg (by simpa using hy)) hk hx
theorem qstC {Q : Unit → Shared → Prop} {v₀ : Option Value} (F : Fr h₀ L h m) (N : News h₀ L h news) (hc : cl.lookup x = some c) (hm : (c, o) ∈ news) (hd : o.data = .cell v₀)
    (hq : ∀ h' o', Fr h₀ L h' m → o'.data = .cell (some v) → (∀ nw, (∀ p ∈ nw, p ∈ news ∧ p.1 ≠ c) → News h₀ L h' ((c, o') :: nw)) → Q () (St s h' tk))
    (hk : cs.kind = .function := by rfl) (hx : (envX cn cs L a ccd cl).kindOf x = some .cell := by rfl) : wpAny (model prog w) A (storeName (envX cn cs L a ccd cl) x v) Q E (St s h tk) := by
  have hmem := N (c, o) hm
  refine wpAny_storeName_cell (s := St s h tk) hk hx hc ⟨o, hmem.1, hd⟩ fun h' hv hs => ?_
  obtain ⟨o', ho', hd'⟩ := hv
  refine hq h' o' (F.change hs hmem.2.1 hmem.2.2) hd' fun nw hnw p hp => ?_
  rcases List.mem_cons.mp hp with rfl | hp
  · exact ⟨ho', hmem.2⟩
  · have z := N p (hnw p hp).1
    exact ⟨(hs.2 p.1 (hnw p hp).2).trans z.1, z.2⟩
end
end Mine
namespace Mine
open PySem.Calls
noncomputable abbrev KK (w : World) : Frag := Mine.hd.heap_39 w.params
section
variable {prog : Program} {w : World} {A : Around} {E : Value → Shared → Prop} {s : Shared} {h : Heap} {tk : Nat} {L l : Addr} {h₀ : Heap} {m : Str → Option Value} {env : Env} {Q : Value → Shared → Prop} {vs : List Value} {rest : List (Addr × Obj)} {n : Nat} {U : Value → Prop} {lt : Value → Value → Bool} {u : Nat}
theorem half_nat (q : Nat) (h : 0 < q) : ((q : Int) - 1).fdiv (2 ^ (1 : Int).toNat) = (((q - 1) / 2 : Nat) : Int) := by
  show ((q : Int) - 1).fdiv 2 = _
  rw [Int.fdiv_eq_ediv_of_nonneg _ (by decide)]
  omega
theorem sd_call {st p : Nat} {t1 t2 : Tok} (C : Cx (KK w) A env L h₀) (F : Fr h₀ L h m) (N : News h₀ L h ((l, W.listOf vs.toArray n) :: rest)) (hr : ∀ p ∈ rest, p.1 ≠ l) (hroom : A.depth < recursionLimit) (hu : A.units + 3 ≤ u)
    (hp : p < vs.length) (hsz : vs.length < 2 ^ 14) (hU : ∀ v ∈ vs, U v) (cmp : CmpOk prog w u rest U lt)
    (hq : ∀ h' tk', Fr h₀ L h' m → News h₀ L h' ((l, W.listOf (siftdown lt st p vs).toArray n) :: rest) → Q .none (St s h' tk')) :
    wpAny (model prog w) A (call (.ref 35) [.ref l, .int st t1, .int p t2]) Q E (St s h tk) := by
  refine enter (binds := [("heap", .ref l), ("startpos", .int st t1), ("pos", .int p t2)]) C F N rfl rfl hroom (BindsTo.of_eq rfl) (locs rfl) ?_ rfl rfl rfl (by decide)
  intro g L' h₁ tk1 m' C' F' N' hm
  have x1 : m' "heap" = some (.ref l) := (hm _).trans rfl
  have x2 : m' "startpos" = some (.int st t1) := (hm _).trans rfl
  have x3 : m' "pos" = some (.int p t2) := (hm _).trans rfl
  clear hm
  obtain ⟨x, hx⟩ : ∃ x, vs[p]? = some x := ⟨vs[p], by simp [hp]⟩
  have hsd : siftdown lt st p vs = sdLoop lt x st p vs := by unfold siftdown; rw [hx]
  rw [hsd] at hq
  refine wpAny_execs_cons (wpAny_Assign_Name (Subscript_ (qld F' x1 (qld F' x3 (qitem N' (.head _) (by omega) (by omega) (by omega) (by rw [Int.toNat_natCast]; exact hx) (qst F' N' ?_))))))
  intro h2 m2 tk2 F2 N2 y1 y2
  refine wpAny_execs_cons (wpAny_mono (qwhile (Q := fun fl s2 => fl = .next ∧ ∃ (h' : Heap) (tk' : Nat) (m₁ : Str → Option Value) (vs' : List Value) (k : Nat) (tq : Tok), s2 = St s h' tk' ∧ Fr g L' h' m₁ ∧ News g L' h' ((l, W.listOf vs'.toArray n) :: rest) ∧
      m₁ "heap" = some (.ref l) ∧ m₁ "pos" = some (.int k tq) ∧ m₁ "newitem" = some x ∧ vs'.length = vs.length ∧ k < vs.length ∧ vs'.set k x = sdLoop lt x st p vs)
    (fun k m₁ nw => ∃ (vs' : List Value) (q : Nat) (tq : Tok), k = q ∧ nw = (l, W.listOf vs'.toArray n) :: rest ∧ m₁ "heap" = some (.ref l) ∧ m₁ "startpos" = some (.int st t1) ∧ m₁ "pos" = some (.int q tq) ∧ m₁ "newitem" = some x ∧
      vs'.length = vs.length ∧ q < vs.length ∧ (∀ v ∈ vs', U v) ∧ sdLoop lt x st q vs' = sdLoop lt x st p vs) p F2 N2 ?_ ?_) ?_ fun _ _ x => x)
  · exact ⟨vs, p, t2, rfl, rfl, (y2 _ rfl).trans x1, (y2 _ rfl).trans x2, (y2 _ rfl).trans x3, y1, rfl, hp, hU, rfl⟩
  · rintro k m3 nw h3 tk3 F3 N3 ⟨vs', q, tq, rfl, rfl, z1, z2, z3, z4, hlen, hq', hU', hinv⟩
    rw [sdLoop] at hinv
    refine wpAny_isTrue_Compare1 (qld F3 z3 (qld F3 z2 (gt_int (wpAny_truthy_bool ?_))))
    by_cases hgt : st < k
    · rw [if_pos (by simpa using hgt)]
      rw [dif_pos hgt] at hinv
      refine wpAny_execs_cons (wpAny_Assign_Name (wpAny_BinOp (wpAny_BinOp (qld F3 z3 (qint fun _ _ => (qsub fun _ _ => (qint fun _ _ => (qshr (by decide) fun _ _ => ?_))))))))
      rw [half_nat k (by omega)]
      refine qst F3 N3 ?_
      intro h4 m4 tk4 F4 N4 a1 a2
      have hh : (k - 1) / 2 < vs'.length := by omega
      obtain ⟨par, hpar⟩ : ∃ par, vs'[(k - 1) / 2]? = some par := ⟨vs'[(k - 1) / 2], by simp [hh]⟩
      simp only [hpar] at hinv
      refine wpAny_execs_cons (wpAny_Assign_Name (Subscript_ (qld F4 ((a2 _ rfl).trans z1) (qld F4 a1 (qitem N4 (.head _) (by omega) (by omega) (by omega) (by rw [Int.toNat_natCast]; exact hpar) (qst F4 N4 ?_))))))
      intro h5 m5 tk5 F5 N5 b1 b2
      refine wpAny_execs_cons (wpAny_If (wpAny_isTrue_Compare1 (qld F5 ((b2 _ rfl).trans ((a2 _ rfl).trans z4)) (qld F5 b1 (cmp x par ?_ ?_ _ _ _ _ _ _ ?_ ?_ (wpAny_truthy_bool ?_))))))
      · exact hU x (List.mem_of_getElem? hx)
      · exact hU' par (List.mem_of_getElem? hpar)
      · exact hu
      · exact fun p hp => (N5 p (.tail _ hp)).1
      cases hc : lt x par with
      | true =>
        rw [if_pos rfl]
        rw [hc, if_pos rfl] at hinv
        refine wpAny_execs_cons (wpAny_Assign_Subscript (qld F5 b1 (qld F5 ((b2 _ rfl).trans ((a2 _ rfl).trans z1)) (qld F5 ((b2 _ rfl).trans ((a2 _ rfl).trans z3)) (qset F5 N5 hr (by omega) (by omega) (by omega) ?_)))))
        intro h6 F6 N6
        refine wpAny_execs_cons (wpAny_Assign_Name (qld F6 ((b2 _ rfl).trans a1) (qst F6 N6 ?_)))
        intro h7 m7 tk7 F7 N7 c1 c2
        refine wpAny_execs_cons (wpAny_Continue ?_)
        refine ⟨h7, tk7, m7, _, (k - 1) / 2, rfl, F7, N7, by omega, vs'.set k par, (k - 1) / 2, _, rfl, by simp, ?_, ?_, c1, ?_, ?_, ?_, ?_, hinv⟩
        · exact (c2 _ rfl).trans ((b2 _ rfl).trans ((a2 _ rfl).trans z1))
        · exact (c2 _ rfl).trans ((b2 _ rfl).trans ((a2 _ rfl).trans z2))
        · exact (c2 _ rfl).trans ((b2 _ rfl).trans ((a2 _ rfl).trans z4))
        · simpa using hlen
        · omega
        · intro v hv
          rcases List.mem_or_eq_of_mem_set hv with hv | rfl
          · exact hU' v hv
          · exact hU' _ (List.mem_of_getElem? hpar)
      | false =>
        rw [if_neg (by simp)]
        rw [hc, if_neg (by simp)] at hinv
        refine wpAny_execs_nil ?_
        refine wpAny_execs_cons (wpAny_Break ?_)
        exact ⟨rfl, h5, tk5, m5, vs', k, tq, rfl, F5, N5, (b2 _ rfl).trans ((a2 _ rfl).trans z1), (b2 _ rfl).trans ((a2 _ rfl).trans z3), (b2 _ rfl).trans ((a2 _ rfl).trans z4), hlen, hq', hinv⟩
    · rw [if_neg (by simpa using hgt)]
      rw [dif_neg hgt] at hinv
      exact ⟨rfl, h3, tk3, m3, vs', k, tq, rfl, F3, N3, z1, z3, z4, hlen, hq', hinv⟩
  · rintro fl s2 ⟨rfl, h8, tk8, m8, vs', k, tq, rfl, F8, N8, d1, d2, d3, hlen, hk, hfin⟩
    refine wpAny_execs_cons (wpAny_Assign_Subscript (qld F8 d3 (qld F8 d1 (qld F8 d2 (qset F8 N8 hr (by omega) (by omega) (by omega) ?_)))))
    intro h9 F9 N9
    refine wpAny_execs_nil ⟨_, _, _, _, _, rfl, F9, N9, fun Fh Nh => ?_⟩
    simp only [Int.toNat_natCast] at Nh
    rw [hfin] at Nh
    exact hq h9 tk8 Fh Nh
set_option maxHeartbeats 1000000 in
theorem su_call {p : Nat} {t1 : Tok} (C : Cx (KK w) A env L h₀) (F : Fr h₀ L h m) (N : News h₀ L h ((l, W.listOf vs.toArray n) :: rest)) (hr : ∀ p ∈ rest, p.1 ≠ l) (hroom : A.depth + 1 < recursionLimit) (hu : A.units + 6 ≤ u)
    (hp : p < vs.length) (hsz : vs.length < 2 ^ 14) (hU : ∀ v ∈ vs, U v) (cmp : CmpOk prog w u rest U lt)
    (hq : ∀ h' tk', Fr h₀ L h' m → News h₀ L h' ((l, W.listOf (siftup lt p vs).toArray n) :: rest) → Q .none (St s h' tk')) :
    wpAny (model prog w) A (call (.ref 42) [.ref l, .int p t1]) Q E (St s h tk) := by
  refine enter (binds := [("heap", .ref l), ("pos", .int p t1)]) C F N rfl rfl (by omega) (BindsTo.of_eq rfl) (locs rfl) ?_ rfl rfl rfl (by decide)
  intro g L' h₁ tk1 m' C' F' N' hm
  have x1 : m' "heap" = some (.ref l) := (hm _).trans rfl
  have x3 : m' "pos" = some (.int p t1) := (hm _).trans rfl
  clear hm
  obtain ⟨x, hx⟩ : ∃ x, vs[p]? = some x := ⟨vs[p], by simp [hp]⟩
  have hsd : siftup lt p vs = siftdown lt p (suLoop lt p vs).1 ((suLoop lt p vs).2.set (suLoop lt p vs).1 x) := by unfold siftup; rw [hx]
  rw [hsd] at hq
  refine wpAny_execs_cons (wpAny_Assign_Name (Call_ (C'.blt F' rfl boot_len (by decide) (callWith_builtin1 (args_cons (qld F' x1 (args_nil (qlen N' (.head _) (by omega) fun te _ => (qst F' N' ?_)))))))))
  intro h2 m2 tk2 F2 N2 e1 e2
  refine wpAny_execs_cons (wpAny_Assign_Name (qld F2 ((e2 _ rfl).trans x3) (qst F2 N2 ?_)))
  intro h3 m3 tk3 F3 N3 f1 f2
  refine wpAny_execs_cons (wpAny_Assign_Name (Subscript_ (qld F3 ((f2 _ rfl).trans ((e2 _ rfl).trans x1)) (qld F3 ((f2 _ rfl).trans ((e2 _ rfl).trans x3)) (qitem N3 (.head _) (by omega) (by omega) (by omega) (by rw [Int.toNat_natCast]; exact hx) (qst F3 N3 ?_))))))
  intro h4 m4 tk4 F4 N4 g1 g2
  refine wpAny_execs_cons (wpAny_Assign_Name (wpAny_BinOp (wpAny_BinOp (qint fun _ _ => (qld F4 ((g2 _ rfl).trans ((f2 _ rfl).trans ((e2 _ rfl).trans x3))) (qmul (IntMulOk.of_left (by decide)) fun _ _ => (qint fun _ _ => (qadd fun _ _ => (qst F4 N4 ?_)))))))))
  intro h5 m5 tk5 F5 N5 i1 i2
  refine wpAny_execs_cons (wpAny_mono (qwhile (Q := fun fl s2 => fl = .next ∧ ∃ (h' : Heap) (tk' : Nat) (m₁ : Str → Option Value) (tq : Tok), s2 = St s h' tk' ∧ Fr g L' h' m₁ ∧ News g L' h' ((l, W.listOf (suLoop lt p vs).2.toArray n) :: rest) ∧
      m₁ "heap" = some (.ref l) ∧ m₁ "startpos" = some (.int p t1) ∧ m₁ "pos" = some (.int ((suLoop lt p vs).1 : Nat) tq) ∧ m₁ "newitem" = some x ∧ (suLoop lt p vs).2.length = vs.length ∧ (suLoop lt p vs).1 < vs.length ∧ (∀ v ∈ (suLoop lt p vs).2, U v))
    (fun k m₁ nw => ∃ (vs' : List Value) (q : Nat) (tq tc te : Tok), k = vs.length - q ∧ nw = (l, W.listOf vs'.toArray n) :: rest ∧ m₁ "heap" = some (.ref l) ∧ m₁ "startpos" = some (.int p t1) ∧ m₁ "pos" = some (.int q tq) ∧ m₁ "newitem" = some x ∧
      m₁ "endpos" = some (.int vs.length te) ∧ m₁ "childpos" = some (.int ((2 * q + 1 : Nat) : Int) tc) ∧ vs'.length = vs.length ∧ q < vs.length ∧ (∀ v ∈ vs', U v) ∧ suLoop lt q vs' = suLoop lt p vs) (vs.length - p) F5 N5 ?_ ?_) ?_ fun _ _ x => x)
  · exact ⟨vs, p, _, _, _, rfl, rfl, (i2 _ rfl).trans ((g2 _ rfl).trans ((f2 _ rfl).trans ((e2 _ rfl).trans x1))), (i2 _ rfl).trans ((g2 _ rfl).trans f1), (i2 _ rfl).trans ((g2 _ rfl).trans ((f2 _ rfl).trans ((e2 _ rfl).trans x3))), (i2 _ rfl).trans g1,
      (i2 _ rfl).trans ((g2 _ rfl).trans ((f2 _ rfl).trans e1)), i1, rfl, hp, hU, rfl⟩
  · rintro k m6 nw h6 tk6 F6 N6 ⟨vs', q, tq, tc, te, rfl, rfl, z1, z2, z3, z4, z5, z6, hlen, hq', hU', hinv⟩
    rw [suLoop] at hinv
    refine wpAny_isTrue_Compare1 (qld F6 z6 (qld F6 z5 (lt_int (wpAny_truthy_bool ?_))))
    by_cases hgt : 2 * q + 1 < vs.length
    · rw [if_pos (by simp; omega)]
      rw [dif_pos (by omega)] at hinv
      refine wpAny_execs_cons (wpAny_Assign_Name (wpAny_BinOp (qld F6 z6 (qint fun _ _ => (qadd fun _ _ => (qst F6 N6 ?_))))))
      intro h7 m7 tk7 F7 N7 a1 a2
      have hlt : 2 * q + 1 < vs'.length := by omega
      obtain ⟨lc, hlc⟩ : ∃ a, vs'[2 * q + 1]? = some a := ⟨vs'[2 * q + 1], by simp [hlt]⟩
      refine wpAny_execs_cons (wpAny_mono (Q := fun fl s2 => fl = .next ∧ ∃ (h' : Heap) (tk' : Nat) (m₁ : Str → Option Value) (tq : Tok), s2 = St s h' tk' ∧ Fr g L' h' m₁ ∧ News g L' h' ((l, W.listOf vs'.toArray n) :: rest) ∧ (∀ y, (y == Str.ofString "childpos") = false → m₁ y = m7 y) ∧ m₁ "childpos" = some (.int (chd lt q vs' : Nat) tq)) (wpAny_If ?_) ?_ fun _ _ x => x)
      · refine isTrue_and (wpAny_isTrue_Compare1 (qld F7 a1 (qld F7 ((a2 _ rfl).trans z5) (lt_int (wpAny_truthy_bool ?_)))))
        by_cases hrt : 2 * q + 2 < vs.length
        · rw [if_pos (by simp; omega)]
          have hrt' : 2 * q + 2 < vs'.length := by omega
          obtain ⟨rc, hrc⟩ : ∃ a, vs'[2 * q + 2]? = some a := ⟨vs'[2 * q + 2], by simp [hrt']⟩
          have hchd : chd lt q vs' = if lt lc rc then 2 * q + 1 else 2 * q + 2 := by unfold chd; rw [hlc, hrc]
          refine isTrue_and (isTrue_not (wpAny_isTrue_Compare1 (Subscript_ (qld F7 ((a2 _ rfl).trans z1) (qld F7 ((a2 _ rfl).trans z6) (qitem N7 (.head _) (by omega) (by omega) (by omega) (by rw [Int.toNat_natCast]; exact hlc) ?_))))))
          refine Subscript_ (qld F7 ((a2 _ rfl).trans z1) (qld F7 a1 (qitem N7 (.head _) (by omega) (by omega) (by omega) (show vs'[((2 * q + 1 : Nat) + 1 : Int).toNat]? = some rc from hrc) (cmp lc rc ?_ ?_ _ _ _ _ _ _ ?_ ?_ (wpAny_truthy_bool ?_)))))
          · exact hU' _ (List.mem_of_getElem? hlc)
          · exact hU' _ (List.mem_of_getElem? hrc)
          · show A.units + 3 ≤ u
            omega
          · exact fun p hp => (N7 p (.tail _ hp)).1
          cases hc : lt lc rc with
          | true =>
            rw [hc, if_pos rfl] at hchd
            rw [if_neg (by simp), if_neg (by simp)]
            exact wpAny_execs_nil ⟨rfl, h7, _, m7, tc, rfl, F7, N7, fun _ _ => rfl, by rw [hchd]; exact (a2 _ rfl).trans z6⟩
          | false =>
            rw [hc, if_neg (by simp)] at hchd
            rw [if_pos (by simp)]
            refine isTrue_and_nil ?_
            rw [if_pos rfl]
            refine wpAny_execs_cons (wpAny_Assign_Name (qld F7 a1 (qst F7 N7 ?_)))
            intro h8 m8 tk8 F8 N8 b1 b2
            exact wpAny_execs_nil ⟨rfl, h8, _, m8, _, rfl, F8, N8, b2, by rw [hchd]; exact b1⟩
        · rw [if_neg (by simp; omega)]
          rw [if_neg (by simp)]
          have hchd : chd lt q vs' = 2 * q + 1 := by unfold chd; rw [List.getElem?_eq_none (by omega : vs'.length ≤ 2 * q + 2)]; cases vs'[2 * q + 1]? <;> rfl
          exact wpAny_execs_nil ⟨rfl, h7, _, m7, tc, rfl, F7, N7, fun _ _ => rfl, by rw [hchd]; exact (a2 _ rfl).trans z6⟩
      · rintro fl s2 ⟨rfl, h8, tk8, m8, tq8, rfl, F8, N8, b2, b1⟩
        have hcb : chd lt q vs' < vs'.length := by
          unfold chd
          split
          · rename_i p1 p2
            split
            · omega
            · exact (List.getElem?_eq_some_iff.mp p2).1
          · omega
        obtain ⟨cv, hcv⟩ : ∃ a, vs'[chd lt q vs']? = some a := ⟨vs'[chd lt q vs'], by simp [hcb]⟩
        simp only [hcv] at hinv
        refine wpAny_execs_cons (wpAny_Assign_Subscript (Subscript_ (qld F8 ((b2 _ rfl).trans ((a2 _ rfl).trans z1)) (qld F8 b1 (qitem N8 (.head _) (by omega) (by omega) (by omega) (by rw [Int.toNat_natCast]; exact hcv) ?_)))))
        refine qld F8 ((b2 _ rfl).trans ((a2 _ rfl).trans z1)) (qld F8 ((b2 _ rfl).trans ((a2 _ rfl).trans z3)) (qset F8 N8 hr (by omega) (by omega) (by omega) ?_))
        intro h9 F9 N9
        refine wpAny_execs_cons (wpAny_Assign_Name (qld F9 b1 (qst F9 N9 ?_)))
        intro h10 m10 tk10 F10 N10 c1 c2
        refine wpAny_execs_cons (wpAny_Assign_Name (wpAny_BinOp (wpAny_BinOp (qint fun _ _ => (qld F10 c1 (qmul (IntMulOk.of_left (by decide)) fun _ _ => (qint fun _ _ => (qadd fun _ _ => (qst F10 N10 ?_)))))))))
        intro h11 m11 tk11 F11 N11 d1 d2
        have hcg := chd_ge lt q vs'
        refine wpAny_execs_nil ⟨h11, tk11, m11, _, vs.length - chd lt q vs', rfl, F11, N11, by omega, vs'.set q cv, chd lt q vs', _, _, te, rfl, by simp, ?_, ?_, (d2 _ rfl).trans c1, ?_, ?_, d1, ?_, ?_, ?_, hinv⟩
        · exact (d2 _ rfl).trans ((c2 _ rfl).trans ((b2 _ rfl).trans ((a2 _ rfl).trans z1)))
        · exact (d2 _ rfl).trans ((c2 _ rfl).trans ((b2 _ rfl).trans ((a2 _ rfl).trans z2)))
        · exact (d2 _ rfl).trans ((c2 _ rfl).trans ((b2 _ rfl).trans ((a2 _ rfl).trans z4)))
        · exact (d2 _ rfl).trans ((c2 _ rfl).trans ((b2 _ rfl).trans ((a2 _ rfl).trans z5)))
        · simpa using hlen
        · omega
        · intro v hv
          rcases List.mem_or_eq_of_mem_set hv with hv | rfl
          · exact hU' v hv
          · exact hU' _ (List.mem_of_getElem? hcv)
    · rw [if_neg (by simp; omega)]
      rw [dif_neg (by omega)] at hinv
      rw [← hinv]
      exact ⟨rfl, h6, tk6, m6, tq, rfl, F6, N6, z1, z2, z3, z4, hlen, hq', hU'⟩
  · rintro fl s2 ⟨rfl, h8, tk8, m8, tq, rfl, F8, N8, d1, d2, d3, d4, hlen, hk, hU2⟩
    refine wpAny_execs_cons (wpAny_Assign_Subscript (qld F8 d4 (qld F8 d1 (qld F8 d3 (qset F8 N8 hr (by omega) (by omega) (by omega) ?_)))))
    intro h9 F9 N9
    simp only [Int.toNat_natCast] at N9
    refine wpAny_execs_cons (wpAny_Expr (Call_ (C'.glob F9 rfl (callWith_K C'.X rfl (args_cons (qld F9 d1 (args_cons (qld F9 d2 (args_cons (qld F9 d3 (args_nil ⟨C'.X.keeps F9.keep, ?_⟩)))))))))))
    refine sd_call C' F9 N9 hr hroom ?_ ?_ ?_ ?_ cmp ?_
    · show A.units + 3 + 3 ≤ u
      omega
    · simpa [hlen] using hk
    · simpa [hlen] using hsz
    · intro v hv
      rcases List.mem_or_eq_of_mem_set hv with hv | rfl
      · exact hU2 v hv
      · exact hU _ (List.mem_of_getElem? hx)
    · intro h10 tk10 F10 N10
      exact wpAny_execs_nil ⟨_, _, _, _, _, rfl, F10, N10, fun Fh Nh => hq _ _ Fh Nh⟩
end
end Mine
namespace Mine
open PySem.Calls
section
variable {prog : Program} {w : World} {A : Around} {E : Value → Shared → Prop} {s : Shared} {h : Heap} {tk : Nat} {L l : Addr} {h₀ : Heap} {m : Str → Option Value} {env : Env} {Q : Value → Shared → Prop} {vs : List Value} {rest : List (Addr × Obj)} {n : Nat} {U : Value → Prop} {lt : Value → Value → Bool} {u : Nat}
set_option maxHeartbeats 1000000 in
theorem hf_call (C : Cx (KK w) A env L h₀) (F : Fr h₀ L h m) (N : News h₀ L h ((l, W.listOf vs.toArray n) :: rest)) (hr : ∀ p ∈ rest, p.1 ≠ l) (hroom : A.depth + 2 < recursionLimit) (hu : A.units + 9 ≤ u)
    (hsz : vs.length < 2 ^ 14) (hU : ∀ v ∈ vs, U v) (cmp : CmpOk prog w u rest U lt)
    (hq : ∀ h' tk', Fr h₀ L h' m → News h₀ L h' ((l, W.listOf (heapF lt vs).toArray n) :: rest) → Q .none (St s h' tk')) :
    wpAny (model prog w) A (call (.ref 28) [.ref l]) Q E (St s h tk) := by
  refine enter (binds := [("x", .ref l)]) C F N rfl rfl (by omega) (BindsTo.of_eq rfl) (locs rfl) ?_ rfl rfl rfl (by decide)
  intro g L' h₁ tk1 m' C' F' N' hm
  have x1 : m' "x" = some (.ref l) := (hm _).trans rfl
  clear hm
  refine wpAny_execs_cons (wpAny_Assign_Name (Call_ (C'.blt F' rfl boot_len (by decide) (callWith_builtin1 (args_cons (qld F' x1 (args_nil (qlen N' (.head _) (by omega) fun te _ => (qst F' N' ?_)))))))))
  intro h2 m2 tk2 F2 N2 e1 e2
  have e : (vs.length : Int).fdiv 2 = ((vs.length / 2 : Nat) : Int) := by rw [Int.fdiv_eq_ediv_of_nonneg _ (by decide)]; omega
  refine wpAny_execs_cons (wpAny_For (Call_ (C'.blt F2 rfl boot_reversed (by decide) (callWith_type1 (args_cons (Call_ (C'.blt F2 rfl boot_range (by decide) ?_))))))) 
  refine callWith_type1 (args_cons (wpAny_BinOp (qld F2 e1 (qint fun _ _ => (qfdiv (by decide) (noPy2 _) fun _ _ => ?_)))))
  rw [e]
  refine args_nil (qrange F2 N2 ?_)
  intro r h3 tk3 t u v F3 N3 hr3
  refine args_nil (qrev F3 N3 (.head _) (by omega) ?_)
  intro I h4 tk4 F4 N4 hI
  refine qiter_rit N4 (.head _) ?_
  have hlr : l < r := hr3 _ (.head _)
  have hlI : l < I := hI _ (.tail _ (.head _))
  refine qfor_range (vs.length / 2) (((vs.length / 2 : Nat) : Int) - 1) (-1) (fun i m₁ nw => m₁ "x" = some (.ref l) ∧ ∃ vs' : List Value, nw = (l, W.listOf vs'.toArray n) :: (r, rngObj 0 ((vs.length / 2 : Nat) : Int) 1 t u v) :: rest ∧ vs'.length = vs.length ∧ (∀ v ∈ vs', U v) ∧ hfLoop lt (vs.length / 2 - i) vs' = heapF lt vs) C'.hh F4
    (news := (l, W.listOf vs.toArray n) :: (r, rngObj 0 ((vs.length / 2 : Nat) : Int) 1 t u v) :: rest) ?_ ?_ ?_ ?_ ?_
  · exact news_sub N4 (by simp only [List.mem_cons]; grind)
  · intro p hp
    have : p.1 < I := hI p (by simp only [List.mem_cons] at hp ⊢; grind)
    exact Nat.ne_of_lt this
  · exact ⟨(e2 _ rfl).trans x1, vs, rfl, rfl, hU, rfl⟩
  · rintro i ti h5 tk5 m5 m6 nw o₁ hi ⟨z1, vs', rfl, hlen, hU', hinv⟩ ho₁ hnI F6 N6 y1 y2
    have ei : ((vs.length / 2 : Nat) : Int) - 1 + i * (-1) = ((vs.length / 2 - i - 1 : Nat) : Int) := by omega
    rw [ei] at y1
    refine wpAny_execs_cons (wpAny_Expr (Call_ (C'.glob F6 rfl (callWith_K C'.X rfl (args_cons (qld F6 ((y2 _ rfl).trans z1) (args_cons (qld F6 y1 (args_nil ⟨C'.X.keeps F6.keep, ?_⟩)))))))))
    refine su_call (n := n) (vs := vs') C' F6 (rest := (I, o₁) :: (r, rngObj 0 ((vs.length / 2 : Nat) : Int) 1 t u v) :: rest) (U := U) (lt := lt)
      (news_sub N6 (by simp only [List.mem_cons]; grind)) ?_ ?_ ?_ ?_ (by omega) hU' (cmp.mono (by simp only [List.mem_cons]; grind)) ?_
    · intro p hp
      simp only [List.mem_cons] at hp
      rcases hp with rfl | rfl | hp
      · exact Nat.ne_of_gt hlI
      · exact Nat.ne_of_gt hlr
      · exact hr p hp
    · show A.depth + 1 + 1 < _
      omega
    · show A.units + 3 + 6 ≤ _
      omega
    · omega
    · intro h7 tk7 F7 N7
      refine wpAny_execs_nil ⟨h7, tk7, m6, (l, W.listOf (siftup lt (vs.length / 2 - i - 1) vs').toArray n) :: (r, rngObj 0 ((vs.length / 2 : Nat) : Int) 1 t u v) :: rest, o₁, rfl, ho₁, F7, news_sub N7 (by simp only [List.mem_cons]; grind), ?_, (y2 _ rfl).trans z1, _, rfl, ?_, ?_, ?_⟩
      · intro p hp
        simp only [List.mem_cons] at hp
        rcases hp with rfl | rfl | hp
        · exact Nat.ne_of_lt hlI
        · exact hnI _ (.tail _ (.head _))
        · exact hnI p (.tail _ (.tail _ hp))
      · rw [(siftup_perm _ _).length_eq, hlen]
      · intro v hv
        exact hU' v ((siftup_perm _ _).mem_iff.mp hv)
      · rw [← hinv]
        have e3 : vs.length / 2 - i = (vs.length / 2 - i - 1) + 1 := by omega
        have e4 : vs.length / 2 - (i + 1) = vs.length / 2 - i - 1 := by omega
        rw [e3, e4]
        rfl
  · rintro h5 tk5 m5 nw ⟨z1, vs', rfl, hlen, hU', hinv⟩ F6 N6
    rw [Nat.sub_self] at hinv
    have hinv' : vs' = heapF lt vs := hinv
    subst hinv'
    exact wpAny_execs_nil ⟨_, _, _, _, (l, W.listOf (heapF lt vs).toArray n) :: rest, rfl, F6, news_sub N6 (by simp only [List.mem_cons]; grind), fun Fh Nh => hq _ _ Fh Nh⟩

/-- heapreplace -/
theorem hr_call {x r0 : Value} (C : Cx (KK w) A env L h₀) (F : Fr h₀ L h m) (N : News h₀ L h ((l, W.listOf vs.toArray n) :: rest)) (hr : ∀ p ∈ rest, p.1 ≠ l) (hroom : A.depth + 2 < recursionLimit) (hu : A.units + 9 ≤ u)
    (hsz : vs.length < 2 ^ 14) (hr0 : vs[0]? = some r0) (hU : ∀ v ∈ vs, U v) (hx : U x) (cmp : CmpOk prog w u rest U lt)
    (hq : ∀ h' tk', Fr h₀ L h' m → News h₀ L h' ((l, W.listOf (siftup lt 0 (vs.set 0 x)).toArray n) :: rest) → Q r0 (St s h' tk')) :
    wpAny (model prog w) A (call (.ref 21) [.ref l, x]) Q E (St s h tk) := by
  refine enter (binds := [("heap", .ref l), ("item", x)]) C F N rfl rfl (by omega) (BindsTo.of_eq rfl) (locs rfl) ?_ rfl rfl rfl (by decide)
  intro g L' h₁ tk1 m' C' F' N' hm
  have x1 : m' "heap" = some (.ref l) := (hm _).trans rfl
  have x2 : m' "item" = some x := (hm _).trans rfl
  clear hm
  have h0 : 0 < vs.length := (List.getElem?_eq_some_iff.mp hr0).1
  refine wpAny_execs_cons (wpAny_Assign_Name (Subscript_ (qld F' x1 (qint fun _ _ => (qitem N' (.head _) (by omega) (by omega) (by omega) hr0 (qst F' N' ?_))))))
  intro h2 m2 tk2 F2 N2 e1 e2
  refine wpAny_execs_cons (wpAny_Assign_Subscript (qld F2 ((e2 _ rfl).trans x2) (qld F2 ((e2 _ rfl).trans x1) (qint fun _ _ => (qset F2 N2 hr (by omega) (by omega) (by omega) ?_)))))
  intro h3 F3 N3
  refine wpAny_execs_cons (wpAny_Expr (Call_ (C'.glob F3 rfl (callWith_K C'.X rfl (args_cons (qld F3 ((e2 _ rfl).trans x1) (args_cons (qint fun _ _ => (args_nil ⟨C'.X.keeps F3.keep, ?_⟩)))))))))
  refine su_call (p := 0) C' F3 N3 hr ?_ ?_ ?_ ?_ (U := U) (lt := lt) ?_ cmp ?_
  · show A.depth + 1 + 1 < _
    omega
  · show A.units + 3 + 6 ≤ _
    omega
  · simpa using h0
  · simpa using hsz
  · intro v hv
    rcases List.mem_or_eq_of_mem_set hv with hv | rfl
    · exact hU v hv
    · exact hx
  · intro h4 tk4 F4 N4
    refine wpAny_execs_cons (wpAny_Return_some (qld F4 e1 ?_))
    exact ⟨_, _, _, _, _, rfl, F4, N4, fun Fh Nh => hq _ _ Fh Nh⟩
end
end Mine
namespace Mine
open PySem.Calls
/-- so many times the least gives way to itself with its sign turned -/
inductive Turned : Nat → List Int → List Int → Prop
  | zero {a b : List Int} : b.Perm a → Turned 0 a b
  | step {k : Nat} {a b c r : List Int} {x : Int} : Turned k a b → b.Perm (x :: r) → (∀ y ∈ b, x ≤ y) → c.Perm (-x :: r) → Turned (k + 1) a c
def ival : Value → Int
  | .int i _ => i
  | _ => 0
def ilt (a b : Value) : Bool := decide (ival a < ival b)
theorem ilt_good : Good ilt where
  asymm a b h := by unfold ilt at *; simp at *; omega
  ntrans a b c h1 h2 := by unfold ilt at *; simp at *; omega
def IsI (v : Value) : Prop := ∃ i t, v = .int i t
theorem icmp (prog : Program) (w : World) (u : Nat) (rest : List (Addr × Obj)) : CmpOk prog w u rest IsI ilt := by
  rintro x y ⟨i, t, rfl⟩ ⟨j, t', rfl⟩ A s h tk Q E _ _ hq
  exact lt_int hq
theorem ints_of : ∀ {vs : List Value}, (∀ v ∈ vs, IsI v) → IntsAre vs (vs.map ival)
  | [], _ => .nil
  | v :: vs, h => by
    obtain ⟨i, t, rfl⟩ := h v (.head _)
    exact .cons i t (ints_of fun x hx => h x (.tail _ hx))
theorem of_ints : ∀ {vs : List Value} {ns : List Int}, IntsAre vs ns → (∀ v ∈ vs, IsI v) ∧ vs.map ival = ns
  | _, _, .nil => ⟨(fun _ h => nomatch h), rfl⟩
  | _, _, .cons i t h => by
    obtain ⟨a, b⟩ := of_ints h
    refine ⟨fun v hv => ?_, by simp [ival, b]⟩
    rcases List.mem_cons.mp hv with rfl | hv
    · exact ⟨i, t, rfl⟩
    · exact a v hv
section
variable {prog : Program} {w : World} {A : Around} {E : Value → Shared → Prop} {s : Shared} {h : Heap} {tk : Nat} {L l : Addr} {h₀ : Heap} {m : Str → Option Value} {env : Env} {Q : Value → Shared → Prop} {vs : List Value} {rest : List (Addr × Obj)} {n : Nat}
theorem turn_step {vs' : List Value} {ns : List Int} {k : Nat} {x : Int} {t t' : Tok} (hT : Turned k ns (vs'.map ival)) (hU : ∀ v ∈ vs', IsI v) (hH : HP ilt 0 vs') (h0 : vs'[0]? = some (.int x t)) :
    Turned (k + 1) ns ((siftup ilt 0 (vs'.set 0 (.int (-x) t'))).map ival) ∧ HP ilt 0 (siftup ilt 0 (vs'.set 0 (.int (-x) t'))) := by
  cases vs' with
  | nil => simp at h0
  | cons v r =>
    simp only [List.getElem?_cons_zero, Option.some.injEq] at h0
    subst h0
    refine ⟨.step (x := x) (r := r.map ival) hT (.refl _) ?_ ?_, ?_⟩
    · intro y hy
      obtain ⟨v, hv, rfl⟩ := List.mem_map.mp hy
      have hr : decide (ival v < x) = false := HP_root ilt_good hH (r := .int x t) rfl v hv
      simpa using hr
    · exact (siftup_perm _ _).map ival
    · refine siftup_HP ilt_good 0 _ (by simp) ?_
      intro i a b k0 k1 h2 h3
      rw [List.getElem?_set, if_neg (by omega)] at h2 h3
      exact hH i a b k0 (by omega) h2 h3
set_option maxHeartbeats 1000000 in
theorem lt_call {times : Nat} {tt : Tok} {ns : List Int} (C : Cx (KK w) A env L h₀) (F : Fr h₀ L h m) {news : List (Addr × Obj)} (N : News h₀ L h news) (hm : (l, W.listOf vs.toArray n) ∈ news) (hroom : A.depth + 10 < recursionLimit) 
    (hsz : vs.length < 2 ^ 14) (h1 : 1 ≤ vs.length) (ht : times < 2 ^ 20) (hU : IntsAre vs ns)
    (hq : ∀ h' tk' D vs' ns' n', Fr h₀ L h' m → News h₀ L h' ((D, W.listOf vs'.toArray n') :: news) → (∀ p ∈ news, p.1 < D) → IntsAre vs' ns' → Turned times ns ns' → Q (.ref D) (St s h' tk')) :
    wpAny (model prog w) A (call (.ref 49) [.ref l, .int times tt]) Q E (St s h tk) := by
  obtain ⟨hV, hns⟩ := of_ints hU; subst hns
  refine enter (binds := [("numbers", .ref l), ("times", .int times tt)]) C F N rfl rfl (by omega) (BindsTo.of_eq rfl) (locs rfl) ?_ rfl rfl rfl (by decide)
  intro g L' h₁ tk1 m' C' F' N' hm'
  have x1 : m' "numbers" = some (.ref l) := (hm' _).trans rfl
  have x2 : m' "times" = some (.int times tt) := (hm' _).trans rfl
  clear hm'
  refine wpAny_execs_cons (wpAny_Assign_Name (Call_ (C'.blt F' rfl boot_list (by decide) (callWith_type1 (args_cons (qld F' x1 (args_nil (list_copyK (s := St s h₁ tk1) F' N' (PySem.IsL.isList (n := n) (N' _ hm).1) ?_ (by rw [List.size_toArray, sizeLine_eq]; omega)))))))))
  intro D c h2 F2 N2 hD
  refine qst (s := s) F2 N2 ?_
  intro h3 m3 tk3 F3 N3 e1 e2
  refine wpAny_execs_cons (wpAny_If (wpAny_isTrue_Compare1 (Call_ (C'.glob F3 rfl (callWith_K C'.X rfl (args_cons (qld F3 e1 (args_nil ⟨C'.X.keeps F3.keep, ?_⟩))))))))
  refine hf_call (n := c) (vs := vs) (rest := news) (lt := ilt) (U := IsI) C' F3 N3 (fun p hp => Nat.ne_of_lt (hD p hp)) ?_ (Nat.le_refl _) hsz hV (icmp _ _ _ _) ?_
  · show A.depth + 1 + 2 < _
    omega
  intro h4 tk4 F4 N4
  refine wpAny_Constant_none (wpAny_isNot_plain rfl (wpAny_truthy_bool ?_))
  rw [if_neg (by decide)]
  refine wpAny_execs_nil ?_
  refine wpAny_execs_cons (wpAny_For (Call_ (C'.blt F4 rfl boot_range (by decide) (callWith_type1 (args_cons (qld F4 ((e2 _ rfl).trans x2) (args_nil (qrange F4 N4 ?_))))))))
  intro r h5 tk5 t u v F5 N5 hr5
  refine qiter_rng (b := times) F5 N5 (.head _) ht ?_
  intro I h6 F6 N6 hI
  have hDr : D < r := hr5 _ (.head _)
  have hDI : D < I := hI _ (.tail _ (.head _))
  refine qfor_range times 0 1 (fun i m₁ nw => m₁ "heap" = some (.ref D) ∧ ∃ vs' : List Value, nw = (D, W.listOf vs'.toArray c) :: (r, rngObj 0 times 1 t u v) :: news ∧ vs'.length = vs.length ∧ (∀ v ∈ vs', IsI v) ∧ HP ilt 0 vs' ∧ Turned i (vs.map ival) (vs'.map ival)) C'.hh F6
    (news := (D, W.listOf (heapF ilt vs).toArray c) :: (r, rngObj 0 times 1 t u v) :: news) ?_ ?_ ?_ ?_ ?_
  · exact news_sub N6 (by simp only [List.mem_cons]; grind)
  · intro p hp
    exact Nat.ne_of_lt (hI p (by simp only [List.mem_cons] at hp ⊢; grind))
  · refine ⟨e1, _, rfl, (heapF_perm _).length_eq, fun v hv => hV v ((heapF_perm _).mem_iff.mp hv), heapF_HP ilt_good _, .zero ((heapF_perm _).map _)⟩
  · rintro i ti h7 tk7 m7 m8 nw o₁ hi ⟨z1, vs', rfl, hlen, hU', hH, hT⟩ ho₁ hnI F8 N8 y1 y2
    have hz : 0 < vs'.length := by omega
    obtain ⟨x, tx, hx⟩ : ∃ x tx, vs'[0]? = some (Value.int x tx) := by
      obtain ⟨x, tx, e⟩ := hU' vs'[0] (List.getElem_mem hz)
      exact ⟨x, tx, by rw [List.getElem?_eq_getElem hz, e]⟩
    refine wpAny_execs_cons (wpAny_Assign_Name (Subscript_ (qld F8 ((y2 _ rfl).trans z1) (qint fun _ _ => (qitem N8 (.tail _ (.head _)) (by omega) (by omega) (by omega) hx (qst F8 N8 ?_))))))
    intro h9 m9 tk9 F9 N9 a1 a2
    refine wpAny_execs_cons (wpAny_If (wpAny_isTrue_Compare1 (Call_ (C'.glob F9 rfl (callWith_K C'.X rfl (args_cons (qld F9 ((a2 _ rfl).trans ((y2 _ rfl).trans z1)) ?_)))))))
    refine args_cons (wpAny_UnaryOp (qld F9 a1 (qneg fun tn _ => (args_nil ⟨C'.X.keeps F9.keep, ?_⟩))))
    obtain ⟨s1, s2⟩ := turn_step (t' := tn) hT hU' hH hx
    refine hr_call (n := c) (vs := vs') (rest := (I, o₁) :: (r, rngObj 0 times 1 t u v) :: news) (lt := ilt) (U := IsI) C' F9 (news_sub N9 (by simp only [List.mem_cons]; grind)) ?_ ?_ (Nat.le_refl _) (by omega) hx hU' ⟨_, _, rfl⟩ (icmp _ _ _ _) ?_
    · intro p hp
      simp only [List.mem_cons] at hp
      rcases hp with rfl | rfl | hp
      · exact Nat.ne_of_gt hDI
      · exact Nat.ne_of_gt hDr
      · exact Nat.ne_of_lt (hD p hp)
    · show A.depth + 1 + 2 < _
      omega
    intro h10 tk10 F10 N10
    refine qld F10 a1 (ne_int (wpAny_truthy_bool ?_))
    rw [if_neg (by simp)]
    refine wpAny_execs_nil ?_
    refine wpAny_execs_nil ⟨h10, tk10, m9, (D, W.listOf (siftup ilt 0 (vs'.set 0 (.int (-x) tn))).toArray c) :: (r, rngObj 0 times 1 t u v) :: news, o₁, rfl, ho₁, F10, news_sub N10 (by simp only [List.mem_cons]; grind), ?_, (a2 _ rfl).trans ((y2 _ rfl).trans z1), _, rfl, ?_, ?_, s2, s1⟩
    · intro p hp
      simp only [List.mem_cons] at hp
      rcases hp with rfl | rfl | hp
      · exact Nat.ne_of_lt hDI
      · exact hnI _ (.tail _ (.head _))
      · exact hnI p (.tail _ (.tail _ hp))
    · rw [(siftup_perm _ _).length_eq, List.length_set, hlen]
    · intro v hv
      rcases List.mem_or_eq_of_mem_set ((siftup_perm _ _).mem_iff.mp hv) with hv | rfl
      · exact hU' v hv
      · exact ⟨_, _, rfl⟩
  · rintro h7 tk7 m7 nw ⟨z1, vs', rfl, hlen, hU', hH, hT⟩ F8 N8
    refine wpAny_execs_cons (wpAny_Return_some (qld F8 z1 ?_))
    exact ⟨_, _, _, _, (D, W.listOf vs'.toArray c) :: news, rfl, F8, news_sub N8 (by simp only [List.mem_cons]; grind), fun Fh Nh => hq _ _ _ _ _ _ Fh Nh hD (ints_of hU') hT⟩
end
end Mine
namespace Mine
open PySem.Calls LCg LCt
def mx (a b : Int) : Int := if b > a then b else a
def bstep (b : List Int) (n : Int) : List Int :=
  (b.getD 0 0 + n) :: ((List.range (b.length - 1)).map fun i => mx (b.getD (i + 1) 0 + n) (b.getD i 0 - n)) ++ [b.getD (b.length - 1) 0 - n]
theorem bstep_len (b : List Int) (n : Int) (h : 0 < b.length) : (bstep b n).length = b.length + 1 := by
  unfold bstep; simp; omega
def bestF (ns : List Int) : List Int := ns.foldl bstep [0]
theorem bestF_snoc (ns : List Int) (n : Int) : bestF (ns ++ [n]) = bstep (bestF ns) n := by unfold bestF; rw [List.foldl_append]; rfl
theorem bestF_len (ns : List Int) : (bestF ns).length = ns.length + 1 := by
  have key : ∀ (l : List Int) (b : List Int), 0 < b.length → (l.foldl bstep b).length = b.length + l.length := by
    intro l
    induction l with
    | nil => intro b _; rfl
    | cons n r ih =>
      intro b hb
      rw [List.foldl_cons, ih _ (by rw [bstep_len _ _ hb]; omega), bstep_len _ _ hb, List.length_cons]; omega
  unfold bestF
  rw [key _ _ (by decide)]; simp; omega
def candF (b : List Int) (times : Nat) : List Int := ((List.range b.length).filter fun k => decide (k ≤ times ∧ (times - k) % 2 = 0)).map fun k => b.getD k 0
theorem off_tail {news big : List (Addr × Obj)} {L c : Nat} (hlt : ∀ p ∈ news, p.1 < L) (hs : ∀ p ∈ news, p ∈ big) (hc : L ≤ c) : ∀ p ∈ news, p ∈ big ∧ p.1 ≠ c :=
  fun p hp => ⟨hs p hp, Nat.ne_of_lt (Nat.lt_of_lt_of_le (hlt p hp) hc)⟩
local macro_rules | `(tactic| walk_at "off") => `(tactic| ((repeat (refine List.forall_mem_cons.mpr ⟨⟨by simp only [List.mem_cons, true_or, or_true], by (refine neN ?_; (try dsimp only); omega)⟩, ?_⟩)); exact off_tail (by assumption) (by (intro _ h9; simp only [List.mem_cons, h9, or_true])) (by omega)))
section
variable {prog : Program} {w : World} {A : Around} {E : Value → Shared → Prop} {s : Shared} {h : Heap} {tk : Nat} {L l : Addr} {h₀ : Heap} {m : Str → Option Value} {env : Env} {Q : Value → Shared → Prop} {vs : List Value} {news : List (Addr × Obj)} {n : Nat}
set_option maxHeartbeats 1000000 in
theorem lg_call {times : Nat} {tt : Tok} {ns : List Int} (C : Cx (KK w) A env L h₀) (F : Fr h₀ L h m) (N : News h₀ L h news) (hm : (l, W.listOf vs.toArray n) ∈ news) (hroom : A.depth + 10 < recursionLimit)
    (hsz : vs.length < 2 ^ 10) (ht : times < 2 ^ 20) (hU : IntsAre vs ns) (hne : 0 < (candF (bestF ns) times).length)
    (hq : ∀ h' tk' M t, Fr h₀ L h' m → News h₀ L h' news → M ∈ candF (bestF ns) times → (∀ a ∈ candF (bestF ns) times, a ≤ M) → Q (.int M t) (St s h' tk')) :
    wpAny (model prog w) A (call (.ref 54) [.ref l, .int times tt]) Q E (St s h tk) := by
  refine enterC (binds := [("numbers", .ref l), ("times", .int times tt)]) C F N rfl rfl (by omega) (BindsTo.of_eq rfl) rfl (by decide +kernel) ?_ rfl rfl rfl
  intro g L' h₁ tk1 cells m' C' F' N' hlt hm' Y
  have x1 : m' "numbers" = some (.ref l) := (hm' _).trans rfl
  clear hm'
  obtain ⟨oU, oK, oN, oB, oT, rfl, dU, dK, dN, dB, dT⟩ := kc_five Y
  clear Y
  have dT' : oT.data = .cell (some (.int times tt)) := dT.trans rfl
  have dB' : oB.data = .cell none := dB.trans rfl
  have dN' : oN.data = .cell none := dN.trans rfl
  have dK' : oK.data = .cell none := dK.trans rfl
  have dU' : oU.data = .cell none := dU.trans rfl
  clear dT dB dN dK dU
  simp only [List.cons_append, List.nil_append] at N'
  -- best = [0]
  refine wpAny_execs_cons (wpAny_Assign_Name (List_ (args_cons (qint fun t0 _ => (args_nil (qlist F' N' (by simp) ?_))))))
  intro B h2 F2 N2 hB
  have hB1 : @LT.lt Nat _ (L' + 1 + 1 + 1 + 1 + 1) B := hB _ (.head _)
  refine qstC (x := "best") F2 N2 rfl (.tail _ (.tail _ (.tail _ (.tail _ (.head _))))) dB' ?_
  intro h3 oB3 F3 dB3 N3
  have N3' := N3 ((B, W.listOf [Value.int 0 t0].toArray 0) :: (L' + 1, oT) :: (L' + 1 + 1 + 1, oN) :: (L' + 1 + 1 + 1 + 1, oK) :: (L' + 1 + 1 + 1 + 1 + 1, oU) :: news) (by walk_at "off")
  clear N3 N2
  refine wpAny_execs_cons (wpAny_For (qldX F3 x1 ?_))
  refine qfor_list (n := n) (vs := vs) (fun i m₁ nw => m₁ "numbers" = some (.ref l) ∧ ∃ oB oN oK oU B nB vsB vN vK vU, nw = (L' + 1 + 1, oB) :: (B, W.listOf vsB.toArray nB) :: (L' + 1, oT) :: (L' + 1 + 1 + 1, oN) :: (L' + 1 + 1 + 1 + 1, oK) :: (L' + 1 + 1 + 1 + 1 + 1, oU) :: news ∧
      @LT.lt Nat _ (L' + 1 + 1 + 1 + 1 + 1) B ∧ oB.data = .cell (some (.ref B)) ∧ oN.data = .cell vN ∧ oK.data = .cell vK ∧ oU.data = .cell vU ∧ IntsAre vsB (bestF (ns.take i))) C'.hh F3 N3' ?_ ?_ ?_ ?_
  · exact ⟨x1, oB3, oN, oK, oU, B, 0, _, _, _, _, rfl, hB1, dB3, dN', dK', dU', .cons 0 t0 .nil⟩
  · rintro i m₁ nw ⟨_, oB, oN, oK, oU, B, nB, vsB, vN, vK, vU, rfl, _⟩
    simp [hm]
  · rintro i v I h4 tk4 m4 nw oI hv ⟨z1, oB, oN, oK, oU, B, nB, vsB, vN, vK, vU, rfl, hBL, dB, dN, dK, dU, hI⟩ hlit hnI F4 N4
    obtain ⟨tv, rfl, hil⟩ := ints_item hU hv
    have i1 : @Ne Nat (L' + 1 + 1) I := hnI _ (.head _)
    have i2 : @Ne Nat B I := hnI _ (.tail _ (.head _))
    have i3 : @Ne Nat (L' + 1) I := hnI _ (.tail _ (.tail _ (.head _)))
    have i4 : @Ne Nat (L' + 1 + 1 + 1) I := hnI _ (.tail _ (.tail _ (.tail _ (.head _))))
    have i5 : @Ne Nat (L' + 1 + 1 + 1 + 1) I := hnI _ (.tail _ (.tail _ (.tail _ (.tail _ (.head _)))))
    have i6 : @Ne Nat (L' + 1 + 1 + 1 + 1 + 1) I := hnI _ (.tail _ (.tail _ (.tail _ (.tail _ (.tail _ (.head _))))))
    generalize hb : bestF (ns.take i) = b at hI
    generalize hxx : ns.getD i 0 = x
    have hbl : b.length = i + 1 := by rw [← hb, bestF_len, List.length_take]; omega
    have hul := hU.length
    have hvl := hI.length
    refine qstC F4 N4 rfl (by simp only [List.mem_cons, true_or, or_true]) dN ?_
    intro h5 oN5 F5 dN5 N5
    have N5' := N5 ((I, oI) :: (L' + 1 + 1, oB) :: (B, W.listOf vsB.toArray nB) :: (L' + 1, oT) :: (L' + 1 + 1 + 1 + 1, oK) :: (L' + 1 + 1 + 1 + 1 + 1, oU) :: news) (by walk_at "off")
    clear N5 N4
    -- kept
    refine wpAny_execs_cons (wpAny_Assign_Name (ListComp_U F5 rfl (by decide) rfl (by decide) rfl (qldC N5' rfl (by simp only [List.mem_cons, true_or, or_true]) dB ?_)))
    refine src_list (its := vsB) (k := nB) (fun j ys nw => nw = (L' + 1 + 1 + 1, oN5) :: (I, oI) :: (L' + 1 + 1, oB) :: (B, W.listOf vsB.toArray nB) :: (L' + 1, oT) :: (L' + 1 + 1 + 1 + 1, oK) :: (L' + 1 + 1 + 1 + 1 + 1, oU) :: news ∧ IntsAre ys ((b.take j).map (· + x))) C'.hh F5 N5' (by simp only [List.mem_cons, true_or, or_true]) (by omega) ⟨rfl, .nil⟩ ?_ ?_ ?_
    · rintro j ys nw ⟨rfl, _⟩
      simp only [List.mem_cons, true_or, or_true]
    · rintro j v I' oI' C oC D ys nw m₂ h₁ tk₁ hj hv ⟨rfl, hys⟩ hC hx F N off ne
      obtain ⟨t, rfl, hjb⟩ := ints_item hI hv
      refine wpAny_BinOp (qce N (.tail _ (.head _)) hC hx (qceC N rfl (by simp only [List.mem_cons, true_or, or_true]) dN5 (qadd fun t' tk' => ?_)))
      exact ⟨h₁, tk', _, rfl, F, N, off, rfl, by rw [take_snoc _ hjb, List.map_append]; exact ints_snoc hys _ _⟩
    rintro g1 ys1 nw ⟨rfl, hy1⟩ D1 h6 tk6 F6 N6 off6
    simp only [Off1] at off6
    obtain ⟨a1, a2, a3, a4, a5, a6, a7, _⟩ := off6
    refine qstC (s := s) (h := h6) (tk := tk6) F6 N6 rfl (by simp only [List.mem_cons, true_or, or_true]) dK ?_
    intro h7 oK7 F7 dK7 N7
    have N7' := N7 ((D1, lst ys1) :: (L' + 1 + 1 + 1, oN5) :: (I, oI) :: (L' + 1 + 1, oB) :: (B, W.listOf vsB.toArray nB) :: (L' + 1, oT) :: (L' + 1 + 1 + 1 + 1 + 1, oU) :: news) (by walk_at "off")
    clear N7 N6 N5'
    have hy1 : IntsAre ys1 (b.map (· + x)) := by rw [hvl, List.take_length] at hy1; exact hy1
    -- turned
    refine wpAny_execs_cons (wpAny_Assign_Name (ListComp_U F7 rfl (by decide) rfl (by decide) rfl (qldC N7' rfl (by simp only [List.mem_cons, true_or, or_true]) dB ?_)))
    refine src_list (its := vsB) (k := nB) (fun j ys nw => nw = (L' + 1 + 1 + 1 + 1, oK7) :: (D1, lst ys1) :: (L' + 1 + 1 + 1, oN5) :: (I, oI) :: (L' + 1 + 1, oB) :: (B, W.listOf vsB.toArray nB) :: (L' + 1, oT) :: (L' + 1 + 1 + 1 + 1 + 1, oU) :: news ∧ IntsAre ys ((b.take j).map (· - x))) C'.hh F7 N7' (by simp only [List.mem_cons, true_or, or_true]) (by omega) ⟨rfl, .nil⟩ ?_ ?_ ?_
    · rintro j ys nw ⟨rfl, _⟩
      simp only [List.mem_cons, true_or, or_true]
    · rintro j v I' oI' C oC D ys nw m₂ h₁ tk₁ hj hv ⟨rfl, hys⟩ hC hx F N off ne
      obtain ⟨t, rfl, hjb⟩ := ints_item hI hv
      refine wpAny_BinOp (qce N (.tail _ (.head _)) hC hx (qceC N rfl (by simp only [List.mem_cons, true_or, or_true]) dN5 (qsub fun t' tk' => ?_)))
      exact ⟨h₁, tk', _, rfl, F, N, off, rfl, by rw [take_snoc _ hjb, List.map_append]; exact ints_snoc hys _ _⟩
    rintro g2 ys2 nw ⟨rfl, hy2⟩ D2 h8 tk8 F8 N8 off8
    simp only [Off1] at off8
    obtain ⟨b1, b2, b3, b4, b5, b6, b7, b8, _⟩ := off8
    refine qstC (s := s) (h := h8) (tk := tk8) F8 N8 rfl (by simp only [List.mem_cons, true_or, or_true]) dU ?_
    intro h9 oU9 F9 dU9 N9
    have N9' := N9 ((D2, lst ys2) :: (L' + 1 + 1 + 1 + 1, oK7) :: (D1, lst ys1) :: (L' + 1 + 1 + 1, oN5) :: (I, oI) :: (L' + 1 + 1, oB) :: (B, W.listOf vsB.toArray nB) :: (L' + 1, oT) :: news) (by walk_at "off")
    clear N9 N8 N7'
    have hy2 : IntsAre ys2 (b.map (· - x)) := by rw [hvl, List.take_length] at hy2; exact hy2
    -- middle
    refine wpAny_execs_cons (Assign_ListComp_U F9 rfl rfl rfl (by decide) rfl (by decide) rfl rfl rfl (Call_ (C'.bltX F9 rfl boot_range (by decide) (PyProof.Rows.callWith_type1 (args_cons (qint fun t1 _ => ?_))))))
    refine args_cons (Call_ (C'.bltX F9 rfl boot_len (by decide) (PyProof.Rows.callWith_builtin1 (args_cons (qldC N9' rfl (by simp only [List.mem_cons, true_or, or_true]) dB (args_nil (qlen (vs := vsB) (n := nB) N9' (by simp only [List.mem_cons, true_or, or_true]) (by omega) fun t2 _ => ?_)))))))
    refine args_nil (qrange2 F9 N9' ?_)
    intro r h10 tk10 t3 F10 N10 hr10
    refine src_range (a := 1) (b := vsB.length) (t := t1) (u := t2) (v := t3) (fun j ys nw => nw = (r, rngObj ((1 : Nat) : Int) (vsB.length : Int) 1 t1 t2 t3) :: (L' + 1 + 1 + 1 + 1 + 1, oU9) :: (D2, lst ys2) :: (L' + 1 + 1 + 1 + 1, oK7) :: (D1, lst ys1) :: (L' + 1 + 1 + 1, oN5) :: (I, oI) :: (L' + 1 + 1, oB) :: (B, W.listOf vsB.toArray nB) :: (L' + 1, oT) :: news ∧
      IntsAre ys ((List.range j).map fun i => mx (b.getD (i + 1) 0 + x) (b.getD i 0 - x))) C'.hh F10 N10 (.head _) (by omega) (by omega) ⟨rfl, .nil⟩ ?_ ?_
    · rintro j t I' oI' C oC D ys nw m₂ h₁ tk₁ hj ⟨rfl, hys⟩ hC hx F N off ne
      have hk : 1 + j < b.length := by omega
      obtain ⟨ta, ea⟩ := ints_at hy1 (i := 1 + j) (by simpa using hk)
      obtain ⟨tb, eb⟩ := ints_at hy2 (i := j) (by simp; omega)
      have va : (b.map (· + x)).getD (1 + j) 0 = b.getD (j + 1) 0 + x := by rw [Nat.add_comm 1 j] at hk ⊢; simp [hk]
      have vb : (b.map (· - x)).getD j 0 = b.getD j 0 - x := by simp [(by omega : j < b.length)]
      rw [va] at ea
      rw [vb] at eb
      have l1 := hy1.length
      have l2 := hy2.length
      simp only [List.length_map] at l1 l2
      refine Call_ (qceB C' F rfl boot_max (by decide) (PyProof.Rows.callWith_builtin1 (args_cons (Subscript_ (qceC N rfl (by simp only [List.mem_cons, true_or, or_true]) dK7 (qce N (.tail _ (.head _)) hC hx (qitemO (lo := lst ys1) (l := ys1) (n := ys1.length) N (by simp only [List.mem_cons, true_or, or_true]) rfl (by omega) (by omega) (by omega) (by rw [Int.toNat_natCast]; exact ea) ?_)))))))
      refine args_cons (Subscript_ (qceC N rfl (by simp only [List.mem_cons, true_or, or_true]) dU9 (wpAny_BinOp (qce N (.tail _ (.head _)) hC hx (qint fun _ _ => (qsub fun _ _ => (qitemO (lo := lst ys2) (l := ys2) (n := ys2.length) N (by simp only [List.mem_cons, true_or, or_true]) rfl (by omega) (by omega) (by omega) (by rw [show (((1 + j : Nat) : Int) - 1).toNat = j by omega]; exact eb) ?_)))))))
      refine args_nil (qmax2 C'.hh F N ?_)
      intro h2 tk2 t2 F2 N2
      refine ⟨h2, tk2, _, rfl, F2, N2, off, rfl, ?_⟩
      rw [List.range_succ, List.map_append]
      exact ints_snoc hys _ _
    rintro g3 ys3 nw ⟨rfl, hy3⟩ D3 h11 tk11 F11 N11 off11
    simp only [Off1] at off11
    obtain ⟨c1, c2, c3, c4, c5, c6, c7, c8, c9, c10, _⟩ := off11
    -- best
    have l1 := hy1.length
    have l2 := hy2.length
    have l3 := hy3.length
    simp only [List.length_map, List.length_range] at l1 l2 l3
    obtain ⟨ta, ea⟩ := ints_at hy1 (i := 0) (by simp; omega)
    have va : (b.map (· + x)).getD 0 0 = b.getD 0 0 + x := by simp [(by omega : 0 < b.length)]
    rw [va] at ea
    obtain ⟨tb, eb⟩ := ints_at hy2 (i := ys2.length - 1) (by simp; omega)
    have vb : (b.map (· - x)).getD (ys2.length - 1) 0 = b.getD (b.length - 1) 0 - x := by rw [l2]; simp [(by omega : b.length - 1 < b.length)]
    rw [vb] at eb
    refine wpAny_execs_cons (wpAny_Assign_Name (wpAny_BinOp (wpAny_BinOp (List_ (args_cons (Subscript_ (qldC (s := s) (h := h11) (tk := tk11) N11 rfl (by simp only [List.mem_cons, true_or, or_true]) dK7 (qint fun _ _ => (qitemO (lo := lst ys1) (l := ys1) (n := ys1.length) N11 (by simp only [List.mem_cons, true_or, or_true]) rfl (by omega) (by omega) (by omega) ea (args_nil (qlist F11 N11 (by simp) ?_)))))))))))
    intro D4 h12 F12 N12 hD4
    refine qldX F12 (if_pos rfl) (qcat (us := [Value.int (b.getD 0 0 + x) ta]) (vs := ys3) F12 N12 (.head _) (.tail _ (.head _)) rfl rfl (by simp; omega) ?_)
    intro D5 h13 F13 N13 hD5
    refine List_ (args_cons (Subscript_ (qldC N13 rfl (by simp only [List.mem_cons, true_or, or_true]) dU9 (wpAny_UnaryOp (qint fun _ _ => (qneg fun _ _ => (qlast (lo := lst ys2) (l := ys2) (n := ys2.length) N13 (by simp only [List.mem_cons, true_or, or_true]) rfl (by omega) eb (args_nil (qlist F13 N13 (by simp) ?_)))))))))
    intro D6 h14 F14 N14 hD6
    refine qcat (us := [Value.int (b.getD 0 0 + x) ta] ++ ys3) (vs := [Value.int (b.getD (b.length - 1) 0 - x) tb]) F14 N14 (.tail _ (.head _)) (.head _) rfl rfl (by simp; omega) ?_
    intro D7 h15 F15 N15 hD7
    have d1 : @LT.lt Nat _ (L' + 1 + 1 + 1 + 1 + 1) D7 := hD7 (L' + 1 + 1 + 1 + 1 + 1, oU9) (by simp only [List.mem_cons, true_or, or_true])
    have d2 : @LT.lt Nat _ I D7 := hD7 (I, oI) (by simp only [List.mem_cons, true_or, or_true])
    refine qstC F15 N15 rfl (by simp only [List.mem_cons, true_or, or_true]) dB ?_
    intro h16 oB16 F16 dB16 N16
    have N16' := N16 ((I, oI) :: (D7, W.listOf ([Value.int (b.getD 0 0 + x) ta] ++ ys3 ++ [Value.int (b.getD (b.length - 1) 0 - x) tb]).toArray 0) :: (L' + 1, oT) :: (L' + 1 + 1 + 1, oN5) :: (L' + 1 + 1 + 1 + 1, oK7) :: (L' + 1 + 1 + 1 + 1 + 1, oU9) :: news) (by walk_at "off")
    refine wpAny_execs_nil ⟨h16, _, _, (L' + 1 + 1, oB16) :: (D7, W.listOf ([Value.int (b.getD 0 0 + x) ta] ++ ys3 ++ [Value.int (b.getD (b.length - 1) 0 - x) tb]).toArray 0) :: (L' + 1, oT) :: (L' + 1 + 1 + 1, oN5) :: (L' + 1 + 1 + 1 + 1, oK7) :: (L' + 1 + 1 + 1 + 1 + 1, oU9) :: news, oI, rfl, hlit, F16, news_sub N16' (by simp only [List.mem_cons]; grind), ?_, ?_, oB16, oN5, oK7, oU9, D7, 0, _, _, _, _, rfl, d1, dB16, dN5, dK7, dU9, ?_⟩
    · refine List.forall_mem_cons.mpr ⟨i1, List.forall_mem_cons.mpr ⟨Nat.ne_of_gt d2, List.forall_mem_cons.mpr ⟨i3, List.forall_mem_cons.mpr ⟨i4, List.forall_mem_cons.mpr ⟨i5, List.forall_mem_cons.mpr ⟨i6, ?_⟩⟩⟩⟩⟩⟩
      exact fun p hp => hnI p (by simp only [List.mem_cons, hp, or_true])
    · exact (if_neg (by decide)).trans z1
    · have e : ns.take (i + 1) = ns.take i ++ [x] := by rw [take_snoc _ hil, hxx]
      rw [e, bestF_snoc, hb]
      unfold bstep
      have hy3' : IntsAre ys3 ((List.range (b.length - 1)).map fun i => mx (b.getD (i + 1) 0 + x) (b.getD i 0 - x)) := by rw [← hvl]; exact hy3
      exact ints_snoc (IntsAre.append (.cons _ ta .nil) hy3') _ tb
  · rintro h4 tk4 m4 nw ⟨z1, oB, oN, oK, oU, B, nB, vsB, vN, vK, vU, rfl, hBL, dB, dN, dK, dU, hI⟩ F4 N4
    have hul := hU.length
    rw [show ns.take vs.length = ns by rw [hul]; exact List.take_length] at hI
    have hvl := hI.length
    rw [bestF_len] at hvl
    refine wpAny_execs_cons (wpAny_Return_some (Call_ (C'.bltX F4 rfl boot_max (by decide) (PyProof.Rows.callWith_builtin1 (args_cons (ListComp_T F4 rfl (by decide) rfl (by decide) rfl ?_))))))
    refine Call_ (C'.bltX F4 rfl boot_range (by decide) (PyProof.Rows.callWith_type1 (args_cons (Call_ (C'.bltX F4 rfl boot_len (by decide) (PyProof.Rows.callWith_builtin1 (args_cons (qldC N4 rfl (by simp only [List.mem_cons, true_or, or_true]) dB (args_nil (qlen (vs := vsB) (n := nB) N4 (by simp only [List.mem_cons, true_or, or_true]) (by omega) fun t2 _ => ?_))))))))))
    refine args_nil (qrange F4 N4 ?_)
    intro r h5 tk5 u1 u2 u3 F5 N5 hr5
    refine src_rangeT (b := vsB.length) (fun j ys nw => nw = (r, rngObj 0 (vsB.length : Int) 1 u1 u2 u3) :: (L' + 1 + 1, oB) :: (B, W.listOf vsB.toArray nB) :: (L' + 1, oT) :: (L' + 1 + 1 + 1, oN) :: (L' + 1 + 1 + 1 + 1, oK) :: (L' + 1 + 1 + 1 + 1 + 1, oU) :: news ∧
      IntsAre ys (((List.range j).filter fun k => decide (k ≤ times ∧ (times - k) % 2 = 0)).map fun k => (bestF ns).getD k 0)) C'.hh F5 N5 (.head _) (by omega) ⟨rfl, .nil⟩ ?_ ?_
    · rintro j t I' oI' C oC D ys nw m₂ h₁ tk₁ hj ⟨rfl, hys⟩ hC hx F N off ne
      refine isTrue_and (wpAny_isTrue_Compare1 (qce N (.tail _ (.head _)) hC hx (qceC N rfl (by simp only [List.mem_cons, true_or, or_true]) dT' (le_int (wpAny_truthy_bool ?_)))))
      by_cases hle : j ≤ times
      · rw [if_pos (by simpa using hle)]
        refine isTrue_and (wpAny_isTrue_Compare1 (wpAny_BinOp (wpAny_BinOp (qceC N rfl (by simp only [List.mem_cons, true_or, or_true]) dT' (qce N (.tail _ (.head _)) hC hx (qsub fun _ _ => (qint fun _ _ => (qmod (by decide) fun _ _ => ?_))))))))
        refine qint fun _ _ => (eq_int (wpAny_truthy_bool ?_))
        have hfm : ((times : Int) - (j : Int)).fmod 2 = (((times - j) % 2 : Nat) : Int) := by rw [Int.fmod_eq_emod_of_nonneg _ (by decide)]; omega
        rw [hfm]
        by_cases hpar : (times - j) % 2 = 0
        · rw [if_pos (by simp [hpar])]
          refine isTrue_and_nil ?_
          rw [if_pos rfl]
          obtain ⟨tb, eb⟩ := ints_at hI (i := j) (by rw [bestF_len]; omega)
          refine Subscript_ (qceC N rfl (by simp only [List.mem_cons, true_or, or_true]) dB (qce N (.tail _ (.head _)) hC hx (qitemO (lo := W.listOf vsB.toArray nB) (l := vsB) (n := nB) N (by simp only [List.mem_cons, true_or, or_true]) rfl (by omega) (by omega) (by omega) (by rw [Int.toNat_natCast]; exact eb) ?_)))
          refine ⟨h₁, _, _, rfl, F, N, off, rfl, ?_⟩
          rw [List.range_succ, List.filter_append, List.map_append]
          have e1 : ([j].filter fun k => decide (k ≤ times ∧ (times - k) % 2 = 0)) = [j] := by simp [hle, hpar]
          rw [e1]
          exact ints_snoc hys _ _
        · rw [if_neg (by simp; omega), if_neg (by simp)]
          refine ⟨h₁, _, _, rfl, F, N, off, rfl, ?_⟩
          rw [List.range_succ, List.filter_append, List.map_append]
          have e1 : ([j].filter fun k => decide (k ≤ times ∧ (times - k) % 2 = 0)) = [] := by simp [hpar]
          rw [e1]
          simpa using hys
      · rw [if_neg (by simpa using hle), if_neg (by simp)]
        refine ⟨h₁, _, _, rfl, F, N, off, rfl, ?_⟩
        rw [List.range_succ, List.filter_append, List.map_append]
        have e1 : ([j].filter fun k => decide (k ≤ times ∧ (times - k) % 2 = 0)) = [] := by simp [hle]
        rw [e1]
        simpa using hys
    rintro g1 ys1 nw ⟨rfl, hy1⟩ D1 h6 tk6 F6 N6 off6
    have hy1' : IntsAre ys1 (candF (bestF ns) times) := by unfold candF; rw [bestF_len, ← hvl]; exact hy1
    refine args_nil (qmaxL (s := s) (h := h6) (tk := tk6) C'.hh F6 N6 (.head _) (n := ys1.length) rfl hy1' hne ?_)
    intro h7 M t7 tk7 F7 N7 hM1 hM2
    exact ⟨_, _, _, _, _, rfl, F7, N7, fun Fh Nh => hq _ _ _ _ Fh (news_sub Nh (fun p hp => by simp only [List.mem_cons, hp, or_true])) hM1 hM2⟩
end
end Mine
namespace Mine
/-- the sum of a row with so many of its numbers' signs turned -/
inductive Flip : List Int → Nat → Int → Prop
  | nil : Flip [] 0 0
  | keep {n : Int} {ns : List Int} {j : Nat} {t u : Int} : Flip ns j t → u = n + t → Flip (n :: ns) j u
  | turn {n : Int} {ns : List Int} {j : Nat} {t u : Int} : Flip ns j t → u = -n + t → Flip (n :: ns) (j + 1) u
theorem Flip.len {ns : List Int} {j : Nat} {t : Int} (h : Flip ns j t) : j ≤ ns.length := by
  induction h with
  | nil => simp
  | keep _ _ ih => simp; omega
  | turn _ _ ih => simp; omega
theorem Flip.perm {ns ms : List Int} (p : ns.Perm ms) : ∀ {j : Nat} {t : Int}, Flip ns j t → Flip ms j t := by
  induction p with
  | nil => exact fun h => h
  | cons x _ ih =>
    intro j t h
    cases h with
    | keep h e => exact .keep (ih h) e
    | turn h e => exact .turn (ih h) e
  | swap x y l =>
    intro j t h
    cases h with
    | keep h e =>
      cases h with
      | keep h e2 => exact .keep (.keep h rfl) (by omega)
      | turn h e2 => exact .turn (.keep h rfl) (by omega)
    | turn h e =>
      cases h with
      | keep h e2 => exact .keep (.turn h rfl) (by omega)
      | turn h e2 => exact .turn (.turn h rfl) (by omega)
  | trans _ _ ih1 ih2 => exact fun h => ih2 (ih1 h)
theorem perm_sum {a b : List Int} (p : a.Perm b) : a.sum = b.sum := by
  induction p with
  | nil => rfl
  | cons x _ ih => simp [ih]
  | swap x y l => simp; omega
  | trans _ _ h1 h2 => rw [h1, h2]
theorem Flip.zero (ns : List Int) : Flip ns 0 ns.sum := by
  induction ns with
  | nil => exact .nil
  | cons n r ih => exact .keep ih (by simp)
theorem Flip.of_zero {ns : List Int} {t : Int} (h : Flip ns 0 t) : t = ns.sum := by
  induction ns generalizing t with
  | nil => cases h; rfl
  | cons n r ih =>
    cases h with
    | keep h e => rw [e, ih h]; simp
theorem Flip.unturn {ns : List Int} {j : Nat} {t : Int} (h : Flip ns (j + 1) t) : ∃ q ∈ ns, Flip ns j (t + 2 * q) := by
  induction ns generalizing j t with
  | nil => cases h
  | cons n r ih =>
    cases h with
    | keep h e =>
      obtain ⟨q, hq, hf⟩ := ih h
      exact ⟨q, .tail _ hq, .keep hf (by omega)⟩
    | turn h e => exact ⟨n, .head _, .keep h (by omega)⟩
/-! the table -/
theorem bstep_zero (b : List Int) (n : Int) : (bstep b n).getD 0 0 = b.getD 0 0 + n := by unfold bstep; simp
theorem bstep_mid (b : List Int) (n : Int) (j : Nat) (hj : j + 1 < b.length) : (bstep b n).getD (j + 1) 0 = mx (b.getD (j + 1) 0 + n) (b.getD j 0 - n) := by
  unfold bstep
  simp only [List.cons_append, List.getD_cons_succ]
  rw [List.getD_eq_getElem?_getD, List.getElem?_append_left (by simp; omega)]
  simp [(by omega : j < b.length - 1)]
theorem bstep_last (b : List Int) (n : Int) (hb : 0 < b.length) : (bstep b n).getD b.length 0 = b.getD (b.length - 1) 0 - n := by
  unfold bstep
  obtain ⟨k, hk⟩ : ∃ k, b.length = k + 1 := ⟨b.length - 1, by omega⟩
  rw [hk]
  simp only [List.cons_append, List.getD_cons_succ]
  rw [List.getD_eq_getElem?_getD, List.getElem?_append_right (by simp)]
  simp
theorem best_spec (ns : List Int) : ∀ j, j ≤ ns.length → Flip ns j ((bestF ns).getD j 0) ∧ ∀ t, Flip ns j t → t ≤ (bestF ns).getD j 0 := by
  induction hk : ns.length generalizing ns with
  | zero =>
    intro j hj
    have e : ns = [] := List.length_eq_zero_iff.mp hk
    subst e
    have : j = 0 := by omega
    subst this
    exact ⟨.nil, fun t h => by cases h; decide⟩
  | succ k ih =>
    intro j hj
    have hne : ns ≠ [] := by intro e; subst e; simp at hk
    obtain ⟨ms, n, rfl⟩ : ∃ ms n, ns = ms ++ [n] := ⟨ns.dropLast, ns.getLast hne, (List.dropLast_concat_getLast hne).symm⟩
    have hml : ms.length = k := by simp at hk; exact hk
    have ih' := ih ms hml
    have bl : (bestF ms).length = k + 1 := by rw [bestF_len, hml]
    rw [bestF_snoc]
    generalize hb : bestF ms = b at *
    have pm : (n :: ms).Perm (ms ++ [n]) := (List.perm_append_singleton n ms).symm
    by_cases h0 : j = 0
    · subst h0
      rw [bstep_zero]
      obtain ⟨a1, a2⟩ := ih' 0 (by omega)
      refine ⟨Flip.perm pm (.keep a1 (by omega)), fun t h => ?_⟩
      have h' := Flip.perm pm.symm h
      cases h' with
      | keep h e => have := a2 _ h; omega
    · obtain ⟨i, rfl⟩ : ∃ i, j = i + 1 := ⟨j - 1, by omega⟩
      obtain ⟨c1, c2⟩ := ih' i (by omega)
      by_cases hl : i + 1 < b.length
      · rw [bstep_mid _ _ _ hl]
        obtain ⟨a1, a2⟩ := ih' (i + 1) (by omega)
        refine ⟨Flip.perm pm ?_, fun t h => ?_⟩
        · unfold mx
          split
          · exact .turn c1 (by omega)
          · exact .keep a1 (by omega)
        · have h' := Flip.perm pm.symm h
          unfold mx
          cases h' with
          | keep h e => have := a2 _ h; split <;> omega
          | turn h e => have := c2 _ h; split <;> omega
      · have hi : i = k := by omega
        subst hi
        have e1 := bstep_last b n (by omega)
        rw [bl] at e1
        rw [e1]
        simp only [Nat.add_sub_cancel]
        refine ⟨Flip.perm pm (.turn c1 (by omega)), fun t h => ?_⟩
        have h' := Flip.perm pm.symm h
        cases h' with
        | keep h e => have := h.len; omega
        | turn h e => have := c2 _ h; omega
theorem cand_mem (b : List Int) (k : Nat) (a : Int) : a ∈ candF b k ↔ ∃ j, j < b.length ∧ j ≤ k ∧ (k - j) % 2 = 0 ∧ a = b.getD j 0 := by
  unfold candF
  simp only [List.mem_map, List.mem_filter, List.mem_range, decide_eq_true_eq]
  constructor
  · rintro ⟨j, ⟨h1, h2, h3⟩, rfl⟩; exact ⟨j, h1, h2, h3, rfl⟩
  · rintro ⟨j, h1, h2, h3, rfl⟩; exact ⟨j, ⟨h1, h2, h3⟩, rfl⟩
theorem cand_ne (ns : List Int) (k : Nat) (h : 1 ≤ ns.length) : 0 < (candF (bestF ns) k).length := by
  refine List.length_pos_of_mem ((cand_mem _ _ _).mpr ⟨k % 2, by rw [bestF_len]; omega, by omega, by omega, rfl⟩)
/-! the greedy way -/
inductive Turn2 : Nat → List Int → List Int → Prop
  | zero {a b : List Int} : b.Perm a → Turn2 0 a b
  | step {k : Nat} {a b c r : List Int} {x : Int} : a.Perm (x :: r) → (∀ y ∈ a, x ≤ y) → b.Perm (-x :: r) → Turn2 k b c → Turn2 (k + 1) a c
theorem Turn2.snoc {k : Nat} {a b c r : List Int} {x : Int} (h : Turn2 k a b) (h1 : b.Perm (x :: r)) (h2 : ∀ y ∈ b, x ≤ y) (h3 : c.Perm (-x :: r)) : Turn2 (k + 1) a c := by
  induction h with
  | zero p => exact .step (p.symm.trans h1) (fun y hy => h2 y (p.mem_iff.mpr hy)) (.refl _) (.zero h3)
  | step p q s _ ih => exact .step p q s (ih h1 h2)
theorem Turned.two {k : Nat} {a b : List Int} (h : Turned k a b) : Turn2 k a b := by
  induction h with
  | zero p => exact .zero p
  | step _ h1 h2 h3 ih => exact ih.snoc h1 h2 h3
theorem Turn2.made {k : Nat} {a c : List Int} (h : Turn2 k a c) : ∃ j, j ≤ k ∧ (k - j) % 2 = 0 ∧ Flip a j c.sum := by
  induction h with
  | zero p => exact ⟨0, Nat.le_refl _, rfl, by rw [perm_sum p]; exact Flip.zero _⟩
  | step p q s _ ih =>
    obtain ⟨j, h1, h2, h3⟩ := ih
    have h4 := Flip.perm s h3
    cases h4 with
    | keep h e => exact ⟨j + 1, by omega, by omega, Flip.perm p.symm (.turn h (by omega))⟩
    | @turn _ _ j' _ _ h e => exact ⟨j', by omega, by omega, Flip.perm p.symm (.keep h (by omega))⟩
theorem Turn2.most {k : Nat} {a c : List Int} (h : Turn2 k a c) : ∀ j t, j ≤ k → (k - j) % 2 = 0 → Flip a j t → t ≤ c.sum := by
  induction h with
  | zero p =>
    intro j t h1 _ h3
    have : j = 0 := by omega
    subst this
    rw [h3.of_zero, perm_sum p]; exact Int.le_refl _
  | @step k a b c r x p q s _ ih =>
    intro j t h1 h2 h3
    have h4 := Flip.perm p h3
    cases h4 with
    | @turn _ _ j' _ _ h e =>
      exact ih j' t (by omega) (by omega) (Flip.perm s.symm (.keep h (by omega)))
    | keep h e =>
      by_cases hj : j + 1 ≤ k
      · exact ih (j + 1) t hj (by omega) (Flip.perm s.symm (.turn h (by omega)))
      · have hj' : j = k + 1 := by omega
        subst hj'
        obtain ⟨z, hz, hf⟩ := h.unturn
        have hx := q z (p.mem_iff.mpr (.tail _ hz))
        have := ih k _ (Nat.le_refl _) (by omega) (Flip.perm s.symm (.keep hf rfl))
        omega
theorem law_sum {k : Nat} {a c : List Int} {M : Int} (h : Turned k a c) (h1 : M ∈ candF (bestF a) k) (h2 : ∀ x ∈ candF (bestF a) k, x ≤ M) : c.sum = M := by
  obtain ⟨j, hl, hj, hp, rfl⟩ := (cand_mem _ _ _).mp h1
  rw [bestF_len] at hl
  have a1 := h.two.most j _ hj hp (best_spec a j (by omega)).1
  obtain ⟨i, hi, hpi, hf⟩ := h.two.made
  have hil := hf.len
  have a2 := (best_spec a i hil).2 _ hf
  have a3 := h2 _ ((cand_mem _ _ _).mpr ⟨i, by rw [bestF_len]; omega, hi, hpi, rfl⟩)
  omega
theorem law_abs {k : Nat} {a c : List Int} (f : Int → Int) (hf : ∀ x, f (-x) = f x) (h : Turned k a c) : (c.map f).Perm (a.map f) := by
  induction h with
  | zero p => exact p.map f
  | step _ h1 _ h3 ih =>
    refine (h3.map f).trans (.trans ?_ ih)
    refine .trans ?_ (h1.map f).symm
    simp [hf]
end Mine
namespace Mine
open PySem.Calls
theorem Turned.len {k : Nat} {a b : List Int} (h : Turned k a b) : b.length = a.length := by
  induction h with
  | zero h => exact h.length_eq
  | step _ h1 _ h2 ih => rw [← ih, h1.length_eq, h2.length_eq]; simp
section
variable {prog : Program} {w : World} {A A₀ : Around} {E : Value → Shared → Prop} {S : Shared} {L l : Addr} {h₀ base : Heap} {m mg mb : Str → Option Value} {env : Env} {outer : List Env} {p : Program} {loose : List Str} {mean : ExcName → Option Value} {Q : Value → Shared → Prop} {vs : List Value} {news : List (Addr × Obj)} {n : Nat}
theorem lt_callK {k : Int} {tt : Tok} {ns : List Int} (B : Below A₀ base outer h₀) (F : Fr h₀ L S.heap m) (X : (KK w).In h₀) (N : News h₀ L S.heap news) (T : Top p loose mean mg mb h₀) (hA : A.frames = some (env :: outer)) (hf : env.frame = some L) (hke : env.scope.kind = .function) (hh : A.handled = none)
    (hd : A.depth + 10 < recursionLimit) (hm : (l, W.listOf vs.toArray n) ∈ news) (hU : IntsAre vs ns) (hlen : 1 ≤ ns.length ∧ ns.length ≤ 100) (hk : 0 ≤ k ∧ k < 100)
    (hq : ∀ D vs' ns' h' tk' n', Fr h₀ L h' m → News h₀ L h' ((D, W.listOf vs'.toArray n') :: news) → (∀ p ∈ news, p.1 < D) → IntsAre vs' ns' → Turned k.toNat ns ns' → ns'.length = ns.length → Q (.ref D) { S with heap := h', toks := tk' }) :
    wpAny (model prog w) A (call (.ref 49) [.ref l, .int k tt]) Q E S := by
  have C : Cx (KK w) A env L h₀ := ⟨⟨A₀, base, outer, p, loose, mean, mg, mb, B, T, hA⟩, X, hf, hke, hh⟩
  obtain ⟨t, rfl⟩ := Int.eq_ofNat_of_zero_le hk.1
  have hl := hU.length
  exact lt_call (s := S) (h := S.heap) (tk := S.toks) (times := t) C F N hm hd (by omega) (by omega) (by omega) hU fun h' tk' D vs' ns' n' F' N' hD hI hT => hq D vs' ns' h' tk' n' F' N' hD hI hT hT.len
theorem lg_callK {k : Int} {tt : Tok} {ns c : List Int} (B : Below A₀ base outer h₀) (F : Fr h₀ L S.heap m) (X : (KK w).In h₀) (N : News h₀ L S.heap news) (T : Top p loose mean mg mb h₀) (hA : A.frames = some (env :: outer)) (hf : env.frame = some L) (hke : env.scope.kind = .function) (hh : A.handled = none)
    (hd : A.depth + 10 < recursionLimit) (hm : (l, W.listOf vs.toArray n) ∈ news) (hU : IntsAre vs ns) (hlen : 1 ≤ ns.length ∧ ns.length ≤ 100) (hk : 0 ≤ k ∧ k < 100) (hT : Turned k.toNat ns c)
    (hq : ∀ h' tk' t, Fr h₀ L h' m → News h₀ L h' news → Q (.int c.sum t) { S with heap := h', toks := tk' }) :
    wpAny (model prog w) A (call (.ref 54) [.ref l, .int k tt]) Q E S := by
  have C : Cx (KK w) A env L h₀ := ⟨⟨A₀, base, outer, p, loose, mean, mg, mb, B, T, hA⟩, X, hf, hke, hh⟩
  obtain ⟨t, rfl⟩ := Int.eq_ofNat_of_zero_le hk.1
  have hl := hU.length
  exact lg_call (s := S) (h := S.heap) (tk := S.toks) (times := t) C F N hm hd (by omega) (by omega) hU (cand_ne _ _ hlen.1) fun h' tk' M t' F' N' h1 h2 => by
    rw [← law_sum hT h1 h2]
    exact hq h' tk' t' F' N'
theorem so_K {ns : List Int} (F : Fr h₀ L S.heap m) (N : News h₀ L S.heap news) (hm : (l, W.listOf vs.toArray n) ∈ news) (hI : IntsAre vs ns) (h64 : ns.length < 64)
    (h : ∀ D vs' ns' e h', Fr h₀ L h' m → News h₀ L h' ((D, W.listOf (List.toArray vs') e) :: news) → (∀ p ∈ news, p.1 < D) → IntsAre vs' ns' → ns'.Perm ns → ns'.Pairwise (· ≤ ·) → ns'.length = ns.length → Q (.ref D) { S with heap := h' }) :
    wpAny (model prog w) A (call (.builtin "sorted") [.ref l]) Q E S := by
  have hl := hI.length
  exact sorted_N F N (PySem.IsL.isList (n := n) (N _ hm).1) hI (by omega) fun h' vs' ns' e F' N' a b c => h _ vs' ns' e h' F' N' (fun p hp => Nat.lt_succ_of_lt (Heap.lt_size (N p hp).1)) a b c b.length_eq
end
theorem same_sorted {k : Nat} {a c x y : List Int} (hT : Turned k a c) (p1 : x.Perm (c.map fun k' => if k' < 0 then -k' else k')) (s1 : x.Pairwise (· ≤ ·)) (p2 : y.Perm (a.map fun k' => if k' < 0 then -k' else k')) (s2 : y.Pairwise (· ≤ ·)) : y = x := by
  have hp := law_abs (fun k' => if k' < 0 then -k' else k') (by intro x; split <;> split <;> omega) hT
  exact (p2.trans (hp.symm.trans p1.symm)).eq_of_pairwise (le := (· ≤ ·)) (fun a b _ _ h1 h2 => Int.le_antisymm h1 h2) s2 s1
local macro_rules | `(tactic| walk_at "call builtin:sorted") => `(tactic| (k_here; (with_reducible show wpAny _ _ (call (Value.builtin "sorted") [Value.ref _]) _ _ _); k_dflt (refine' so_K ?k1 ?k2 ?k3 ?k4 ?k5 ?_; (case k1 => k_asm); (case k2 => k_asm); (case k3 => k_mem); (case k4 => with_reducible assumption); (case k5 => ((simp only [List.length_map, List.length_append, List.length_cons, List.length_nil, List.length_take, List.length_drop] at *); omega)); k_whole); intro D' us' ns' e' h' F' N' l1 hI' p' s' hL'; (try k_lt l1); (try (have q' := same_sorted (by assumption) (by assumption) (by assumption) p' s'; subst q'; clear p' s')); (try k_sweep)))
local macro_rules | `(tactic| walk_at "call ref") => `(tactic| (k_here; (with_reducible show wpAny _ _ (call (Value.ref 54) _) _ _ _); k_dflt (refine' lg_callK ?k1 ?k2 ?k3 ?k4 ?k5 ?kA ?kF ?kK ?kH ?k6 ?k7 ?k8 ?k9 ?k10 ?k11 ?_; (case kA => exact rfl); (case kF => exact rfl); (case kK => exact rfl); (case kH => exact rfl); (case k1 => k_asm); (case k2 => k_asm); (case k3 => k_asm); (case k4 => k_asm); (case k5 => k_asm); (case k6 => (simp only [depth_deeper, depth_caller]; decide)); (case k7 => k_mem); (case k8 => l_ints); (case k9 => (simp only [List.length_append, List.length_cons, List.length_nil, List.length_take, List.length_drop]; omega)); (case k10 => l_fact); (case k11 => assumption); k_whole); intro h' tk' t' F' N'; (try k_sweep)))
local macro_rules | `(tactic| walk_at "call ref") => `(tactic| (k_here; (with_reducible show wpAny _ _ (call (Value.ref 49) _) _ _ _); k_dflt (refine' lt_callK ?k1 ?k2 ?k3 ?k4 ?k5 ?kA ?kF ?kK ?kH ?k6 ?k7 ?k8 ?k9 ?k10 ?_; (case kA => exact rfl); (case kF => exact rfl); (case kK => exact rfl); (case kH => exact rfl); (case k1 => k_asm); (case k2 => k_asm); (case k3 => k_asm); (case k4 => k_asm); (case k5 => k_asm); (case k6 => (simp only [depth_deeper, depth_caller]; decide)); (case k7 => k_mem); (case k8 => l_ints); (case k9 => (simp only [List.length_append, List.length_cons, List.length_nil, List.length_take, List.length_drop]; omega)); (case k10 => l_fact); k_whole); intro D' ws' ns' h' tk' c' F' N' l1 hI' hT' hL'; (try k_lt l1); (try k_sweep)))
set_option maxHeartbeats 8000000 in
theorem law_holds : PySem.Challenge.rw_mj0019_01.Holds := hd (by w_strict k_go)
end Mine
theorem PySem.Challenge.cw_mj0019_01_holds : PySem.Challenge.rw_mj0019_01.Holds := by
  exact Mine.law_holds
