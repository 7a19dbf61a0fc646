import PyProof.Rows.All
import Wide.All
import OpenK.AllK
import Wide.FinOn
import PyProof.FactsAll.range_2
import PyProof.FactsAll.tuple_2
import PySem.Challenge.RW_mj0019_02
open PySem PySem.W PyProof.Rows
set_option Elab.async false
set_option maxRecDepth 100000
set_option linter.unusedVariables false
set_option linter.unusedSimpArgs false
namespace Mine
set_option maxHeartbeats 8000000 in
open_top hd for PySem.Challenge.rw_mj0019_02
end Mine
namespace Mine
open PySem.Calls
/-- the state, with another heap and count of tokens -/
def St (s : Shared) (h : Heap) (tk : Nat) : Shared := { s with heap := h, toks := tk }

structure Cx (K : Frag) (A : Around) (env : Env) (L : Addr) (h₀ : Heap) : Prop where
  top : ∃ A₀ base outer p loose mean mg mb, Below A₀ base outer h₀ ∧ Top p loose mean mg mb h₀ ∧ A.frames = some (env :: outer)
  X : K.In h₀
  hf : env.frame = some L
  hke : env.scope.kind = .function
  hh : A.handled = none

def Back (s : Shared) (h₀ : Heap) (L : Addr) (m : Str → Option Value) (g : Heap) (Q : Value → Shared → Prop) (v : Value) (s' : Shared) : Prop :=
  ∃ h' tk' L' m' news', s' = St s h' tk' ∧ Fr g L' h' m' ∧ News g L' h' news' ∧ (Fr h₀ L h' m → News h₀ L h' news' → Q v (St s h' tk'))

def flowVal : Flow → Value
  | .ret v => v
  | _ => .none

section
variable {prog : Program} {w : World} {A : Around} {E : Value → Shared → Prop} {s : Shared} {h : Heap} {tk : Nat} {K : Frag} {L : Addr} {h₀ : Heap} {m : Str → Option Value} {news : List (Addr × Obj)} {env : Env} {Q : Value → Shared → Prop}

theorem enter {name qual : Str} {params : Arguments} {body : List Stmt} {scope : Scope} {dV kV doc pm cdv ct oc : Value} {an od : Option Addr} {osl : Array (Option Value)} {f : Addr} {vals : List Value} {binds : List (Str × Value)}
    (C : Cx K A env L h₀) (F : Fr h₀ L h m) (N : News h₀ L h news)
    (ho : K.lookup f = some ⟨oc, od, .func (fnOf name qual params body scope dV kV doc pm an cdv ct), osl⟩) (hcd : codeIn K cdv qual = true) (hroom : A.depth < recursionLimit)
    (hbind : BindsTo (St s h tk) (fnOf name qual params body scope dV kV doc pm an cdv ct) ⟨vals, []⟩ binds) (hloc : ∀ y ∈ binds, scope.names.lookup y.1 = some .local)
    (hb : ∀ g L' h₁ tk' m', Cx K (A.deeper (envOf qual scope L' f cdv)) (envOf qual scope L' f cdv) L' g → Fr g L' h₁ m' → News g L' h₁ news → (∀ y, m' y = binds.reverse.lookup y) →
      wpAny (model prog w) (A.deeper (envOf qual scope L' f cdv)) (execs body (envOf qual scope L' f cdv))
        (fun fl s' => Back s h₀ L m g Q (flowVal fl) s') (fun _ _ => False) (St s h₁ tk'))
    (hco : scope.isCoroutine = false) (hgen : scope.isGenerator = false) (hk : scope.kind = .function)
    (hcell : ∀ x ∈ scope.names, x.2 ≠ .cell) : wpAny (model prog w) A (call (.ref f) vals) Q E (St s h tk) := by
  obtain ⟨A₀, base, outer, p, loose, mean, mg, mb, B, T, hA⟩ := C.top
  refine wpAny_call (code_def (s := St s h tk) B F C.X N T hA C.hf C.hke ho hcd hroom hbind hloc ?_ hco hgen hk hcell)
  intro g L' h₁ FG F' N' B' X' T'
  refine wpAny_mono (hb g L' h₁ _ _ ⟨⟨A, base, env :: outer, p, loose, mean, mg, mb, B', T', ?_⟩, X', rfl, hk, C.hh⟩ F' N' fun _ => rfl) ?_ (fun _ _ x => x.elim)
  · show A.frames.map _ = _
    rw [hA]; rfl
  · rintro fl s' ⟨h2, t2, L2, m2, n2, rfl, a, b, c⟩
    refine ⟨L2, m2, n2, a, b, fun x y => ?_⟩
    have := c x y
    cases fl <;> exact this

theorem Cx.glob {x : Str} {pos : Pos} {v : Value} {a : Addr} {cn : Str} {cs : Scope} {ccd : Value} (C : Cx K A (envOf cn cs L a ccd) L h₀) (F : Fr h₀ L h m) (e : nsIn K mainGlobals x = some (some v)) (hq : Q v (St s h tk))
    (hk : cs.kind = .function := by rfl) (hx : (envOf cn cs L a ccd).kindOf x = some .globalImplicit := by rfl) (hd : (x == ("__debug__" : Str)) = false := by decide) :
    wpAny (model prog w) A (eval (.Name x pos) (envOf cn cs L a ccd)) Q E (St s h tk) := by
  obtain ⟨A₀, base, outer, p, loose, mean, mg, mb, B, T, hA⟩ := C.top
  exact name_K F C.X (topRead_of T) e hq hk hx hd
theorem Cx.blt {x : Str} {pos : Pos} {v : Value} {a : Addr} {cn : Str} {cs : Scope} {ccd : Value} (C : Cx K A (envOf cn cs L a ccd) L h₀) (F : Fr h₀ L h m) (e : nsIn K mainGlobals x = some none) (hv : bootBuiltins x = some v) (hn : x ≠ "__name__") (hq : Q v (St s h tk))
    (hk : cs.kind = .function := by rfl) (hx : (envOf cn cs L a ccd).kindOf x = some .globalImplicit := by rfl) (hd : (x == ("__debug__" : Str)) = false := by decide) :
    wpAny (model prog w) A (eval (.Name x pos) (envOf cn cs L a ccd)) Q E (St s h tk) := by
  obtain ⟨A₀, base, outer, p, loose, mean, mg, mb, B, T, hA⟩ := C.top
  exact name_B F C.X (topRead_of T) e hv hn hq hk hx hd
theorem qld {x : Str} {pos : Pos} {v : Value} {a : Addr} {cn : Str} {cs : Scope} {ccd : Value} (F : Fr h₀ L h m) (hv : m x = some v) (hq : Q v (St s h tk))
    (hk : cs.kind = .function := by rfl) (hl : (envOf cn cs L a ccd).kindOf x = some .local := by rfl)
    (hd : (x == ("__debug__" : Str)) = false := by decide) :
    wpAny (model prog w) A (eval (.Name x pos) (envOf cn cs L a ccd)) Q E (St s h tk) := ld (s := St s h tk) F hv hq hk hl hd
theorem qst {x : Str} {v : Value} {a : Addr} {cn : Str} {cs : Scope} {ccd : Value} {Q : Unit → Shared → Prop} (F : Fr h₀ L h m) (N : News h₀ L h news)
    (hq : ∀ h' m' tk', Fr h₀ L h' m' → News h₀ L h' news → m' x = some v → (∀ y, (y == x) = false → m' y = m y) → Q () (St s h' tk'))
    (hk : cs.kind = .function := by rfl) (hl : (envOf cn cs L a ccd).kindOf x = some .local := by rfl) :
    wpAny (model prog w) A (storeName (envOf cn cs L a ccd) x v) Q E (St s h tk) :=
  stN (s := St s h tk) F N (fun h' F' N' => hq h' _ _ F' N' (if_pos rfl) fun y hy => if_neg (by simpa using hy)) hk hl
theorem qint {i : Int} {k : Nat} {pos : Pos} (hq : ∀ t tk', Q (.int i t) (St s h tk')) : wpAny (model prog w) A (eval (.Constant (.int i) k pos) env) Q E (St s h tk) := wpAny_Constant_int (hq _ _)
theorem qadd {a b : Int} {t u : Tok} (hq : ∀ t tk', Q (.int (a + b) t) (St s h tk')) : wpAny (model prog w) A (binaryOp .Add (.int a t) (.int b u)) Q E (St s h tk) := add_int (hq _ _)
theorem qsub {a b : Int} {t u : Tok} (hq : ∀ t tk', Q (.int (a - b) t) (St s h tk')) : wpAny (model prog w) A (binaryOp .Sub (.int a t) (.int b u)) Q E (St s h tk) := sub_int (hq _ _)
theorem qmul {a b : Int} {t u : Tok} (hm : IntMulOk a b) (hq : ∀ t tk', Q (.int (a * b) t) (St s h tk')) : wpAny (model prog w) A (binaryOp .Mult (.int a t) (.int b u)) Q E (St s h tk) := mul_int (hq _ _) hm
theorem qshr {a b : Int} {t u : Tok} (hb : 0 ≤ b) (hq : ∀ t tk', Q (.int (a.fdiv (2 ^ b.toNat)) t) (St s h tk')) : wpAny (model prog w) A (binaryOp .RShift (.int a t) (.int b u)) Q E (St s h tk) := rshift_int hb (hq _ _)
theorem qlen {l : Addr} {vs : List Value} {n : Nat} (N : News h₀ L h news) (hm : (l, W.listOf vs.toArray n) ∈ news) (hz : vs.length ≤ 16384) (hq : ∀ t tk', Q (.int vs.length t) (St s h tk')) :
    wpAny (model prog w) A (call (.builtin "len") [.ref l]) Q E (St s h tk) :=
  kun_lenL (s := St s h tk) (PySem.IsL.isList (n := n) (N _ hm).1) (by simp) (by omega) (hq _ _)

variable {l : Addr} {vs : List Value} {rest : List (Addr × Obj)} {n : Nat} {k : Int} {t : Tok} {x : Value}
theorem qitem {value slice : PySem.Expr} (N : News h₀ L h news) (hm : (l, W.listOf vs.toArray n) ∈ news) (h0 : 0 ≤ k) (h1 : k < vs.length) (hfit : vs.length < 2 ^ 20) (hx : vs[k.toNat]? = some x) (hq : Q x (St s h tk))
    (hs : subscripted slice false (.ref l) (.int k t) = operate [.ref l, .int k t] (getItem (.ref l) (.int k t)) := by with_unfolding_all rfl) :
    wpAny (model prog w) A (subscriptTail value slice (.ref l) (.int k t)) Q E (St s h tk) :=
  have hl : (St s h tk).heap.IsList l vs.toArray := PySem.IsL.isList (n := n) (N _ hm).1
  tail_any hl.typeIs slot_list_getitem.lookup (wpAny_getItem_list hl h0 (by omega) (by simpa using hx) hq) hs

theorem qset {Q : Unit → Shared → Prop} (F : Fr h₀ L h m) (N : News h₀ L h ((l, W.listOf vs.toArray n) :: rest)) (hr : ∀ p ∈ rest, p.1 ≠ l) (h0 : 0 ≤ k) (h1 : k < vs.length) (hfit : vs.length < 2 ^ 20)
    (hq : ∀ h', Fr h₀ L h' m → News h₀ L h' ((l, W.listOf (vs.set k.toNat x).toArray n) :: rest) → Q () (St s h' tk)) :
    wpAny (model prog w) A (setItem (.ref l) (.int k t) x) Q E (St s h tk) := by
  have z := N (l, W.listOf vs.toArray n) (.head _)
  refine ki_setAt (s := St s h tk) z.1 h0 (by omega) (by simpa using h1) (hq _ (F.change (Heap.SameBut.update ..) z.2.1 z.2.2) ?_)
  refine ki_turn (pre := []) (n := n) (n' := n) _ N (fun _ hp => nomatch hp) hr ?_ ?_
  · show vs.toArray.setIfInBounds k.toNat x = (vs.set k.toNat x).toArray
    apply Array.toList_inj.mp
    simp
  · simp

def WStep (h₀ : Heap) (L : Addr) (s : Shared) (J : Nat → (Str → Option Value) → List (Addr × Obj) → Prop) (Q : Flow → Shared → Prop) (n : Nat) (f : Flow) (s₃ : Shared) : Prop :=
  match f with
  | .next | .cont => ∃ h' tk m₂ news₂ n', s₃ = St s h' tk ∧ Fr h₀ L h' m₂ ∧ News h₀ L h' news₂ ∧ n' < n ∧ J n' m₂ news₂
  | .brk => Q .next s₃
  | .ret v => Q (.ret v) s₃
theorem qwhile {test : PySem.Expr} {body : List Stmt} {pos : Pos} {Q : Flow → Shared → Prop} (J : Nat → (Str → Option Value) → List (Addr × Obj) → Prop) (n₀ : Nat)
    (F : Fr h₀ L h m) (N : News h₀ L h news) (hJ : J n₀ m news)
    (turn : ∀ n m₁ news₁ h₁ tk₁, Fr h₀ L h₁ m₁ → News h₀ L h₁ news₁ → J n m₁ news₁ →
      wpAny (model prog w) A (isTrue test env (eval test env)) (fun b s₂ =>
        if b = true then wpAny (model prog w) A (execs body env) (WStep h₀ L s J Q n) (fun _ _ => False) s₂ else Q .next s₂) (fun _ _ => False) (St s h₁ tk₁)) :
    wpAny (model prog w) A (exec (.While test body [] pos) env) Q (fun _ _ => False) (St s h tk) := by
  refine While_inv2 (s := St s h tk) J F N hJ ?_ PassesOwn.never
  intro k m₁ news₁ h₁ tk₁ a b c
  refine wpAny_mono (turn k m₁ news₁ h₁ tk₁ a b c) (fun bb s2 p => ?_) fun _ _ x => x
  cases bb with
  | false => simpa using p
  | true =>
    simp only [if_true] at p ⊢
    refine wpAny_mono p (fun f s₃ q => ?_) fun _ _ x => x
    cases f <;> exact q

def FStep (h₀ : Heap) (L I : Addr) (s : Shared) (P : Obj → Prop) (J : (Str → Option Value) → List (Addr × Obj) → Prop) (Q : Flow → Shared → Prop) (f : Flow) (s₃ : Shared) : Prop :=
  match f with
  | .next | .cont => ∃ h' tk m₂ news₂ o, s₃ = St s h' tk ∧ P o ∧ Fr h₀ L h' m₂ ∧ News h₀ L h' ((I, o) :: news₂) ∧ (∀ p ∈ news₂, p.1 ≠ I) ∧ J m₂ news₂
  | .brk => Q .next s₃
  | .ret v => Q (.ret v) s₃
theorem qfor {x : Str} {px : Pos} {body : List Stmt} {I a : Addr} {cn : Str} {cs : Scope} {ccd : Value} {o : Obj} {Q : Flow → Shared → Prop} (cnt : Nat) (P : Nat → Obj → Prop) (V : Nat → Value → Prop) (J : Nat → (Str → Option Value) → List (Addr × Obj) → Prop)
    (F : Fr h₀ L h m) (N : News h₀ L h ((I, o) :: news)) (hn : ∀ p ∈ news, p.1 ≠ I) (hP : P 0 o) (hJ : J 0 m news)
    (nxt : ∀ i h₁ tk₁ o₁ news₁ m₁ (Q : Option Value → Shared → Prop), i < cnt → h₁.get? I = some o₁ → P i o₁ → News h₀ L h₁ news₁ → J i m₁ news₁ →
      (∀ v h' o' tk', V i v → h'.get? I = some o' → P (i + 1) o' → Heap.SameBut I h₁ h' → Q (some v) (St s h' tk')) → wpAny (model prog w) A (pyNext (.ref I)) Q (fun _ _ => False) (St s h₁ tk₁))
    (stp : ∀ h₁ tk₁ o₁ news₁ m₁ (Q : Option Value → Shared → Prop), h₁.get? I = some o₁ → P cnt o₁ → News h₀ L h₁ news₁ → J cnt m₁ news₁ →
      (∀ h' tk', Heap.ExtBut I h₁ h' → Q none (St s h' tk')) → wpAny (model prog w) A (pyNext (.ref I)) Q (fun _ _ => False) (St s h₁ tk₁))
    (turn : ∀ i v h₁ tk₁ m₁ m₂ news₁ o₁, i < cnt → V i v → J i m₁ news₁ → P (i + 1) o₁ → (∀ p ∈ news₁, p.1 ≠ I) → Fr h₀ L h₁ m₂ → News h₀ L h₁ ((I, o₁) :: news₁) → m₂ x = some v → (∀ y, (y == x) = false → m₂ y = m₁ y) →
      wpAny (model prog w) A (execs body (envOf cn cs L a ccd)) (FStep h₀ L I s (P (i + 1)) (J (i + 1)) Q) (fun _ _ => False) (St s h₁ tk₁))
    (done : ∀ h₁ tk₁ m₁ news₁, J cnt m₁ news₁ → Fr h₀ L h₁ m₁ → News h₀ L h₁ news₁ → Q .next (St s h₁ tk₁))
    (hk : cs.kind = .function := by rfl) (hl : (envOf cn cs L a ccd).kindOf x = some .local := by rfl) :
    codeAny (model prog w) A (.forLoop (.Name x px) (.ref I) body [] (envOf cn cs L a ccd)) (fun r s' => match r with | .ok f => Q f s' | .error e => cameBackBy (model prog w) A (envOf cn cs L a ccd) (fun _ _ => False) e s') (St s h tk) := by
  refine codeAny_forLoop (fun k s' => ∃ i h' tk' m₁ news₁ o₁, s' = St s h' tk' ∧ P i o₁ ∧ Fr h₀ L h' m₁ ∧ News h₀ L h' ((I, o₁) :: news₁) ∧ (∀ p ∈ news₁, p.1 ≠ I) ∧ J i m₁ news₁ ∧ i ≤ cnt ∧ k = cnt + 1 - i) ?_ (cnt + 1)
    ⟨0, h, tk, m, news, o, rfl, hP, F, N, hn, hJ, Nat.zero_le _, rfl⟩
  rintro k s' ⟨i, h₁, tk₁, m₁, news₁, o₁, rfl, hP₁, F₁, N₁, hn₁, hJ₁, hi, rfl⟩
  have nI := N₁ (I, o₁) (.head _)
  have Nr : News h₀ L h₁ news₁ := fun p hp => N₁ p (.tail _ hp)
  by_cases hlt : i < cnt
  · refine wpAny_mono (nxt i h₁ tk₁ o₁ news₁ m₁ (fun r s₁ => ∃ v h' o' tk', r = some v ∧ V i v ∧ h'.get? I = some o' ∧ P (i + 1) o' ∧ Heap.SameBut I h₁ h' ∧ s₁ = St s h' tk') hlt nI.1 hP₁ Nr hJ₁ fun v h' o' tk' a b c d => ⟨v, h', o', tk', rfl, a, b, c, d, rfl⟩) ?_ fun _ _ x => x.elim
    rintro r s₁ ⟨v, h', o', tk', rfl, hv, ho', hP', sb, rfl⟩
    have F' : Fr h₀ L h' m₁ := F₁.change sb nI.2.1 nI.2.2
    have N' : News h₀ L h' ((I, o') :: news₁) := fun p hp => by
      rcases List.mem_cons.mp hp with rfl | hp
      · exact ⟨ho', nI.2⟩
      · exact ⟨(sb.2 p.1 (hn₁ p hp)).trans (Nr p hp).1, (Nr p hp).2⟩
    refine wpAny_mono (E := fun _ _ => False) (wpAny_assign_Name (qst (cn := cn) (cs := cs) (a := a) (ccd := ccd) F' N' ?_ hk hl)) (fun _ _ x => x) fun _ _ x => x.elim
    intro h2 m2 tk2 F2 N2 y1 y2
    refine wpAny_mono (turn i v h2 tk2 m₁ m2 news₁ o' hlt hv hJ₁ hP' hn₁ F2 N2 y1 y2) ?_ fun _ _ x => x.elim
    intro f s₃ q
    cases f with
    | ret v => exact q
    | brk => exact q
    | next =>
      obtain ⟨h3, tk3, m3, news3, o3, rfl, p3, F3, N3, hn3, J3⟩ := q
      exact ⟨cnt + 1 - (i + 1), by omega, i + 1, h3, tk3, m3, news3, o3, rfl, p3, F3, N3, hn3, J3, by omega, rfl⟩
    | cont =>
      obtain ⟨h3, tk3, m3, news3, o3, rfl, p3, F3, N3, hn3, J3⟩ := q
      exact ⟨cnt + 1 - (i + 1), by omega, i + 1, h3, tk3, m3, news3, o3, rfl, p3, F3, N3, hn3, J3, by omega, rfl⟩
  · have hin : i = cnt := by omega
    subst hin
    refine wpAny_mono (stp h₁ tk₁ o₁ news₁ m₁ (fun r s₁ => ∃ h' tk', r = none ∧ Heap.ExtBut I h₁ h' ∧ s₁ = St s h' tk') nI.1 hP₁ Nr hJ₁ fun h' tk' a => ⟨h', tk', rfl, a, rfl⟩) ?_ fun _ _ x => x.elim
    rintro r s₁ ⟨h', tk', rfl, eb, rfl⟩
    refine wpAny_execs_nil (done h' tk' m₁ news₁ hJ₁ ?_ ?_)
    · obtain ⟨oL, a1, a2, hoL, a3⟩ := F₁.ns
      refine ⟨⟨oL, a1, a2, eb L oL nI.2.1.symm hoL, a3⟩, fun b x e => eb b x ?_ (F₁.keep b x e), F₁.above⟩
      rintro rfl
      rw [nI.2.2] at e
      cases e
    · exact fun p hp => ⟨eb p.1 p.2 (hn₁ p hp) (Nr p hp).1, (Nr p hp).2⟩

abbrev ritObj (x left step : Int) : Obj := { cls := .type "range_iterator", dict := none, data := .fields #[rawInt x, rawInt left, rawInt step], slots := #[] }
theorem qfor_range {x : Str} {px : Pos} {body : List Stmt} {I a : Addr} {cn : Str} {cs : Scope} {ccd : Value} {Q : Flow → Shared → Prop} (cnt : Nat) (lo c : Int) (J : Nat → (Str → Option Value) → List (Addr × Obj) → Prop) (hh : A.handled = none)
    (F : Fr h₀ L h m) (N : News h₀ L h ((I, ritObj lo cnt c) :: news)) (hn : ∀ p ∈ news, p.1 ≠ I) (hJ : J 0 m news)
    (turn : ∀ i t h₁ tk₁ m₁ m₂ news₁ o₁, i < cnt → J i m₁ news₁ → o₁ = ritObj (lo + ((i + 1 : Nat) : Int) * c) ((cnt : Int) - ((i + 1 : Nat) : Int)) c → (∀ p ∈ news₁, p.1 ≠ I) → Fr h₀ L h₁ m₂ → News h₀ L h₁ ((I, o₁) :: news₁) → m₂ x = some (.int (lo + i * c) t) → (∀ y, (y == x) = false → m₂ y = m₁ y) →
      wpAny (model prog w) A (execs body (envOf cn cs L a ccd)) (FStep h₀ L I s (fun o => o = ritObj (lo + ((i + 1 : Nat) : Int) * c) ((cnt : Int) - ((i + 1 : Nat) : Int)) c) (J (i + 1)) Q) (fun _ _ => False) (St s h₁ tk₁))
    (done : ∀ h₁ tk₁ m₁ news₁, J cnt m₁ news₁ → Fr h₀ L h₁ m₁ → News h₀ L h₁ news₁ → Q .next (St s h₁ tk₁))
    (hk : cs.kind = .function := by rfl) (hl : (envOf cn cs L a ccd).kindOf x = some .local := by rfl) :
    codeAny (model prog w) A (.forLoop (.Name x px) (.ref I) body [] (envOf cn cs L a ccd)) (fun r s' => match r with | .ok f => Q f s' | .error e => cameBackBy (model prog w) A (envOf cn cs L a ccd) (fun _ _ => False) e s') (St s h tk) := by
  refine qfor cnt (fun i o => o = ritObj (lo + (i : Nat) * c) ((cnt : Int) - (i : Nat)) c) (fun i v => ∃ t, v = .int (lo + i * c) t) J F N hn (by simp) hJ ?_ ?_ ?_ done hk hl
  · rintro i h₁ tk₁ o₁ news₁ m₁ Q hi ho rfl N₁ _ hQ
    refine wpAny_pyNext_range_item (s := St s h₁ tk₁) ho (by omega) fun h' hit' hs' => ?_
    refine hQ _ h' _ _ ⟨_, rfl⟩ hit' ?_ hs'
    have e1 : lo + ((i + 1 : Nat) : Int) * c = lo + (i : Int) * c + c := by push_cast; rw [Int.add_mul, Int.one_mul, Int.add_assoc]
    have e2 : (cnt : Int) - ((i + 1 : Nat) : Int) = (cnt : Int) - (i : Int) - 1 := by push_cast; omega
    rw [e1, e2]
  · rintro h₁ tk₁ o₁ news₁ m₁ Q ho rfl N₁ _ hQ
    exact wpAny_pyNext_range_end (s := St s h₁ tk₁) hh ho (by omega) fun h' he' => hQ h' _ he'
  · rintro i v h₁ tk₁ m₁ m₂ news₁ o₁ hi ⟨t, rfl⟩ hJ rfl hn1 F1 N1 y1 y2
    exact turn i t h₁ tk₁ m₁ m₂ news₁ _ hi hJ rfl hn1 F1 N1 y1 y2
end

def CmpOk (prog : Program) (w : World) (u : Nat) (rest : List (Addr × Obj)) (U : Value → Prop) (lt : Value → Value → Bool) : Prop :=
  ∀ x y, U x → U y → ∀ (A : Around) (s : Shared) (h : Heap) (tk : Nat) (Q : Value → Shared → Prop) (E : Value → Shared → Prop), A.units ≤ u → (∀ p ∈ rest, h.get? p.1 = some p.2) → Q (.bool (lt x y)) (St s h tk) → wpAny (model prog w) A (compareOp .Lt x y) Q E (St s h tk)
end Mine
/-! plain functions of the heap's two sifts -/
namespace Mine
def sdLoop {α : Type} (lt : α → α → Bool) (x : α) (st : Nat) (pos : Nat) (vs : List α) : List α :=
  if _h : st < pos then
    match vs[(pos - 1) / 2]? with
    | some par => if lt x par then sdLoop lt x st ((pos - 1) / 2) (vs.set pos par) else vs.set pos x
    | none => vs
  else vs.set pos x
termination_by pos
decreasing_by omega

/-- the child that _siftup goes down to -/
def chd {α : Type} (lt : α → α → Bool) (pos : Nat) (vs : List α) : Nat :=
  match vs[2 * pos + 1]?, vs[2 * pos + 2]? with
  | some a, some b => if lt a b then 2 * pos + 1 else 2 * pos + 2
  | _, _ => 2 * pos + 1
theorem chd_ge {α : Type} (lt : α → α → Bool) (pos : Nat) (vs : List α) : pos < chd lt pos vs := by
  unfold chd; split
  · split <;> omega
  · omega
/-- _siftup's first loop: the place where it ends and the list -/
def suLoop {α : Type} (lt : α → α → Bool) (pos : Nat) (vs : List α) : Nat × List α :=
  if _h : 2 * pos + 1 < vs.length then
    match vs[chd lt pos vs]? with
    | some c => suLoop lt (chd lt pos vs) (vs.set pos c)
    | none => (pos, vs)
  else (pos, vs)
termination_by vs.length - pos
decreasing_by
  have := chd_ge lt pos vs
  simp only [List.length_set]
  omega
def siftdown {α : Type} (lt : α → α → Bool) (st pos : Nat) (vs : List α) : List α :=
  match vs[pos]? with
  | some x => sdLoop lt x st pos vs
  | none => vs
def siftup {α : Type} (lt : α → α → Bool) (pos : Nat) (vs : List α) : List α :=
  match vs[pos]? with
  | some x => siftdown lt pos (suLoop lt pos vs).1 ((suLoop lt pos vs).2.set (suLoop lt pos vs).1 x)
  | none => vs

/-! permutations -/
section
variable {α : Type} {lt : α → α → Bool}
open Classical in
theorem set_set_perm (vs : List α) (i j : Nat) (hi : i < vs.length) (hj : j < vs.length) (hij : i ≠ j) (x : α) : ((vs.set i vs[j]).set j x).Perm (vs.set i x) := by
  rw [List.perm_iff_count]
  intro b
  rw [List.count_set (by simpa using hj), List.count_set hi, List.count_set hi]
  have e : (vs.set i vs[j])[j]'(by simpa using hj) = vs[j] := List.getElem_set_ne hij _
  rw [e]
  have c1 : (if vs[i] == b then 1 else 0) ≤ vs.count b := by
    split
    · rename_i h
      have : vs[i] = b := by simpa using h
      exact List.count_pos_iff.mpr (this ▸ List.getElem_mem hi)
    · omega
  omega
theorem sdLoop_perm (x : α) (st : Nat) (pos : Nat) (vs : List α) (hp : pos < vs.length) : (sdLoop lt x st pos vs).Perm (vs.set pos x) := by
  induction pos using Nat.strongRecOn generalizing vs with
  | ind pos ih =>
    rw [sdLoop]
    split
    · rename_i h
      have hq : (pos - 1) / 2 < vs.length := by omega
      rw [List.getElem?_eq_getElem hq]
      dsimp only
      split
      · refine (ih _ (by omega) _ (by simpa using hq)).trans ?_
        exact set_set_perm vs pos ((pos - 1) / 2) hp hq (by omega) x
      · exact .refl _
    · exact .refl _
theorem chd_lt (pos : Nat) (vs : List α) (h : 2 * pos + 1 < vs.length) : chd lt pos vs < vs.length := by
  unfold chd
  split
  · rename_i p1 p2
    split
    · omega
    · exact (List.getElem?_eq_some_iff.mp p2).1
  · omega
theorem suLoop_perm (pos : Nat) (vs : List α) (hp : pos < vs.length) : (suLoop lt pos vs).1 < vs.length ∧ (suLoop lt pos vs).2.length = vs.length ∧ ∀ x, ((suLoop lt pos vs).2.set (suLoop lt pos vs).1 x).Perm (vs.set pos x) := by
  induction hk : vs.length - pos using Nat.strongRecOn generalizing pos vs with
  | ind k ih =>
    rw [suLoop]
    split
    · rename_i h
      have hc := chd_lt (lt := lt) pos vs h
      have hg := chd_ge lt pos vs
      rw [List.getElem?_eq_getElem hc]
      dsimp only
      obtain ⟨a, b, c⟩ := ih (vs.length - chd lt pos vs) (by omega) (chd lt pos vs) (vs.set pos vs[chd lt pos vs]) (by simpa using hc) (by simp)
      refine ⟨by simpa using a, by simpa using b, fun x => (c x).trans ?_⟩
      exact set_set_perm vs pos _ hp hc (by omega) x
    · exact ⟨hp, rfl, fun _ => .refl _⟩
theorem siftdown_perm (st pos : Nat) (vs : List α) : (siftdown lt st pos vs).Perm vs := by
  unfold siftdown
  split
  · rename_i x h
    obtain ⟨hp, e⟩ := List.getElem?_eq_some_iff.mp h
    have := sdLoop_perm (lt := lt) x st pos vs hp
    rw [← e, List.set_getElem_self] at this
    rw [← e]
    exact this
  · exact .refl _
theorem siftup_perm (pos : Nat) (vs : List α) : (siftup lt pos vs).Perm vs := by
  unfold siftup
  split
  · rename_i x h
    obtain ⟨hp, e⟩ := List.getElem?_eq_some_iff.mp h
    obtain ⟨_, _, c⟩ := suLoop_perm (lt := lt) pos vs hp
    refine (siftdown_perm _ _ _).trans ((c x).trans ?_)
    rw [← e, List.set_getElem_self]
  · exact .refl _
/-- heapify's loop -/
def hfLoop (lt : α → α → Bool) : Nat → List α → List α
  | 0, vs => vs
  | k + 1, vs => hfLoop lt k (siftup lt k vs)
def heapF (lt : α → α → Bool) (vs : List α) : List α := hfLoop lt (vs.length / 2) vs
theorem hfLoop_perm : ∀ (k : Nat) (vs : List α), (hfLoop lt k vs).Perm vs
  | 0, _ => .refl _
  | k + 1, vs => (hfLoop_perm k _).trans (siftup_perm k vs)
theorem heapF_perm (vs : List α) : (heapF lt vs).Perm vs := hfLoop_perm _ _

/-! order -/
structure Good (lt : α → α → Bool) : Prop where
  asymm : ∀ a b, lt a b = true → lt b a = false
  ntrans : ∀ a b c, lt a b = false → lt b c = false → lt a c = false
def HP (lt : α → α → Bool) (p : Nat) (vs : List α) : Prop :=
  ∀ i a b, 0 < i → p ≤ (i - 1) / 2 → vs[i]? = some a → vs[(i - 1) / 2]? = some b → lt a b = false
def HH (lt : α → α → Bool) (p q : Nat) (vs : List α) : Prop :=
  ∀ i a b, 0 < i → p ≤ (i - 1) / 2 → i ≠ q → (i - 1) / 2 ≠ q → vs[i]? = some a → vs[(i - 1) / 2]? = some b → lt a b = false
inductive Desc (p : Nat) : Nat → Prop
  | refl : Desc p p
  | step {q : Nat} : 0 < q → Desc p ((q - 1) / 2) → Desc p q
theorem Desc.le {p q : Nat} (h : Desc p q) : p ≤ q := by
  induction h with
  | refl => exact Nat.le_refl _
  | step _ _ ih => omega
theorem Desc.up {p q : Nat} (h : Desc p q) (hn : q ≠ p) : 0 < q ∧ Desc p ((q - 1) / 2) := by
  cases h with
  | refl => exact absurd rfl hn
  | step a b => exact ⟨a, b⟩
theorem sdLoop_HP (G : Good lt) (x : α) (p : Nat) (q : Nat) (vs : List α) (hq : q < vs.length) (hd : Desc p q) (ha : HH lt p q vs)
    (hb : ∀ c a, 0 < c → (c - 1) / 2 = q → vs[c]? = some a → lt a x = false)
    (hc : q ≠ p → ∀ c a b, 0 < c → (c - 1) / 2 = q → vs[c]? = some a → vs[(q - 1) / 2]? = some b → lt a b = false) : HP lt p (sdLoop lt x p q vs) := by
  induction q using Nat.strongRecOn generalizing vs with
  | ind q ih =>
    rw [sdLoop]
    have fin : (q = p ∨ ∀ b, vs[(q - 1) / 2]? = some b → lt x b = false) → HP lt p (vs.set q x) := by
      intro hx i a b h0 h1 h2 h3
      rw [List.getElem?_set] at h2 h3
      by_cases e1 : q = i
      · subst e1
        rw [if_pos rfl, if_pos hq] at h2
        cases h2
        rw [if_neg (by omega)] at h3
        rcases hx with rfl | hx
        · exact absurd h1 (by omega)
        · exact hx b h3
      · rw [if_neg e1] at h2
        by_cases e2 : q = (i - 1) / 2
        · rw [if_pos e2, if_pos hq] at h3
          cases h3
          exact hb i a h0 e2.symm h2
        · rw [if_neg e2] at h3
          exact ha i a b h0 h1 (Ne.symm e1) (Ne.symm e2) h2 h3
    split
    · rename_i h
      have hqp : q ≠ p := by omega
      obtain ⟨h0, hd'⟩ := hd.up hqp
      have hr : (q - 1) / 2 < vs.length := by omega
      have hle := hd'.le
      have hpar : vs[(q - 1) / 2]? = some vs[(q - 1) / 2] := List.getElem?_eq_getElem hr
      rw [hpar]
      dsimp only
      split
      · rename_i hlt
        refine ih _ (by omega) _ (by simpa using hr) hd' ?_ ?_ ?_
        · intro i a b k0 k1 k2 k3 h2 h3
          rw [List.getElem?_set] at h2 h3
          by_cases e1 : q = i
          · subst e1; exact absurd rfl k3
          · rw [if_neg e1] at h2
            by_cases e2 : q = (i - 1) / 2
            · rw [if_pos e2, if_pos hq] at h3
              cases h3
              exact hc hqp i a _ k0 e2.symm h2 hpar
            · rw [if_neg e2] at h3
              exact ha i a b k0 k1 (Ne.symm e1) (Ne.symm e2) h2 h3
        · intro c a k0 k1 h2
          rw [List.getElem?_set] at h2
          by_cases e1 : q = c
          · subst e1
            rw [if_pos rfl, if_pos hq] at h2
            cases h2
            exact G.asymm _ _ hlt
          · rw [if_neg e1] at h2
            have := ha c a vs[(q - 1) / 2] k0 (by omega) (Ne.symm e1) (by omega) h2 (by rw [k1]; exact hpar)
            cases hax : lt a x with
            | false => rfl
            | true =>
              have n1 := G.asymm _ _ hax
              have n2 := G.ntrans _ _ _ n1 this
              rw [n2] at hlt
              cases hlt
        · intro hrp c a b k0 k1 h2 h3
          obtain ⟨r0, hd2⟩ := hd'.up hrp
          have hle2 := hd2.le
          rw [List.getElem?_set, if_neg (by omega)] at h3
          have hrr := ha ((q - 1) / 2) vs[(q - 1) / 2] b r0 hle2 (by omega) (by omega) hpar h3
          rw [List.getElem?_set] at h2
          by_cases e1 : q = c
          · subst e1
            rw [if_pos rfl, if_pos hq] at h2
            cases h2
            exact hrr
          · rw [if_neg e1] at h2
            have := ha c a vs[(q - 1) / 2] k0 (by omega) (Ne.symm e1) (by omega) h2 (by rw [k1]; exact hpar)
            exact G.ntrans _ _ _ this hrr
      · rename_i hlt
        refine fin (.inr fun b hb' => ?_)
        rw [hpar] at hb'
        cases hb'
        simpa using hlt
    · exact fin (.inl (by have := hd.le; omega))
theorem suLoop_HH (G : Good lt) (p : Nat) (q : Nat) (vs : List α) (hq : q < vs.length) (hd : Desc p q) (ha : HH lt p q vs)
    (hc : q ≠ p → ∀ c a b, 0 < c → (c - 1) / 2 = q → vs[c]? = some a → vs[(q - 1) / 2]? = some b → lt a b = false) :
    Desc p (suLoop lt q vs).1 ∧ HH lt p (suLoop lt q vs).1 (suLoop lt q vs).2 ∧ vs.length ≤ 2 * (suLoop lt q vs).1 + 1 := by
  induction hk : vs.length - q using Nat.strongRecOn generalizing q vs with
  | ind k ih =>
    rw [suLoop]
    split
    · rename_i h
      have hcl := chd_lt (lt := lt) q vs h
      have hg := chd_ge lt q vs
      have hcv : vs[chd lt q vs]? = some vs[chd lt q vs] := List.getElem?_eq_getElem hcl
      have hch : chd lt q vs = 2 * q + 1 ∨ chd lt q vs = 2 * q + 2 := by
        unfold chd; split
        · split <;> simp
        · simp
      rw [hcv]
      dsimp only
      have hle := hd.le
      have main := ih (vs.length - chd lt q vs) (by omega) (chd lt q vs) (vs.set q vs[chd lt q vs]) (by simpa using hcl) (.step (by omega) (by rw [show (chd lt q vs - 1) / 2 = q by omega]; exact hd)) ?_ ?_ (by simp)
      · simpa using main
      · intro i a b k0 k1 k2 k3 h2 h3
        rw [List.getElem?_set] at h2 h3
        by_cases e1 : q = i
        · subst e1
          rw [if_pos rfl, if_pos hq] at h2
          cases h2
          rw [if_neg (by omega)] at h3
          exact hc (by omega) (chd lt q vs) _ b (by omega) (by omega) hcv h3
        · rw [if_neg e1] at h2
          by_cases e2 : q = (i - 1) / 2
          · rw [if_pos e2, if_pos hq] at h3
            cases h3
            -- the sibling
            have hi : i < vs.length := (List.getElem?_eq_some_iff.mp h2).1
            have key : chd lt q vs = if lt vs[2 * q + 1] (vs[2 * q + 2]'(by omega)) then 2 * q + 1 else 2 * q + 2 := by
              unfold chd
              rw [List.getElem?_eq_getElem h, List.getElem?_eq_getElem (by omega : 2 * q + 2 < vs.length)]
            by_cases hl : lt vs[2 * q + 1] (vs[2 * q + 2]'(by omega)) = true
            · have key' := key.trans (if_pos hl)
              have ei : i = 2 * q + 2 := by omega
              subst ei
              have ea : a = vs[2 * q + 2] := by rw [List.getElem?_eq_getElem hi] at h2; exact (Option.some.inj h2).symm
              subst ea
              have eb : vs[chd lt q vs]? = vs[2 * q + 1]? := by rw [key']
              rw [List.getElem?_eq_getElem hcl, List.getElem?_eq_getElem h] at eb
              rw [Option.some.inj eb]
              exact G.asymm _ _ hl
            · have key' := key.trans (if_neg hl)
              have ei : i = 2 * q + 1 := by omega
              subst ei
              have ea : a = vs[2 * q + 1] := by rw [List.getElem?_eq_getElem hi] at h2; exact (Option.some.inj h2).symm
              subst ea
              have eb : vs[chd lt q vs]? = vs[2 * q + 2]? := by rw [key']
              rw [List.getElem?_eq_getElem hcl, List.getElem?_eq_getElem (by omega : 2 * q + 2 < vs.length)] at eb
              rw [Option.some.inj eb]
              simpa using hl
          · rw [if_neg e2] at h3
            exact ha i a b k0 k1 (Ne.symm e1) (Ne.symm e2) h2 h3
      · intro _ c a b k0 k1 h2 h3
        have e : (chd lt q vs - 1) / 2 = q := by omega
        rw [e, List.getElem?_set, if_pos rfl, if_pos hq] at h3
        cases h3
        rw [List.getElem?_set, if_neg (by omega)] at h2
        exact ha c a _ k0 (by omega) (by omega) (by omega) h2 (by rw [k1]; exact hcv)
    · rename_i h
      exact ⟨hd, ha, by omega⟩
theorem siftup_HP (G : Good lt) (p : Nat) (vs : List α) (hp : p < vs.length) (h : HP lt (p + 1) vs) : HP lt p (siftup lt p vs) := by
  unfold siftup
  rw [List.getElem?_eq_getElem hp]
  dsimp only
  obtain ⟨b1, b2, _⟩ := suLoop_perm (lt := lt) p vs hp
  obtain ⟨a1, a2, a3⟩ := suLoop_HH (lt := lt) G p p vs hp .refl (fun i a b k0 k1 k2 k3 h2 h3 => h i a b k0 (by omega) h2 h3) (fun hn => absurd rfl hn)
  generalize suLoop lt p vs = r at *
  obtain ⟨q, ws⟩ := r
  dsimp only at *
  unfold siftdown
  have hq : q < (ws.set q vs[p]).length := by simp; omega
  rw [List.getElem?_eq_getElem hq]
  dsimp only
  refine sdLoop_HP G _ p q _ hq a1 ?_ ?_ ?_
  · intro i a b k0 k1 k2 k3 h2 h3
    rw [List.getElem?_set, if_neg (Ne.symm k2)] at h2
    rw [List.getElem?_set, if_neg (Ne.symm k3)] at h3
    exact a2 i a b k0 k1 k2 k3 h2 h3
  · intro c a k0 k1 h2
    have := (List.getElem?_eq_some_iff.mp h2).1
    simp at this
    omega
  · intro _ c a b k0 k1 h2
    have := (List.getElem?_eq_some_iff.mp h2).1
    simp at this
    omega
theorem hfLoop_HP (G : Good lt) : ∀ (k : Nat) (vs : List α), k ≤ vs.length → HP lt k vs → HP lt 0 (hfLoop lt k vs)
  | 0, _, _, h => h
  | k + 1, vs, hk, h => hfLoop_HP G k _ (by rw [(siftup_perm k vs).length_eq]; omega) (siftup_HP G k vs (by omega) h)
theorem heapF_HP (G : Good lt) (vs : List α) : HP lt 0 (heapF lt vs) := by
  refine hfLoop_HP G _ vs (by omega) ?_
  intro i a b k0 k1 h2 h3
  have := (List.getElem?_eq_some_iff.mp h2).1
  omega
/-- the root is least -/
theorem HP_root (G : Good lt) {vs : List α} (h : HP lt 0 vs) {r : α} (hr : vs[0]? = some r) : ∀ a ∈ vs, lt a r = false := by
  have hrr : lt r r = false := by
    cases e : lt r r with
    | false => rfl
    | true => have := G.asymm _ _ e; rw [e] at this; cases this
  have key : ∀ (i : Nat) (a : α), vs[i]? = some a → lt a r = false := by
    intro i
    induction i using Nat.strongRecOn with
    | ind i ih =>
      intro a ha
      by_cases h0 : i = 0
      · subst h0; rw [hr] at ha; cases ha; exact hrr
      · have hi := (List.getElem?_eq_some_iff.mp ha).1
        have hq : (i - 1) / 2 < vs.length := by omega
        have hb := List.getElem?_eq_getElem hq
        exact G.ntrans _ _ _ (h i a _ (by omega) (by omega) ha hb) (ih _ (by omega) _ hb)
  intro a ha
  obtain ⟨i, hi⟩ := List.mem_iff_getElem?.mp ha
  exact key i a hi
end
end Mine
namespace Mine
open PySem.Calls
theorem sub_rit_reversed : isSubtype (.type "range_iterator") (.type "reversed") = pure false := by rw [isSubtype_type]; kernel_rfl
abbrev rngObj (a b c : Int) (t u v : Tok) : Obj := { cls := .type "range", dict := none, data := .fields #[.int a t, .int b u, .int c v], slots := #[] }
section
variable {prog : Program} {w : World} {A : Around} {E : Value → Shared → Prop} {s : Shared} {h : Heap} {tk : Nat} {K : Frag} {L : Addr} {h₀ : Heap} {m : Str → Option Value} {news : List (Addr × Obj)} {env : Env} {Q : Value → Shared → Prop}

theorem call_rng_reversed {s : Shared} {l : Addr} {b : Nat} {t u v : Tok} (hl : s.heap.get? l = some (rngObj 0 b 1 t u v)) (hb : b < 2 ^ 20)
    (hq : Q (.ref s.heap.objs.size) { s with heap := s.heap.push (ritObj ((b : Int) - 1) b (-1)) }) : wpAny (model prog w) A (call (.builtin "range.__reversed__") [.ref l]) Q E s := by
  have hT : s.TypeIs (.ref l) "range" := ⟨_, hl, rfl⟩
  refine wpAny_call_entry F.slot_range_reversed hT F.entry_range_reversed ?_ (F.args_range_reversed_1 _)
  unfold Builtin.«range.__reversed__»
  refine wpAny_bind (wpAny_of_eq (a := Value.ref l) rfl ?_)
  unfold Builtin.Range.rangeFields
  refine wpAny_bind ?_
  refine wpAny_bind (wpAny_field hl rfl (x := .int 0 t) rfl ?_)
  refine wpAny_bind (wpAny_of_eq (a := some (0 : Int)) rfl ?_)
  refine wpAny_bind (wpAny_field hl rfl (x := .int b u) rfl ?_)
  refine wpAny_bind (wpAny_of_eq (a := some (b : Int)) rfl ?_)
  refine wpAny_bind (wpAny_field hl rfl (x := .int 1 v) rfl ?_)
  refine wpAny_bind ?_
  refine wpAny_pure (a := some (1 : Int)) ?_
  refine wpAny_pure (a := ((0 : Int), (b : Int), (1 : Int))) ?_
  have hn : Builtin.Range.rangeSize 0 b 1 = (b : Int) := by
    rw [rangeSize_one]; split <;> omega
  have hf : ∀ i : Int, -(2 ^ 30) ≤ i → i < 2 ^ 30 → Builtin.Range.rangeFitsLong i = true := by
    intro i h1 h2
    unfold Builtin.Range.rangeFitsLong
    rw [Bool.and_eq_true]
    constructor
    · exact decide_eq_true (by omega)
    · exact decide_eq_true (by omega)
  simp only [hn, hf 0 (by decide) (by decide), hf b (by omega) (by omega), hf 1 (by decide) (by decide), hf (-1) (by decide) (by decide), hf (0 - 1) (by decide) (by decide), Bool.and_true, Bool.not_true, Bool.false_eq_true, if_false, if_true]
  refine wpAny_bind ?_
  unfold newFields
  refine wpAny_newObj_type (wpAny_pure ⟨_, rfl, ?_⟩)
  have e : (0 : Int) + ((b : Int) - 1) * 1 = (b : Int) - 1 := by omega
  rw [e]
  exact hq

theorem newClass_rev (a : Value) : Builtin.SmallTypes.newClass "reversed" ⟨[.type "reversed", a], []⟩ = pure (.type "reversed", [a]) := newClass_reversed a

theorem code_rng_reversed_new {s : Shared} {l : Addr} {b : Nat} {t u v : Tok} {Q₁ : Value → Shared → Prop} (hl : s.heap.get? l = some (rngObj 0 b 1 t u v)) (hb : b < 2 ^ 20)
    (hq : Q₁ (.ref s.heap.objs.size) { s with heap := s.heap.push (ritObj ((b : Int) - 1) b (-1)) }) :
    codeAny (model prog w) A (.call (.builtin "reversed.__new__") ⟨[.type "reversed", .ref l], []⟩) (wants Q₁ E) s := by
  have hT : s.TypeIs (.ref l) "range" := ⟨_, hl, rfl⟩
  refine codeAny_of_tree ?_
  show wpAny _ A.in1 (do checkBuiltinCall "reversed.__new__" ⟨[.type "reversed", .ref l], []⟩; again (.builtin "reversed.__new__" ⟨[.type "reversed", .ref l], []⟩)) _ _ s
  refine wpAny_bind (wpAny_of_eq (F.newCall_reversed_1 _) (wpAny_pure ⟨plainId_quiet F.plain_reversed_new _, codeAny_builtin F.entry_reversed_new ?_⟩))
  rw [Around.under_plainId F.plain_reversed_new _]
  unfold Builtin.«reversed.__new__»
  refine wpAny_bind (wpAny_of_eq (newClass_reversed _) ?_)
  try dsimp only
  refine wpAny_bind (wpAny_of_eq (a := ()) (by first | rfl | kernel_rfl) ?_)
  refine wpAny_bind (wpAny_of_eq (a := ()) (by first | rfl | kernel_rfl) ?_)
  try dsimp only
  refine wpAny_bind (wpAny_specialOf hT F.slot_range_reversed.lookup ?_)
  try dsimp only
  refine wpAny_bind (wpAny_of_eq (F.slot_range_reversed.bind _) ?_)
  try dsimp only
  show wpAny _ _ (if (Value.builtin "range.__reversed__" == Value.none) = true then _ else _) _ _ _
  rw [if_neg (show ¬ ((Value.builtin "range.__reversed__" == Value.none) = true) from Bool.false_ne_true)]
  refine wpAny_bind (wpAny_rule ?_)
  refine wpAny_bind (m := runValue (.call (.builtin "range.__reversed__") ⟨[.ref l], []⟩)) (show wpAny _ _ (call (.builtin "range.__reversed__") [.ref l]) _ _ _ from call_rng_reversed hl hb ?_)
  first
  | exact wpAny_pure hq
  | exact wpAny_bind (wpAny_pure (wpAny_pure hq))

theorem call_reversed_rng {s : Shared} {l : Addr} {b : Nat} {t u v : Tok} (hl : s.heap.get? l = some (rngObj 0 b 1 t u v)) (hb : b < 2 ^ 20)
    (hq : Q (.ref s.heap.objs.size) { s with heap := s.heap.push (ritObj ((b : Int) - 1) b (-1)) }) : wpAny (model prog w) A (call (.type "reversed") [.ref l]) Q E s := by
  refine callType_other (U := "range_iterator") (Q₁ := fun obj s₁ => obj = .ref s.heap.objs.size ∧ s₁ = { s with heap := s.heap.push (ritObj ((b : Int) - 1) b (-1)) }) (by decide +kernel) F.create_reversed ⟨_, _, F.mro_reversed⟩ F.made_reversed sub_rit_reversed (F.typeCall_reversed_1 _) (code_rng_reversed_new hl hb ⟨rfl, rfl⟩) ?_
  rintro obj s₁ ⟨rfl, rfl⟩
  exact ⟨⟨_, Heap.get?_push_size _ rfl, rfl⟩, hq⟩

/-! over the ledger -/
theorem qrange {b : Int} {t : Tok} (F : Fr h₀ L h m) (N : News h₀ L h news) (hq : ∀ r h' tk' t u v, Fr h₀ L h' m → News h₀ L h' ((r, rngObj 0 b 1 t u v) :: news) → (∀ p ∈ news, p.1 < r) → Q (.ref r) (St s h' tk')) :
    wpAny (model prog w) A (call (.type "range") [.int b t]) Q E (St s h tk) :=
  call_range_1 (s := St s h tk) (hq h.objs.size _ _ _ _ _ (F.push _) (N.push F _) fun p hp => Heap.lt_size (N p hp).1)
theorem qrev {r : Addr} {b : Nat} {t u v : Tok} (F : Fr h₀ L h m) (N : News h₀ L h news) (hm : (r, rngObj 0 b 1 t u v) ∈ news) (hb : b < 2 ^ 20)
    (hq : ∀ I h' tk', Fr h₀ L h' m → News h₀ L h' ((I, ritObj ((b : Int) - 1) b (-1)) :: news) → (∀ p ∈ news, p.1 < I) → Q (.ref I) (St s h' tk')) :
    wpAny (model prog w) A (call (.type "reversed") [.ref r]) Q E (St s h tk) :=
  call_reversed_rng (s := St s h tk) (N _ hm).1 hb (hq h.objs.size _ tk (F.push _) (N.push F _) fun p hp => Heap.lt_size (N p hp).1)
theorem qiter_rit {I : Addr} {x left step : Int} (N : News h₀ L h news) (hm : (I, ritObj x left step) ∈ news) (hq : Q (.ref I) (St s h tk)) : wpAny (model prog w) A (pyIter (.ref I)) Q E (St s h tk) :=
  wpAny_pyIter_rangeiter (s := St s h tk) (N _ hm).1 hq
theorem small_rng (b : Nat) (hb : b < 2 ^ 20) : Builtin.Range.small 0 b 1 = true := by
  have hn : Builtin.Range.rangeSize 0 b 1 = (b : Int) := by
    rw [rangeSize_one]; split <;> omega
  have hf : ∀ i : Int, -(2 ^ 30) ≤ i → i < 2 ^ 30 → Builtin.Range.rangeFitsLong i = true := by
    intro i h1 h2
    unfold Builtin.Range.rangeFitsLong
    rw [Bool.and_eq_true]
    constructor
    · exact decide_eq_true (by omega)
    · exact decide_eq_true (by omega)
  unfold Builtin.Range.small
  simp [hn, hf 0 (by decide) (by decide), hf b (by omega) (by omega), hf 1 (by decide) (by decide)]
theorem qiter_rng {r : Addr} {b : Nat} {t u v : Tok} (F : Fr h₀ L h m) (N : News h₀ L h news) (hm : (r, rngObj 0 b 1 t u v) ∈ news) (hb : b < 2 ^ 20)
    (hq : ∀ I h', Fr h₀ L h' m → News h₀ L h' ((I, ritObj 0 b 1) :: news) → (∀ p ∈ news, p.1 < I) → Q (.ref I) (St s h' tk)) :
    wpAny (model prog w) A (pyIter (.ref r)) Q E (St s h tk) := by
  have hn : Builtin.Range.rangeSize 0 b 1 = (b : Int) := by
    rw [rangeSize_one]; split <;> omega
  refine wpAny_pyIter_range (s := St s h tk) (N _ hm).1 (small_rng b hb) ?_
  rw [hn]
  exact hq h.objs.size _ (F.push _) (N.push F _) fun p hp => Heap.lt_size (N p hp).1
theorem qfdiv {a b : Int} {t u : Tok} (hb : b ≠ 0) (hp : Builtin.divisionGoesByPylong a b = false) (hq : ∀ t tk', Q (.int (a.fdiv b) t) (St s h tk')) : wpAny (model prog w) A (binaryOp .FloorDiv (.int a t) (.int b u)) Q E (St s h tk) :=
  floordiv_int hb (hq _ _) (Or.inl hp)
theorem noPy2 (a : Int) : Builtin.divisionGoesByPylong a 2 = false := PyProof.noPylong_of_log2 (by decide +kernel)
theorem qneg {a : Int} {t : Tok} (hq : ∀ t tk', Q (.int (-a) t) (St s h tk')) : wpAny (model prog w) A (unaryOp .USub (.int a t)) Q E (St s h tk) := neg_int (hq _ _)
end
theorem CmpOk.mono {prog : Program} {w : World} {u : Nat} {rest rest' : List (Addr × Obj)} {U : Value → Prop} {lt : Value → Value → Bool} (c : CmpOk prog w u rest U lt) (hs : ∀ p ∈ rest, p ∈ rest') : CmpOk prog w u rest' U lt :=
  fun x y hx hy A s h tk Q E hu hr hq => c x y hx hy A s h tk Q E hu (fun p hp => hr p (hs p hp)) hq
theorem news_sub {h₀ h : Heap} {L : Addr} {a b : List (Addr × Obj)} (N : News h₀ L h a) (hs : ∀ p ∈ b, p ∈ a) : News h₀ L h b := fun p hp => N p (hs p hp)
end Mine
namespace Mine
open PySem.Calls LCg LCt
section
variable {prog : Program} {w : World} {A : Around} {E : Value → Shared → Prop} {s : Shared} {h : Heap} {tk : Nat} {L : Addr} {h₀ : Heap} {m : Str → Option Value} {news : List (Addr × Obj)} {env : Env} {elt ct : PySem.Expr} {x : Str} {scope : Scope} {cl : List (Str × Addr)} {Fin : Shared → List Value → List (Addr × Obj) → Prop}
/-- a turn's element: it ends in a state whose ledger is told by `Inv` -/
def ElEnd (s : Shared) (h₀ : Heap) (L : Addr) (m : Str → Option Value) (base : List (Addr × Obj)) (off : List (Addr × Obj) → Prop) (P : Value → List (Addr × Obj) → Prop) (y : Value) (s₂ : Shared) : Prop :=
  ∃ h' tk' nw, s₂ = St s h' tk' ∧ Fr h₀ L h' m ∧ News h₀ L h' (base ++ nw) ∧ off nw ∧ P y nw
theorem comp_rest {n : Nat} (S : List (Addr × Obj) → Prop) (P : Nat → Value → Prop) (Inv : Nat → List Value → List (Addr × Obj) → Prop) (Fn : List Value → List (Addr × Obj) → Prop) (hS : ∀ i ys nw, Inv i ys nw → S nw)
    (el : ∀ i v I oI C oC D ys nw m₂ h₁ tk₁, i < n → P i v → Inv i ys nw → NsObj oC m₂ → m₂ x = some v → Fr h₀ L h₁ m → News h₀ L h₁ ((I, oI) :: (C, oC) :: (D, lst ys) :: nw) → Off3 I C D nw → (I ≠ C ∧ I ≠ D ∧ C ≠ D) →
      wpAny (model prog w) A (eval elt (compEnvC scope cl C env)) (ElEnd s h₀ L m [(I, oI), (C, oC), (D, lst ys)] (Off3 I C D) fun y nw' => Inv (i + 1) (ys ++ [y]) nw') (fun _ _ => False) (St s h₁ tk₁))
    (fin : ∀ ys nw, Inv n ys nw → Fn ys nw) (g : Heap) : ∀ (k i : Nat) (ys : List Value) (nw : List (Addr × Obj)), k + i = n → Inv i ys nw → CompRest prog w A h₀ L m env elt x scope cl { St s h tk with heap := g } S P Fn k i ys nw
  | 0, i, ys, nw, e, hi => by
    have e' : i = n := by omega
    subst e'
    exact fin ys nw hi
  | k + 1, i, ys, nw, e, hi => by
    refine CompRest.succ ?_
    intro v I oI C oC D m₂ h₁ tk₁ E' hP hC hx F N off ne
    refine wpAny_mono (el i v I oI C oC D ys nw m₂ h₁ tk₁ (by omega) hP hi hC hx F N off ne) ?_ fun _ _ x => x.elim
    rintro y s₂ ⟨h', tk', nw', rfl, F', N', off', hI⟩
    exact ⟨h', tk', nw', rfl, F', N', off', hS _ _ _ hI, comp_rest S P Inv Fn hS el fin g k (i + 1) _ nw' (by omega) hI⟩
theorem src_list {ax : Addr} {its : List Value} {k : Nat} (Inv : Nat → List Value → List (Addr × Obj) → Prop) (hh : A.handled = none) (F : Fr h₀ L h m) (N : News h₀ L h news) (hm : (ax, W.listOf its.toArray k) ∈ news) (hz : its.length ≤ 16384)
    (h0 : Inv 0 [] news) (hS : ∀ i ys nw, Inv i ys nw → (ax, W.listOf its.toArray k) ∈ nw)
    (el : ∀ i v I oI C oC D ys nw m₂ h₁ tk₁, i < its.length → its[i]? = some v → Inv i ys nw → NsObj oC m₂ → m₂ x = some v → Fr h₀ L h₁ m → News h₀ L h₁ ((I, oI) :: (C, oC) :: (D, lst ys) :: nw) → Off3 I C D nw → (I ≠ C ∧ I ≠ D ∧ C ≠ D) →
      wpAny (model prog w) A (eval elt (compEnvC scope cl C env)) (ElEnd s h₀ L m [(I, oI), (C, oC), (D, lst ys)] (Off3 I C D) fun y nw' => Inv (i + 1) (ys ++ [y]) nw') (fun _ _ => False) (St s h₁ tk₁))
    (fin : ∀ g ys nw, Inv its.length ys nw → Fin (St s g tk) ys nw) : CompSrc prog w A h₀ L m env elt x scope cl Fin (.ref ax) (St s h tk) := by
  refine CompSrc.ledger (s₁ := St s h tk) (its := its.toArray) (k := k) hh F N hm (by rw [List.size_toArray, sizeLine_eq]; omega) fun g => ?_
  refine comp_rest (n := its.toArray.size) _ _ Inv _ (fun i ys nw hi => .inr ⟨_, hS i ys nw hi, rfl, _, rfl⟩) ?_ (fun ys nw hi => fin g ys nw (by simpa using hi)) g _ 0 [] news (by simp) h0
  intro i v I oI C oC D ys nw m₂ h₁ tk₁ hi hP
  exact el i v I oI C oC D ys nw m₂ h₁ tk₁ (by simpa using hi) (by simpa using hP)
theorem src_range {r : Addr} {a b : Nat} {t u v : Tok} (Inv : Nat → List Value → List (Addr × Obj) → Prop) (hh : A.handled = none) (F : Fr h₀ L h m) (N : News h₀ L h news) (hm : (r, rngObj a b 1 t u v) ∈ news) (ha : a ≤ b) (hb : b < 2 ^ 20)
    (h0 : Inv 0 [] news)
    (el : ∀ i t I oI C oC D ys nw m₂ h₁ tk₁, i < b - a → Inv i ys nw → NsObj oC m₂ → m₂ x = some (.int ((a + i : Nat) : Int) t) → Fr h₀ L h₁ m → News h₀ L h₁ ((I, oI) :: (C, oC) :: (D, lst ys) :: nw) → Off3 I C D nw → (I ≠ C ∧ I ≠ D ∧ C ≠ D) →
      wpAny (model prog w) A (eval elt (compEnvC scope cl C env)) (ElEnd s h₀ L m [(I, oI), (C, oC), (D, lst ys)] (Off3 I C D) fun y nw' => Inv (i + 1) (ys ++ [y]) nw') (fun _ _ => False) (St s h₁ tk₁))
    (fin : ∀ g ys nw, Inv (b - a) ys nw → Fin (St s g tk) ys nw) : CompSrc prog w A h₀ L m env elt x scope cl Fin (.ref r) (St s h tk) := by
  have hn : Builtin.Range.rangeSize a b 1 = ((b - a : Nat) : Int) := by
    rw [rangeSize_one]; split <;> omega
  have hf : ∀ i : Int, -(2 ^ 30) ≤ i → i < 2 ^ 30 → Builtin.Range.rangeFitsLong i = true := by
    intro i h1 h2
    unfold Builtin.Range.rangeFitsLong
    rw [Bool.and_eq_true]
    constructor
    · exact decide_eq_true (by omega)
    · exact decide_eq_true (by omega)
  have hsm : Builtin.Range.small a b 1 = true := by
    unfold Builtin.Range.small
    rw [hn]
    simp [hf a (by omega) (by omega), hf b (by omega) (by omega), hf 1 (by decide) (by decide), hf ((b - a : Nat) : Int) (by omega) (by omega)]
  refine CompSrc.range (s₁ := St s h tk) (n := b - a) hh F N (N _ hm).1 hsm hn (by rw [sizeLine_eq]; omega) fun g => ?_
  refine comp_rest (n := b - a) _ _ Inv _ (fun _ _ _ _ => trivial) ?_ (fun ys nw hi => fin g ys nw hi) g _ 0 [] news (by simp) h0
  rintro i v I oI C oC D ys nw m₂ h₁ tk₁ hi ⟨t, rfl⟩ hI hC hx
  exact el i t I oI C oC D ys nw m₂ h₁ tk₁ hi hI hC (by rw [hx]; simp)

theorem comp_restT {n : Nat} (S : List (Addr × Obj) → Prop) (P : Nat → Value → Prop) (Inv : Nat → List Value → List (Addr × Obj) → Prop) (Fn : List Value → List (Addr × Obj) → Prop) (hS : ∀ i ys nw, Inv i ys nw → S nw)
    (el : ∀ i v I oI C oC D ys nw m₂ h₁ tk₁, i < n → P i v → Inv i ys nw → NsObj oC m₂ → m₂ x = some v → Fr h₀ L h₁ m → News h₀ L h₁ ((I, oI) :: (C, oC) :: (D, lst ys) :: nw) → Off3 I C D nw → (I ≠ C ∧ I ≠ D ∧ C ≠ D) →
      wpAny (model prog w) A (isTrue ct (compEnvC scope cl C env) (eval ct (compEnvC scope cl C env))) (fun ok s' => if ok = true then
        wpAny (model prog w) A (eval elt (compEnvC scope cl C env)) (ElEnd s h₀ L m [(I, oI), (C, oC), (D, lst ys)] (Off3 I C D) fun y nw' => Inv (i + 1) (ys ++ [y]) nw') (fun _ _ => False) s'
        else ElEnd s h₀ L m [(I, oI), (C, oC), (D, lst ys)] (Off3 I C D) (fun _ nw' => Inv (i + 1) ys nw') Value.none s') (fun _ _ => False) (St s h₁ tk₁))
    (fin : ∀ ys nw, Inv n ys nw → Fn ys nw) (g : Heap) : ∀ (k i : Nat) (ys : List Value) (nw : List (Addr × Obj)), k + i = n → Inv i ys nw → CompRestT prog w A h₀ L m env ct elt x scope cl { St s h tk with heap := g } S P Fn k i ys nw
  | 0, i, ys, nw, e, hi => by
    have e' : i = n := by omega
    subst e'
    exact fin ys nw hi
  | k + 1, i, ys, nw, e, hi => by
    refine CompRestT.succ ?_
    intro v I oI C oC D m₂ h₁ tk₁ E' hP hC hx F N off ne
    refine wpAny_mono (el i v I oI C oC D ys nw m₂ h₁ tk₁ (by omega) hP hi hC hx F N off ne) ?_ fun _ _ x => x.elim
    intro ok s' hs'
    cases ok with
    | true =>
      simp only [if_true] at hs' ⊢
      refine wpAny_mono hs' ?_ fun _ _ x => x.elim
      rintro y s₂ ⟨h', tk', nw', rfl, F', N', off', hI⟩
      exact ⟨h', tk', nw', rfl, F', N', off', hS _ _ _ hI, comp_restT S P Inv Fn hS el fin g k (i + 1) _ nw' (by omega) hI⟩
    | false =>
      simp only [Bool.false_eq_true, if_false] at hs' ⊢
      obtain ⟨h', tk', nw', rfl, F', N', off', hI⟩ := hs'
      exact ⟨h', tk', nw', rfl, F', N', off', hS _ _ _ hI, comp_restT S P Inv Fn hS el fin g k (i + 1) _ nw' (by omega) hI⟩
theorem src_rangeT {r : Addr} {b : Nat} {t u v : Tok} (Inv : Nat → List Value → List (Addr × Obj) → Prop) (hh : A.handled = none) (F : Fr h₀ L h m) (N : News h₀ L h news) (hm : (r, rngObj 0 b 1 t u v) ∈ news) (hb : b < 2 ^ 20)
    (h0 : Inv 0 [] news)
    (el : ∀ i t I oI C oC D ys nw m₂ h₁ tk₁, i < b → Inv i ys nw → NsObj oC m₂ → m₂ x = some (.int (i : Nat) t) → Fr h₀ L h₁ m → News h₀ L h₁ ((I, oI) :: (C, oC) :: (D, lst ys) :: nw) → Off3 I C D nw → (I ≠ C ∧ I ≠ D ∧ C ≠ D) →
      wpAny (model prog w) A (isTrue ct (compEnvC scope cl C env) (eval ct (compEnvC scope cl C env))) (fun ok s' => if ok = true then
        wpAny (model prog w) A (eval elt (compEnvC scope cl C env)) (ElEnd s h₀ L m [(I, oI), (C, oC), (D, lst ys)] (Off3 I C D) fun y nw' => Inv (i + 1) (ys ++ [y]) nw') (fun _ _ => False) s'
        else ElEnd s h₀ L m [(I, oI), (C, oC), (D, lst ys)] (Off3 I C D) (fun _ nw' => Inv (i + 1) ys nw') Value.none s') (fun _ _ => False) (St s h₁ tk₁))
    (fin : ∀ g ys nw, Inv b ys nw → Fin (St s g tk) ys nw) : CompSrcT prog w A h₀ L m env ct elt x scope cl Fin (.ref r) (St s h tk) := by
  have hn : Builtin.Range.rangeSize 0 b 1 = ((b : Nat) : Int) := by
    rw [rangeSize_one]; split <;> omega
  refine CompSrcT.range (s₁ := St s h tk) (n := b) hh F N (N _ hm).1 (small_rng b hb) hn (by rw [sizeLine_eq]; omega) fun g => ?_
  refine comp_restT (n := b) _ _ Inv _ (fun _ _ _ _ => trivial) ?_ (fun ys nw hi => fin g ys nw hi) g _ 0 [] news (by simp) h0
  rintro i v I oI C oC D ys nw m₂ h₁ tk₁ hi ⟨t, rfl⟩ hI hC hx
  exact el i t I oI C oC D ys nw m₂ h₁ tk₁ hi hI hC (by rw [hx]; simp)
variable {Q : Value → Shared → Prop} {pos : Pos} {v : Value} {c C : Addr} {o oC : Obj} {m₂ : Str → Option Value} {K : Frag} {y : Str}
theorem qce (N : News h₀ L h news) (hm : (C, oC) ∈ news) (hC : NsObj oC m₂) (hv : m₂ y = some v) (hq : Q v (St s h tk))
    (hk : scope.kind = .function := by rfl) (hx : (compEnvC scope cl C env).kindOf y = some .local := by rfl) (hd : (y == ("__debug__" : Str)) = false := by decide) :
    wpAny (model prog w) A (eval (.Name y pos) (compEnvC scope cl C env)) Q E (St s h tk) :=
  wpAny_Name (wpAny_loadName_local (s := St s h tk) (env := compEnvC scope cl C env) hk hx (hC.ns (N _ hm).1) hv hq) hd
theorem qceC (N : News h₀ L h news) (hc : cl.lookup y = some c) (hm : (c, o) ∈ news) (hd : o.data = .cell (some v)) (hq : Q v (St s h tk))
    (hk : scope.kind = .function := by rfl) (hx : (compEnvC scope cl C env).kindOf y = some .cell := by rfl) (hb : (y == ("__debug__" : Str)) = false := by decide) :
    wpAny (model prog w) A (eval (.Name y pos) (compEnvC scope cl C env)) Q E (St s h tk) :=
  wpAny_Name (wpAny_loadName_cell (s := St s h tk) (env := compEnvC scope cl C env) hk hx hc ⟨o, N.get hm, hd⟩ hq) hb
theorem qceB (Cc : Cx K A env L h₀) (F : Fr h₀ L h m) (e : nsIn K mainGlobals y = some none) (hv : bootBuiltins y = some v) (hn : y ≠ "__name__") (hq : Q v (St s h tk))
    (hg : env.globals = mainGlobals := by rfl) (hbn : env.builtins = builtinsNs := by rfl)
    (hk : scope.kind = .function := by rfl) (hx : (compEnvC scope cl C env).kindOf y = some .globalImplicit := by rfl) (hd : (y == ("__debug__" : Str)) = false := by decide) :
    wpAny (model prog w) A (eval (.Name y pos) (compEnvC scope cl C env)) Q E (St s h tk) := by
  obtain ⟨A₀, base, outer, p, loose, mean, mg, mb, B, T, hA⟩ := Cc.top
  refine Name_function_global hk hx (loadGlobal_builtin (s := St s h tk) (env := compEnvC scope cl C env) (mg := mg) (mb := mb) ?_ (mg_none_of Cc.X T.g e) ?_ ((T.builtins y hn).trans hv) hq) hd
  · show h.Ns env.globals mg
    rw [hg]; exact T.g.keeps F.keep
  · show h.Ns env.builtins mb
    rw [hbn]; exact T.b.keeps F.keep
theorem qceG (Cc : Cx K A env L h₀) (F : Fr h₀ L h m) (e : nsIn K mainGlobals y = some (some v)) (hq : Q v (St s h tk))
    (hg : env.globals = mainGlobals := by rfl)
    (hk : scope.kind = .function := by rfl) (hx : (compEnvC scope cl C env).kindOf y = some .globalImplicit := by rfl) (hd : (y == ("__debug__" : Str)) = false := by decide) :
    wpAny (model prog w) A (eval (.Name y pos) (compEnvC scope cl C env)) Q E (St s h tk) := by
  obtain ⟨A₀, base, outer, p, loose, mean, mg, mb, B, T, hA⟩ := Cc.top
  refine Name_function_global hk hx (loadGlobal_global (s := St s h tk) (env := compEnvC scope cl C env) (mg := mg) ?_ (mg_of Cc.X T.g e) hq) hd
  show h.Ns env.globals mg
  rw [hg]; exact T.g.keeps F.keep
theorem qitemO {value slice : PySem.Expr} {a : Addr} {lo : Obj} {l : List Value} {n : Nat} {k : Int} {u : Tok} {x : Value} (N : News h₀ L h news) (hm : (a, lo) ∈ news) (hl : lo = W.listOf l.toArray n) (h0 : 0 ≤ k) (h1 : k < l.length) (hz : l.length < 2 ^ 20) (hx : l[k.toNat]? = some x) (hq : Q x (St s h tk))
    (hs : subscripted slice false (.ref a) (.int k u) = operate [.ref a, .int k u] (getItem (.ref a) (.int k u)) := by with_unfolding_all rfl) (hg : ∀ r, letTemporaryGo value (.ref a) r = pure () := by intro _; with_unfolding_all rfl) :
    wpAny (model prog w) A (subscriptTail value slice (.ref a) (.int k u)) Q E (St s h tk) :=
  kim_list (s := St s h tk) N hm (by rw [hl]) (by rw [hl]) h0 (by omega) hx hq hs hg
theorem qlast {value slice : PySem.Expr} {a : Addr} {lo : Obj} {l : List Value} {n : Nat} {u : Tok} {x : Value} (N : News h₀ L h news) (hm : (a, lo) ∈ news) (hl : lo = W.listOf l.toArray n) (h1 : 0 < l.length) (hx : l[l.length - 1]? = some x) (hq : Q x (St s h tk))
    (hs : subscripted slice false (.ref a) (.int (-1) u) = operate [.ref a, .int (-1) u] (getItem (.ref a) (.int (-1) u)) := by with_unfolding_all rfl) (hg : ∀ r, letTemporaryGo value (.ref a) r = pure () := by intro _; with_unfolding_all rfl) :
    wpAny (model prog w) A (subscriptTail value slice (.ref a) (.int (-1) u)) Q E (St s h tk) :=
  kim_back (s := St s h tk) (l := l) (n := n) N hm (by rw [hl]) (by rw [hl]) (by decide) (by omega) (by decide) (by rw [show ((-1 : Int) + (l.length : Int)).toNat = l.length - 1 by omega]; exact hx) hq hs hg
theorem qrange2 {a b : Int} {t u : Tok} (F : Fr h₀ L h m) (N : News h₀ L h news) (hq : ∀ r h' tk' v, Fr h₀ L h' m → News h₀ L h' ((r, rngObj a b 1 t u v) :: news) → (∀ p ∈ news, p.1 < r) → Q (.ref r) (St s h' tk')) :
    wpAny (model prog w) A (call (.type "range") [.int a t, .int b u]) Q E (St s h tk) :=
  call_range_2 (s := St s h tk) (hq h.objs.size _ _ _ (F.push _) (N.push F _) fun p hp => Heap.lt_size (N p hp).1)
theorem qmax2 {a b : Int} {t u : Tok} (hh : A.handled = none) (F : Fr h₀ L h m) (N : News h₀ L h news) (hq : ∀ h' tk' t', Fr h₀ L h' m → News h₀ L h' news → Q (.int (if b > a then b else a) t') (St s h' tk')) :
    wpAny (model prog w) A (call (.builtin "max") [.int a t, .int b u]) Q E (St s h tk) :=
  max_two_N (s := St s h tk) hh F N fun h' tk' F' N' => hq h' tk' _ F' N'
theorem qmod {a b : Int} {t u : Tok} (hb : b ≠ 0) (hq : ∀ t tk', Q (.int (a.fmod b) t) (St s h tk')) : wpAny (model prog w) A (binaryOp .Mod (.int a t) (.int b u)) Q E (St s h tk) := mod_int hb (hq _ _)
theorem qmaxL {a : Addr} {oa : Obj} {vs : List Value} {ns : List Int} {n : Nat} (hh : A.handled = none) (F : Fr h₀ L h m) (N : News h₀ L h news) (ha : (a, oa) ∈ news) (ea : oa = W.listOf vs.toArray n) (hi : IntsAre vs ns) (hne : 0 < ns.length)
    (hq : ∀ h' M t tk', Fr h₀ L h' m → News h₀ L h' news → M ∈ ns → (∀ a ∈ ns, a ≤ M) → Q (.int M t) (St s h' tk')) : wpAny (model prog w) A (call (.builtin "max") [.ref a]) Q E (St s h tk) := by
  subst ea
  exact kso_max (s := St s h tk) F N (PySem.IsL.isList (n := n) (N _ ha).1) hi hne hh hq
theorem qlist {vs : List Value} (F : Fr h₀ L h m) (N : News h₀ L h news) (hz : vs.length ≤ 16384) (hq : ∀ D h', Fr h₀ L h' m → News h₀ L h' ((D, W.listOf vs.toArray 0) :: news) → (∀ p ∈ news, p.1 < D) → Q (.ref D) (St s h' tk)) :
    wpAny (model prog w) A (newList vs) Q E (St s h tk) :=
  newList_N (s := St s h tk) F N (fun h' F' N' => hq h.objs.size h' F' N' fun p hp => Heap.lt_size (N p hp).1) (by rw [sizeLine_eq]; omega)
theorem qcat {a b : Addr} {oa ob : Obj} {us vs : List Value} {n k : Nat} (F : Fr h₀ L h m) (N : News h₀ L h news) (ha : (a, oa) ∈ news) (hb : (b, ob) ∈ news) (ea : oa = W.listOf us.toArray n) (eb : ob = W.listOf vs.toArray k) (hz : us.length + vs.length ≤ 16384)
    (hq : ∀ D h', Fr h₀ L h' m → News h₀ L h' ((D, W.listOf (us ++ vs).toArray 0) :: news) → (∀ p ∈ news, p.1 < D) → Q (.ref D) (St s h' tk)) :
    wpAny (model prog w) A (binaryOp .Add (.ref a) (.ref b)) Q E (St s h tk) := by
  subst ea eb
  exact add_lists (s := St s h tk) F N (PySem.IsL.isList (n := n) (N _ ha).1) (PySem.IsL.isList (n := k) (N _ hb).1) (fun h' F' N' => hq h.objs.size h' F' N' fun p hp => Heap.lt_size (N p hp).1) (by rw [sizeLine_eq]; omega)
end
theorem ints_item {vs : List Value} {ns : List Int} (h : IntsAre vs ns) {i : Nat} {v : Value} (hv : vs[i]? = some v) : ∃ t, v = .int (ns.getD i 0) t ∧ i < ns.length := by
  have hi := (List.getElem?_eq_some_iff.mp hv).1
  rw [h.length] at hi
  obtain ⟨t, e⟩ := h.get i ns[i] (by simp [hi])
  rw [hv] at e
  refine ⟨t, ?_, hi⟩
  rw [Option.some.inj e]
  simp [hi]
theorem ints_at {vs : List Value} {ns : List Int} (h : IntsAre vs ns) {i : Nat} (hi : i < ns.length) : ∃ t, vs[i]? = some (.int (ns.getD i 0) t) := by
  obtain ⟨t, e⟩ := h.get i ns[i] (by simp [hi])
  exact ⟨t, by rw [e]; simp [hi]⟩
theorem ints_snoc {vs : List Value} {ns : List Int} (h : IntsAre vs ns) (i : Int) (t : Tok) : IntsAre (vs ++ [.int i t]) (ns ++ [i]) := h.append (.cons i t .nil)
theorem take_snoc (l : List Int) {i : Nat} (hi : i < l.length) : l.take (i + 1) = l.take i ++ [l.getD i 0] := by
  rw [List.take_add_one]; simp [hi]
end Mine
namespace Mine
open PySem.Calls
section
variable {prog : Program} {w : World} {A : Around} {E : Value → Shared → Prop} {s : Shared} {h : Heap} {tk : Nat} {K : Frag} {L : Addr} {h₀ : Heap} {m : Str → Option Value} {news : List (Addr × Obj)} {env : Env} {Q : Value → Shared → Prop}
/-- a for loop whose target is stored in any way -/
theorem qforA {x : Str} {px : Pos} {body : List Stmt} {I : Addr} {o : Obj} {Q : Flow → Shared → Prop} (cnt : Nat) (P : Nat → Obj → Prop) (V : Nat → Value → Prop) (J : Nat → (Str → Option Value) → List (Addr × Obj) → Prop)
    (F : Fr h₀ L h m) (N : News h₀ L h ((I, o) :: news)) (hn : ∀ p ∈ news, p.1 ≠ I) (hP : P 0 o) (hJ : J 0 m news)
    (nxt : ∀ i h₁ tk₁ o₁ news₁ m₁ (Q : Option Value → Shared → Prop), i < cnt → h₁.get? I = some o₁ → P i o₁ → News h₀ L h₁ news₁ → J i m₁ news₁ →
      (∀ v h' o' tk', V i v → h'.get? I = some o' → P (i + 1) o' → Heap.SameBut I h₁ h' → Q (some v) (St s h' tk')) → wpAny (model prog w) A (pyNext (.ref I)) Q (fun _ _ => False) (St s h₁ tk₁))
    (stp : ∀ h₁ tk₁ o₁ news₁ m₁ (Q : Option Value → Shared → Prop), h₁.get? I = some o₁ → P cnt o₁ → News h₀ L h₁ news₁ → J cnt m₁ news₁ →
      (∀ h' tk', Heap.ExtBut I h₁ h' → Q none (St s h' tk')) → wpAny (model prog w) A (pyNext (.ref I)) Q (fun _ _ => False) (St s h₁ tk₁))
    (turn : ∀ i v h₁ tk₁ m₁ news₁ o₁, i < cnt → V i v → J i m₁ news₁ → P (i + 1) o₁ → (∀ p ∈ news₁, p.1 ≠ I) → Fr h₀ L h₁ m₁ → News h₀ L h₁ ((I, o₁) :: news₁) →
      wpAny (model prog w) A (storeName env x v) (fun _ s₂ => wpAny (model prog w) A (execs body env) (FStep h₀ L I s (P (i + 1)) (J (i + 1)) Q) (fun _ _ => False) s₂) (fun _ _ => False) (St s h₁ tk₁))
    (done : ∀ h₁ tk₁ m₁ news₁, J cnt m₁ news₁ → Fr h₀ L h₁ m₁ → News h₀ L h₁ news₁ → Q .next (St s h₁ tk₁)) :
    codeAny (model prog w) A (.forLoop (.Name x px) (.ref I) body [] env) (fun r s' => match r with | .ok f => Q f s' | .error e => cameBackBy (model prog w) A env (fun _ _ => False) e s') (St s h tk) := by
  refine codeAny_forLoop (fun k s' => ∃ i h' tk' m₁ news₁ o₁, s' = St s h' tk' ∧ P i o₁ ∧ Fr h₀ L h' m₁ ∧ News h₀ L h' ((I, o₁) :: news₁) ∧ (∀ p ∈ news₁, p.1 ≠ I) ∧ J i m₁ news₁ ∧ i ≤ cnt ∧ k = cnt + 1 - i) ?_ (cnt + 1)
    ⟨0, h, tk, m, news, o, rfl, hP, F, N, hn, hJ, Nat.zero_le _, rfl⟩
  rintro k s' ⟨i, h₁, tk₁, m₁, news₁, o₁, rfl, hP₁, F₁, N₁, hn₁, hJ₁, hi, rfl⟩
  have nI := N₁ (I, o₁) (.head _)
  have Nr : News h₀ L h₁ news₁ := fun p hp => N₁ p (.tail _ hp)
  by_cases hlt : i < cnt
  · refine wpAny_mono (nxt i h₁ tk₁ o₁ news₁ m₁ (fun r s₁ => ∃ v h' o' tk', r = some v ∧ V i v ∧ h'.get? I = some o' ∧ P (i + 1) o' ∧ Heap.SameBut I h₁ h' ∧ s₁ = St s h' tk') hlt nI.1 hP₁ Nr hJ₁ fun v h' o' tk' a b c d => ⟨v, h', o', tk', rfl, a, b, c, d, rfl⟩) ?_ fun _ _ x => x.elim
    rintro r s₁ ⟨v, h', o', tk', rfl, hv, ho', hP', sb, rfl⟩
    have F' : Fr h₀ L h' m₁ := F₁.change sb nI.2.1 nI.2.2
    have N' : News h₀ L h' ((I, o') :: news₁) := fun p hp => by
      rcases List.mem_cons.mp hp with rfl | hp
      · exact ⟨ho', nI.2⟩
      · exact ⟨(sb.2 p.1 (hn₁ p hp)).trans (Nr p hp).1, (Nr p hp).2⟩
    refine wpAny_mono (E := fun _ _ => False) (wpAny_assign_Name (turn i v h' tk' m₁ news₁ o' hlt hv hJ₁ hP' hn₁ F' N')) ?_ fun _ _ x => x.elim
    intro _ s₂ hs₂
    refine wpAny_mono hs₂ ?_ fun _ _ x => x.elim
    intro f s₃ q
    cases f with
    | ret v => exact q
    | brk => exact q
    | next =>
      obtain ⟨h3, tk3, m3, news3, o3, rfl, p3, F3, N3, hn3, J3⟩ := q
      exact ⟨cnt + 1 - (i + 1), by omega, i + 1, h3, tk3, m3, news3, o3, rfl, p3, F3, N3, hn3, J3, by omega, rfl⟩
    | cont =>
      obtain ⟨h3, tk3, m3, news3, o3, rfl, p3, F3, N3, hn3, J3⟩ := q
      exact ⟨cnt + 1 - (i + 1), by omega, i + 1, h3, tk3, m3, news3, o3, rfl, p3, F3, N3, hn3, J3, by omega, rfl⟩
  · have hin : i = cnt := by omega
    subst hin
    refine wpAny_mono (stp h₁ tk₁ o₁ news₁ m₁ (fun r s₁ => ∃ h' tk', r = none ∧ Heap.ExtBut I h₁ h' ∧ s₁ = St s h' tk') nI.1 hP₁ Nr hJ₁ fun h' tk' a => ⟨h', tk', rfl, a, rfl⟩) ?_ fun _ _ x => x.elim
    rintro r s₁ ⟨h', tk', rfl, eb, rfl⟩
    refine wpAny_execs_nil (done h' tk' m₁ news₁ hJ₁ ?_ ?_)
    · obtain ⟨oL, a1, a2, hoL, a3⟩ := F₁.ns
      refine ⟨⟨oL, a1, a2, eb L oL nI.2.1.symm hoL, a3⟩, fun b x e => eb b x ?_ (F₁.keep b x e), F₁.above⟩
      rintro rfl
      rw [nI.2.2] at e
      cases e
    · exact fun p hp => ⟨eb p.1 p.2 (hn₁ p hp) (Nr p hp).1, (Nr p hp).2⟩
def litP (l : Addr) (i : Nat) (o : Obj) : Prop := o.cls = .type "list_iterator" ∧ o.data = .fields #[.ref l, .int i 0]
/-- a for loop over a list of the ledger -/
theorem qfor_list {x : Str} {px : Pos} {body : List Stmt} {l : Addr} {vs : List Value} {n : Nat} {Q : Flow → Shared → Prop} (J : Nat → (Str → Option Value) → List (Addr × Obj) → Prop) (hh : A.handled = none)
    (F : Fr h₀ L h m) (N : News h₀ L h news) (hJ : J 0 m news) (hm : ∀ i m₁ nw, J i m₁ nw → (l, W.listOf vs.toArray n) ∈ nw)
    (turn : ∀ i v I h₁ tk₁ m₁ news₁ o₁, vs[i]? = some v → J i m₁ news₁ → litP l (i + 1) o₁ → (∀ p ∈ news₁, p.1 ≠ I) → Fr h₀ L h₁ m₁ → News h₀ L h₁ ((I, o₁) :: news₁) →
      wpAny (model prog w) A (storeName env x v) (fun _ s₂ => wpAny (model prog w) A (execs body env) (FStep h₀ L I s (litP l (i + 1)) (J (i + 1)) Q) (fun _ _ => False) s₂) (fun _ _ => False) (St s h₁ tk₁))
    (done : ∀ h₁ tk₁ m₁ news₁, J vs.length m₁ news₁ → Fr h₀ L h₁ m₁ → News h₀ L h₁ news₁ → Q .next (St s h₁ tk₁)) :
    wpAny (model prog w) A (pyIter (.ref l)) (fun it s₂ => codeAny (model prog w) A (.forLoop (.Name x px) it body [] env) (fun r s' => match r with | .ok f => Q f s' | .error e => cameBackBy (model prog w) A env (fun _ _ => False) e s') s₂) E (St s h tk) := by
  refine wpAny_pyIter_list (s := St s h tk) (PySem.IsL.isList (n := n) (N _ (hm 0 m news hJ)).1) ?_
  refine qforA (h := h.push { cls := .type "list_iterator", data := .fields #[.ref l, .int 0 0] }) (tk := tk) vs.length (litP l) (fun i v => vs[i]? = some v) J (F.push _) (N.push F _) (fun p hp => Nat.ne_of_lt (Heap.lt_size (N p hp).1)) ⟨rfl, rfl⟩ hJ ?_ ?_ (fun i v h₁ tk₁ m₁ news₁ o₁ hi hv => turn i v _ h₁ tk₁ m₁ news₁ o₁ hv) done
  · rintro i h₁ tk₁ o₁ news₁ m₁ Q hi ho ⟨hc, hd⟩ N₁ hJ₁ hQ
    refine wpAny_pyNext_list_item (s := St s h₁ tk₁) (i := i) (items := vs.toArray) (x := vs[i]) ⟨o₁, ho, hc, hd⟩ (PySem.IsL.isList (n := n) (N₁ _ (hm i m₁ news₁ hJ₁)).1) (by simp [hi]) fun h' hit' hs' => ?_
    obtain ⟨o', ho', hc', hd'⟩ := hit'
    exact hQ _ h' o' _ (by simp [hi]) ho' ⟨hc', hd'⟩ hs'
  · rintro h₁ tk₁ o₁ news₁ m₁ Q ho ⟨hc, hd⟩ N₁ hJ₁ hQ
    exact wpAny_pyNext_list_end (s := St s h₁ tk₁) (items := vs.toArray) hh ⟨o₁, ho, hc, hd⟩ (PySem.IsL.isList (n := n) (N₁ _ (hm _ m₁ news₁ hJ₁)).1) (by simp) fun h' he' => hQ h' _ he'

/-! frames with cells -/
theorem enterC {name qual : Str} {params : Arguments} {body : List Stmt} {scope : Scope} {dV kV doc pm cdv ct oc : Value} {an od : Option Addr} {osl : Array (Option Value)} {f : Addr} {vals : List Value} {binds : List (Str × Value)}
    (C : Cx K A env L h₀) (F : Fr h₀ L h m) (N : News h₀ L h news)
    (ho : K.lookup f = some ⟨oc, od, .func (fnOf name qual params body scope dV kV doc pm an cdv ct), osl⟩) (hcd : codeIn K cdv qual = true) (hroom : A.depth < recursionLimit)
    (hbind : BindsTo (St s h tk) (fnOf name qual params body scope dV kV doc pm an cdv ct) ⟨vals, []⟩ binds) (hkind : (binds.all fun y => scope.names.lookup y.1 == some .local || scope.names.lookup y.1 == some .cell) = true)
    (hnd : ((cellsFrom 0 scope.names []).map (·.1)).Nodup)
    (hb : ∀ g L' h₁ tk' cells m', Cx K (A.deeper (envX qual scope L' f cdv (cellsFrom (L' + 1) scope.names []))) (envX qual scope L' f cdv (cellsFrom (L' + 1) scope.names [])) L' g → Fr g L' h₁ m' → News g L' h₁ (cells ++ news) → (∀ p ∈ news, p.1 < L') →
      (∀ y, m' y = bindL (envX qual scope L' f cdv (cellsFrom (L' + 1) scope.names [])).kindOf binds (fun _ => none) y) →
      CellsAre (bindC (envX qual scope L' f cdv (cellsFrom (L' + 1) scope.names [])).kindOf binds fun _ => none) (cellsFrom (L' + 1) scope.names []) cells →
      wpAny (model prog w) (A.deeper (envX qual scope L' f cdv (cellsFrom (L' + 1) scope.names []))) (execs body (envX qual scope L' f cdv (cellsFrom (L' + 1) scope.names [])))
        (fun fl s' => Back s h₀ L m g Q (flowVal fl) s') (fun _ _ => False) (St s h₁ tk'))
    (hco : scope.isCoroutine = false) (hgen : scope.isGenerator = false) (hk : scope.kind = .function) : wpAny (model prog w) A (call (.ref f) vals) Q E (St s h tk) := by
  obtain ⟨A₀, base, outer, p, loose, mean, mg, mb, B, T, hA⟩ := C.top
  refine wpAny_call (code_defC (s := St s h tk) B F C.X N T hA C.hf C.hke ho hcd hroom hbind hkind hnd ?_ hco hgen hk)
  intro g L' h₁ tk' cells FG F' N' Y' B' X' T' hlt
  refine wpAny_mono (hb g L' h₁ tk' cells _ ⟨⟨A, base, env :: outer, p, loose, mean, mg, mb, B', T', ?_⟩, X', rfl, hk, C.hh⟩ F' N' hlt (fun _ => rfl) Y') ?_ (fun _ _ x => x.elim)
  · show A.frames.map _ = _
    rw [hA]; rfl
  · rintro fl s' ⟨h2, t2, L2, m2, n2, rfl, a, b, c⟩
    refine ⟨L2, m2, n2, a, b, fun x y => ?_⟩
    have := c x y
    cases fl <;> exact this
variable {a : Addr} {cn : Str} {cs : Scope} {ccd : Value} {cl : List (Str × Addr)} {x : Str} {pos : Pos} {v : Value} {c : Addr} {o : Obj}
theorem Cx.globX (C : Cx K A (envX cn cs L a ccd cl) L h₀) (F : Fr h₀ L h m) (e : nsIn K mainGlobals x = some (some v)) (hq : Q v (St s h tk))
    (hk : cs.kind = .function := by rfl) (hx : (envX cn cs L a ccd cl).kindOf x = some .globalImplicit := by rfl) (hd : (x == ("__debug__" : Str)) = false := by decide) :
    wpAny (model prog w) A (eval (.Name x pos) (envX cn cs L a ccd cl)) Q E (St s h tk) := by
  obtain ⟨A₀, base, outer, p, loose, mean, mg, mb, B, T, hA⟩ := C.top
  exact nameX_K (s := St s h tk) F C.X (topRead_of T) e hq hk hx hd
theorem Cx.bltX (C : Cx K A (envX cn cs L a ccd cl) L h₀) (F : Fr h₀ L h m) (e : nsIn K mainGlobals x = some none) (hv : bootBuiltins x = some v) (hn : x ≠ "__name__") (hq : Q v (St s h tk))
    (hk : cs.kind = .function := by rfl) (hx : (envX cn cs L a ccd cl).kindOf x = some .globalImplicit := by rfl) (hd : (x == ("__debug__" : Str)) = false := by decide) :
    wpAny (model prog w) A (eval (.Name x pos) (envX cn cs L a ccd cl)) Q E (St s h tk) := by
  obtain ⟨A₀, base, outer, p, loose, mean, mg, mb, B, T, hA⟩ := C.top
  exact nameX_B (s := St s h tk) F C.X (topRead_of T) e hv hn hq hk hx hd
theorem qldX (F : Fr h₀ L h m) (hv : m x = some v) (hq : Q v (St s h tk))
    (hk : cs.kind = .function := by rfl) (hx : (envX cn cs L a ccd cl).kindOf x = some .local := by rfl) (hd : (x == ("__debug__" : Str)) = false := by decide) :
    wpAny (model prog w) A (eval (.Name x pos) (envX cn cs L a ccd cl)) Q E (St s h tk) := nameX_L (s := St s h tk) F hv hq hk hx hd
theorem qldC (N : News h₀ L h news) (hc : cl.lookup x = some c) (hm : (c, o) ∈ news) (hd : o.data = .cell (some v)) (hq : Q v (St s h tk))
    (hk : cs.kind = .function := by rfl) (hx : (envX cn cs L a ccd cl).kindOf x = some .cell := by rfl) (hb : (x == ("__debug__" : Str)) = false := by decide) :
    wpAny (model prog w) A (eval (.Name x pos) (envX cn cs L a ccd cl)) Q E (St s h tk) := nameX_C (s := St s h tk) N hc hm hd hq hk hx hb
theorem qstX {Q : Unit → Shared → Prop} (F : Fr h₀ L h m) (N : News h₀ L h news)
    (hq : ∀ h' m' tk', Fr h₀ L h' m' → News h₀ L h' news → m' x = some v → (∀ y, (y == x) = false → m' y = m y) → Q () (St s h' tk'))
    (hk : cs.kind = .function := by rfl) (hx : (envX cn cs L a ccd cl).kindOf x = some .local := by rfl) : wpAny (model prog w) A (storeName (envX cn cs L a ccd cl) x v) Q E (St s h tk) :=
  storeX_L (s := St s h tk) F N (fun h' F' N' => hq h' _ _ F' N' (if_pos rfl) fun y hy => if_neg (by simpa using hy)) hk hx
theorem qstC {Q : Unit → Shared → Prop} {v₀ : Option Value} (F : Fr h₀ L h m) (N : News h₀ L h news) (hc : cl.lookup x = some c) (hm : (c, o) ∈ news) (hd : o.data = .cell v₀)
    (hq : ∀ h' o', Fr h₀ L h' m → o'.data = .cell (some v) → (∀ nw, (∀ p ∈ nw, p ∈ news ∧ p.1 ≠ c) → News h₀ L h' ((c, o') :: nw)) → Q () (St s h' tk))
    (hk : cs.kind = .function := by rfl) (hx : (envX cn cs L a ccd cl).kindOf x = some .cell := by rfl) : wpAny (model prog w) A (storeName (envX cn cs L a ccd cl) x v) Q E (St s h tk) := by
  have hmem := N (c, o) hm
  refine wpAny_storeName_cell (s := St s h tk) hk hx hc ⟨o, hmem.1, hd⟩ fun h' hv hs => ?_
  obtain ⟨o', ho', hd'⟩ := hv
  refine hq h' o' (F.change hs hmem.2.1 hmem.2.2) hd' fun nw hnw p hp => ?_
  rcases List.mem_cons.mp hp with rfl | hp
  · exact ⟨ho', hmem.2⟩
  · have z := N p (hnw p hp).1
    exact ⟨(hs.2 p.1 (hnw p hp).2).trans z.1, z.2⟩
end
end Mine
namespace Mine
open PySem.Calls
noncomputable abbrev KK (w : World) : Frag := Mine.hd.heap_39 w.params
section
variable {prog : Program} {w : World} {A : Around} {E : Value → Shared → Prop} {s : Shared} {h : Heap} {tk : Nat} {L l : Addr} {h₀ : Heap} {m : Str → Option Value} {env : Env} {Q : Value → Shared → Prop} {vs : List Value} {rest : List (Addr × Obj)} {n : Nat} {U : Value → Prop} {lt : Value → Value → Bool} {u : Nat}
theorem half_nat (q : Nat) (h : 0 < q) : ((q : Int) - 1).fdiv (2 ^ (1 : Int).toNat) = (((q - 1) / 2 : Nat) : Int) := by
  show ((q : Int) - 1).fdiv 2 = _
  rw [Int.fdiv_eq_ediv_of_nonneg _ (by decide)]
  omega
theorem sd_call {st p : Nat} {t1 t2 : Tok} (C : Cx (KK w) A env L h₀) (F : Fr h₀ L h m) (N : News h₀ L h ((l, W.listOf vs.toArray n) :: rest)) (hr : ∀ p ∈ rest, p.1 ≠ l) (hroom : A.depth < recursionLimit) (hu : A.units + 3 ≤ u)
    (hp : p < vs.length) (hsz : vs.length < 2 ^ 14) (hU : ∀ v ∈ vs, U v) (cmp : CmpOk prog w u rest U lt)
    (hq : ∀ h' tk', Fr h₀ L h' m → News h₀ L h' ((l, W.listOf (siftdown lt st p vs).toArray n) :: rest) → Q .none (St s h' tk')) :
    wpAny (model prog w) A (call (.ref 35) [.ref l, .int st t1, .int p t2]) Q E (St s h tk) := by
  refine enter (binds := [("heap", .ref l), ("startpos", .int st t1), ("pos", .int p t2)]) C F N rfl rfl hroom (BindsTo.of_eq rfl) (locs rfl) ?_ rfl rfl rfl (by decide)
  intro g L' h₁ tk1 m' C' F' N' hm
  have x1 : m' "heap" = some (.ref l) := (hm _).trans rfl
  have x2 : m' "startpos" = some (.int st t1) := (hm _).trans rfl
  have x3 : m' "pos" = some (.int p t2) := (hm _).trans rfl
  clear hm
  obtain ⟨x, hx⟩ : ∃ x, vs[p]? = some x := ⟨vs[p], by simp [hp]⟩
  have hsd : siftdown lt st p vs = sdLoop lt x st p vs := by unfold siftdown; rw [hx]
  rw [hsd] at hq
  refine wpAny_execs_cons (wpAny_Assign_Name (Subscript_ (qld F' x1 (qld F' x3 (qitem N' (.head _) (by omega) (by omega) (by omega) (by rw [Int.toNat_natCast]; exact hx) (qst F' N' ?_))))))
  intro h2 m2 tk2 F2 N2 y1 y2
  refine wpAny_execs_cons (wpAny_mono (qwhile (Q := fun fl s2 => fl = .next ∧ ∃ (h' : Heap) (tk' : Nat) (m₁ : Str → Option Value) (vs' : List Value) (k : Nat) (tq : Tok), s2 = St s h' tk' ∧ Fr g L' h' m₁ ∧ News g L' h' ((l, W.listOf vs'.toArray n) :: rest) ∧
      m₁ "heap" = some (.ref l) ∧ m₁ "pos" = some (.int k tq) ∧ m₁ "newitem" = some x ∧ vs'.length = vs.length ∧ k < vs.length ∧ vs'.set k x = sdLoop lt x st p vs)
    (fun k m₁ nw => ∃ (vs' : List Value) (q : Nat) (tq : Tok), k = q ∧ nw = (l, W.listOf vs'.toArray n) :: rest ∧ m₁ "heap" = some (.ref l) ∧ m₁ "startpos" = some (.int st t1) ∧ m₁ "pos" = some (.int q tq) ∧ m₁ "newitem" = some x ∧
      vs'.length = vs.length ∧ q < vs.length ∧ (∀ v ∈ vs', U v) ∧ sdLoop lt x st q vs' = sdLoop lt x st p vs) p F2 N2 ?_ ?_) ?_ fun _ _ x => x)
  · exact ⟨vs, p, t2, rfl, rfl, (y2 _ rfl).trans x1, (y2 _ rfl).trans x2, (y2 _ rfl).trans x3, y1, rfl, hp, hU, rfl⟩
  · rintro k m3 nw h3 tk3 F3 N3 ⟨vs', q, tq, rfl, rfl, z1, z2, z3, z4, hlen, hq', hU', hinv⟩
    rw [sdLoop] at hinv
    refine wpAny_isTrue_Compare1 (qld F3 z3 (qld F3 z2 (gt_int (wpAny_truthy_bool ?_))))
    by_cases hgt : st < k
    · rw [if_pos (by simpa using hgt)]
      rw [dif_pos hgt] at hinv
      refine wpAny_execs_cons (wpAny_Assign_Name (wpAny_BinOp (wpAny_BinOp (qld F3 z3 (qint fun _ _ => (qsub fun _ _ => (qint fun _ _ => (qshr (by decide) fun _ _ => ?_))))))))
      rw [half_nat k (by omega)]
      refine qst F3 N3 ?_
      intro h4 m4 tk4 F4 N4 a1 a2
      have hh : (k - 1) / 2 < vs'.length := by omega
      obtain ⟨par, hpar⟩ : ∃ par, vs'[(k - 1) / 2]? = some par := ⟨vs'[(k - 1) / 2], by simp [hh]⟩
      simp only [hpar] at hinv
      refine wpAny_execs_cons (wpAny_Assign_Name (Subscript_ (qld F4 ((a2 _ rfl).trans z1) (qld F4 a1 (qitem N4 (.head _) (by omega) (by omega) (by omega) (by rw [Int.toNat_natCast]; exact hpar) (qst F4 N4 ?_))))))
      intro h5 m5 tk5 F5 N5 b1 b2
      refine wpAny_execs_cons (wpAny_If (wpAny_isTrue_Compare1 (qld F5 ((b2 _ rfl).trans ((a2 _ rfl).trans z4)) (qld F5 b1 (cmp x par ?_ ?_ _ _ _ _ _ _ ?_ ?_ (wpAny_truthy_bool ?_))))))
      · exact hU x (List.mem_of_getElem? hx)
      · exact hU' par (List.mem_of_getElem? hpar)
      · exact hu
      · exact fun p hp => (N5 p (.tail _ hp)).1
      cases hc : lt x par with
      | true =>
        rw [if_pos rfl]
        rw [hc, if_pos rfl] at hinv
        refine wpAny_execs_cons (wpAny_Assign_Subscript (qld F5 b1 (qld F5 ((b2 _ rfl).trans ((a2 _ rfl).trans z1)) (qld F5 ((b2 _ rfl).trans ((a2 _ rfl).trans z3)) (qset F5 N5 hr (by omega) (by omega) (by omega) ?_)))))
        intro h6 F6 N6
        refine wpAny_execs_cons (wpAny_Assign_Name (qld F6 ((b2 _ rfl).trans a1) (qst F6 N6 ?_)))
        intro h7 m7 tk7 F7 N7 c1 c2
        refine wpAny_execs_cons (wpAny_Continue ?_)
        refine ⟨h7, tk7, m7, _, (k - 1) / 2, rfl, F7, N7, by omega, vs'.set k par, (k - 1) / 2, _, rfl, by simp, ?_, ?_, c1, ?_, ?_, ?_, ?_, hinv⟩
        · exact (c2 _ rfl).trans ((b2 _ rfl).trans ((a2 _ rfl).trans z1))
        · exact (c2 _ rfl).trans ((b2 _ rfl).trans ((a2 _ rfl).trans z2))
        · exact (c2 _ rfl).trans ((b2 _ rfl).trans ((a2 _ rfl).trans z4))
        · simpa using hlen
        · omega
        · intro v hv
          rcases List.mem_or_eq_of_mem_set hv with hv | rfl
          · exact hU' v hv
          · exact hU' _ (List.mem_of_getElem? hpar)
      | false =>
        rw [if_neg (by simp)]
        rw [hc, if_neg (by simp)] at hinv
        refine wpAny_execs_nil ?_
        refine wpAny_execs_cons (wpAny_Break ?_)
        exact ⟨rfl, h5, tk5, m5, vs', k, tq, rfl, F5, N5, (b2 _ rfl).trans ((a2 _ rfl).trans z1), (b2 _ rfl).trans ((a2 _ rfl).trans z3), (b2 _ rfl).trans ((a2 _ rfl).trans z4), hlen, hq', hinv⟩
    · rw [if_neg (by simpa using hgt)]
      rw [dif_neg hgt] at hinv
      exact ⟨rfl, h3, tk3, m3, vs', k, tq, rfl, F3, N3, z1, z3, z4, hlen, hq', hinv⟩
  · rintro fl s2 ⟨rfl, h8, tk8, m8, vs', k, tq, rfl, F8, N8, d1, d2, d3, hlen, hk, hfin⟩
    refine wpAny_execs_cons (wpAny_Assign_Subscript (qld F8 d3 (qld F8 d1 (qld F8 d2 (qset F8 N8 hr (by omega) (by omega) (by omega) ?_)))))
    intro h9 F9 N9
    refine wpAny_execs_nil ⟨_, _, _, _, _, rfl, F9, N9, fun Fh Nh => ?_⟩
    simp only [Int.toNat_natCast] at Nh
    rw [hfin] at Nh
    exact hq h9 tk8 Fh Nh
set_option maxHeartbeats 1000000 in
theorem su_call {p : Nat} {t1 : Tok} (C : Cx (KK w) A env L h₀) (F : Fr h₀ L h m) (N : News h₀ L h ((l, W.listOf vs.toArray n) :: rest)) (hr : ∀ p ∈ rest, p.1 ≠ l) (hroom : A.depth + 1 < recursionLimit) (hu : A.units + 6 ≤ u)
    (hp : p < vs.length) (hsz : vs.length < 2 ^ 14) (hU : ∀ v ∈ vs, U v) (cmp : CmpOk prog w u rest U lt)
    (hq : ∀ h' tk', Fr h₀ L h' m → News h₀ L h' ((l, W.listOf (siftup lt p vs).toArray n) :: rest) → Q .none (St s h' tk')) :
    wpAny (model prog w) A (call (.ref 42) [.ref l, .int p t1]) Q E (St s h tk) := by
  refine enter (binds := [("heap", .ref l), ("pos", .int p t1)]) C F N rfl rfl (by omega) (BindsTo.of_eq rfl) (locs rfl) ?_ rfl rfl rfl (by decide)
  intro g L' h₁ tk1 m' C' F' N' hm
  have x1 : m' "heap" = some (.ref l) := (hm _).trans rfl
  have x3 : m' "pos" = some (.int p t1) := (hm _).trans rfl
  clear hm
  obtain ⟨x, hx⟩ : ∃ x, vs[p]? = some x := ⟨vs[p], by simp [hp]⟩
  have hsd : siftup lt p vs = siftdown lt p (suLoop lt p vs).1 ((suLoop lt p vs).2.set (suLoop lt p vs).1 x) := by unfold siftup; rw [hx]
  rw [hsd] at hq
  refine wpAny_execs_cons (wpAny_Assign_Name (Call_ (C'.blt F' rfl boot_len (by decide) (callWith_builtin1 (args_cons (qld F' x1 (args_nil (qlen N' (.head _) (by omega) fun te _ => (qst F' N' ?_)))))))))
  intro h2 m2 tk2 F2 N2 e1 e2
  refine wpAny_execs_cons (wpAny_Assign_Name (qld F2 ((e2 _ rfl).trans x3) (qst F2 N2 ?_)))
  intro h3 m3 tk3 F3 N3 f1 f2
  refine wpAny_execs_cons (wpAny_Assign_Name (Subscript_ (qld F3 ((f2 _ rfl).trans ((e2 _ rfl).trans x1)) (qld F3 ((f2 _ rfl).trans ((e2 _ rfl).trans x3)) (qitem N3 (.head _) (by omega) (by omega) (by omega) (by rw [Int.toNat_natCast]; exact hx) (qst F3 N3 ?_))))))
  intro h4 m4 tk4 F4 N4 g1 g2
  refine wpAny_execs_cons (wpAny_Assign_Name (wpAny_BinOp (wpAny_BinOp (qint fun _ _ => (qld F4 ((g2 _ rfl).trans ((f2 _ rfl).trans ((e2 _ rfl).trans x3))) (qmul (IntMulOk.of_left (by decide)) fun _ _ => (qint fun _ _ => (qadd fun _ _ => (qst F4 N4 ?_)))))))))
  intro h5 m5 tk5 F5 N5 i1 i2
  refine wpAny_execs_cons (wpAny_mono (qwhile (Q := fun fl s2 => fl = .next ∧ ∃ (h' : Heap) (tk' : Nat) (m₁ : Str → Option Value) (tq : Tok), s2 = St s h' tk' ∧ Fr g L' h' m₁ ∧ News g L' h' ((l, W.listOf (suLoop lt p vs).2.toArray n) :: rest) ∧
      m₁ "heap" = some (.ref l) ∧ m₁ "startpos" = some (.int p t1) ∧ m₁ "pos" = some (.int ((suLoop lt p vs).1 : Nat) tq) ∧ m₁ "newitem" = some x ∧ (suLoop lt p vs).2.length = vs.length ∧ (suLoop lt p vs).1 < vs.length ∧ (∀ v ∈ (suLoop lt p vs).2, U v))
    (fun k m₁ nw => ∃ (vs' : List Value) (q : Nat) (tq tc te : Tok), k = vs.length - q ∧ nw = (l, W.listOf vs'.toArray n) :: rest ∧ m₁ "heap" = some (.ref l) ∧ m₁ "startpos" = some (.int p t1) ∧ m₁ "pos" = some (.int q tq) ∧ m₁ "newitem" = some x ∧
      m₁ "endpos" = some (.int vs.length te) ∧ m₁ "childpos" = some (.int ((2 * q + 1 : Nat) : Int) tc) ∧ vs'.length = vs.length ∧ q < vs.length ∧ (∀ v ∈ vs', U v) ∧ suLoop lt q vs' = suLoop lt p vs) (vs.length - p) F5 N5 ?_ ?_) ?_ fun _ _ x => x)
  · exact ⟨vs, p, _, _, _, rfl, rfl, (i2 _ rfl).trans ((g2 _ rfl).trans ((f2 _ rfl).trans ((e2 _ rfl).trans x1))), (i2 _ rfl).trans ((g2 _ rfl).trans f1), (i2 _ rfl).trans ((g2 _ rfl).trans ((f2 _ rfl).trans ((e2 _ rfl).trans x3))), (i2 _ rfl).trans g1,
      (i2 _ rfl).trans ((g2 _ rfl).trans ((f2 _ rfl).trans e1)), i1, rfl, hp, hU, rfl⟩
  · rintro k m6 nw h6 tk6 F6 N6 ⟨vs', q, tq, tc, te, rfl, rfl, z1, z2, z3, z4, z5, z6, hlen, hq', hU', hinv⟩
    rw [suLoop] at hinv
    refine wpAny_isTrue_Compare1 (qld F6 z6 (qld F6 z5 (lt_int (wpAny_truthy_bool ?_))))
    by_cases hgt : 2 * q + 1 < vs.length
    · rw [if_pos (by simp; omega)]
      rw [dif_pos (by omega)] at hinv
      refine wpAny_execs_cons (wpAny_Assign_Name (wpAny_BinOp (qld F6 z6 (qint fun _ _ => (qadd fun _ _ => (qst F6 N6 ?_))))))
      intro h7 m7 tk7 F7 N7 a1 a2
      have hlt : 2 * q + 1 < vs'.length := by omega
      obtain ⟨lc, hlc⟩ : ∃ a, vs'[2 * q + 1]? = some a := ⟨vs'[2 * q + 1], by simp [hlt]⟩
      refine wpAny_execs_cons (wpAny_mono (Q := fun fl s2 => fl = .next ∧ ∃ (h' : Heap) (tk' : Nat) (m₁ : Str → Option Value) (tq : Tok), s2 = St s h' tk' ∧ Fr g L' h' m₁ ∧ News g L' h' ((l, W.listOf vs'.toArray n) :: rest) ∧ (∀ y, (y == Str.ofString "childpos") = false → m₁ y = m7 y) ∧ m₁ "childpos" = some (.int (chd lt q vs' : Nat) tq)) (wpAny_If ?_) ?_ fun _ _ x => x)
      · refine isTrue_and (wpAny_isTrue_Compare1 (qld F7 a1 (qld F7 ((a2 _ rfl).trans z5) (lt_int (wpAny_truthy_bool ?_)))))
        by_cases hrt : 2 * q + 2 < vs.length
        · rw [if_pos (by simp; omega)]
          have hrt' : 2 * q + 2 < vs'.length := by omega
          obtain ⟨rc, hrc⟩ : ∃ a, vs'[2 * q + 2]? = some a := ⟨vs'[2 * q + 2], by simp [hrt']⟩
          have hchd : chd lt q vs' = if lt lc rc then 2 * q + 1 else 2 * q + 2 := by unfold chd; rw [hlc, hrc]
          refine isTrue_and (isTrue_not (wpAny_isTrue_Compare1 (Subscript_ (qld F7 ((a2 _ rfl).trans z1) (qld F7 ((a2 _ rfl).trans z6) (qitem N7 (.head _) (by omega) (by omega) (by omega) (by rw [Int.toNat_natCast]; exact hlc) ?_))))))
          refine Subscript_ (qld F7 ((a2 _ rfl).trans z1) (qld F7 a1 (qitem N7 (.head _) (by omega) (by omega) (by omega) (show vs'[((2 * q + 1 : Nat) + 1 : Int).toNat]? = some rc from hrc) (cmp lc rc ?_ ?_ _ _ _ _ _ _ ?_ ?_ (wpAny_truthy_bool ?_)))))
          · exact hU' _ (List.mem_of_getElem? hlc)
          · exact hU' _ (List.mem_of_getElem? hrc)
          · show A.units + 3 ≤ u
            omega
          · exact fun p hp => (N7 p (.tail _ hp)).1
          cases hc : lt lc rc with
          | true =>
            rw [hc, if_pos rfl] at hchd
            rw [if_neg (by simp), if_neg (by simp)]
            exact wpAny_execs_nil ⟨rfl, h7, _, m7, tc, rfl, F7, N7, fun _ _ => rfl, by rw [hchd]; exact (a2 _ rfl).trans z6⟩
          | false =>
            rw [hc, if_neg (by simp)] at hchd
            rw [if_pos (by simp)]
            refine isTrue_and_nil ?_
            rw [if_pos rfl]
            refine wpAny_execs_cons (wpAny_Assign_Name (qld F7 a1 (qst F7 N7 ?_)))
            intro h8 m8 tk8 F8 N8 b1 b2
            exact wpAny_execs_nil ⟨rfl, h8, _, m8, _, rfl, F8, N8, b2, by rw [hchd]; exact b1⟩
        · rw [if_neg (by simp; omega)]
          rw [if_neg (by simp)]
          have hchd : chd lt q vs' = 2 * q + 1 := by unfold chd; rw [List.getElem?_eq_none (by omega : vs'.length ≤ 2 * q + 2)]; cases vs'[2 * q + 1]? <;> rfl
          exact wpAny_execs_nil ⟨rfl, h7, _, m7, tc, rfl, F7, N7, fun _ _ => rfl, by rw [hchd]; exact (a2 _ rfl).trans z6⟩
      · rintro fl s2 ⟨rfl, h8, tk8, m8, tq8, rfl, F8, N8, b2, b1⟩
        have hcb : chd lt q vs' < vs'.length := by
          unfold chd
          split
          · rename_i p1 p2
            split
            · omega
            · exact (List.getElem?_eq_some_iff.mp p2).1
          · omega
        obtain ⟨cv, hcv⟩ : ∃ a, vs'[chd lt q vs']? = some a := ⟨vs'[chd lt q vs'], by simp [hcb]⟩
        simp only [hcv] at hinv
        refine wpAny_execs_cons (wpAny_Assign_Subscript (Subscript_ (qld F8 ((b2 _ rfl).trans ((a2 _ rfl).trans z1)) (qld F8 b1 (qitem N8 (.head _) (by omega) (by omega) (by omega) (by rw [Int.toNat_natCast]; exact hcv) ?_)))))
        refine qld F8 ((b2 _ rfl).trans ((a2 _ rfl).trans z1)) (qld F8 ((b2 _ rfl).trans ((a2 _ rfl).trans z3)) (qset F8 N8 hr (by omega) (by omega) (by omega) ?_))
        intro h9 F9 N9
        refine wpAny_execs_cons (wpAny_Assign_Name (qld F9 b1 (qst F9 N9 ?_)))
        intro h10 m10 tk10 F10 N10 c1 c2
        refine wpAny_execs_cons (wpAny_Assign_Name (wpAny_BinOp (wpAny_BinOp (qint fun _ _ => (qld F10 c1 (qmul (IntMulOk.of_left (by decide)) fun _ _ => (qint fun _ _ => (qadd fun _ _ => (qst F10 N10 ?_)))))))))
        intro h11 m11 tk11 F11 N11 d1 d2
        have hcg := chd_ge lt q vs'
        refine wpAny_execs_nil ⟨h11, tk11, m11, _, vs.length - chd lt q vs', rfl, F11, N11, by omega, vs'.set q cv, chd lt q vs', _, _, te, rfl, by simp, ?_, ?_, (d2 _ rfl).trans c1, ?_, ?_, d1, ?_, ?_, ?_, hinv⟩
        · exact (d2 _ rfl).trans ((c2 _ rfl).trans ((b2 _ rfl).trans ((a2 _ rfl).trans z1)))
        · exact (d2 _ rfl).trans ((c2 _ rfl).trans ((b2 _ rfl).trans ((a2 _ rfl).trans z2)))
        · exact (d2 _ rfl).trans ((c2 _ rfl).trans ((b2 _ rfl).trans ((a2 _ rfl).trans z4)))
        · exact (d2 _ rfl).trans ((c2 _ rfl).trans ((b2 _ rfl).trans ((a2 _ rfl).trans z5)))
        · simpa using hlen
        · omega
        · intro v hv
          rcases List.mem_or_eq_of_mem_set hv with hv | rfl
          · exact hU' v hv
          · exact hU' _ (List.mem_of_getElem? hcv)
    · rw [if_neg (by simp; omega)]
      rw [dif_neg (by omega)] at hinv
      rw [← hinv]
      exact ⟨rfl, h6, tk6, m6, tq, rfl, F6, N6, z1, z2, z3, z4, hlen, hq', hU'⟩
  · rintro fl s2 ⟨rfl, h8, tk8, m8, tq, rfl, F8, N8, d1, d2, d3, d4, hlen, hk, hU2⟩
    refine wpAny_execs_cons (wpAny_Assign_Subscript (qld F8 d4 (qld F8 d1 (qld F8 d3 (qset F8 N8 hr (by omega) (by omega) (by omega) ?_)))))
    intro h9 F9 N9
    simp only [Int.toNat_natCast] at N9
    refine wpAny_execs_cons (wpAny_Expr (Call_ (C'.glob F9 rfl (callWith_K C'.X rfl (args_cons (qld F9 d1 (args_cons (qld F9 d2 (args_cons (qld F9 d3 (args_nil ⟨C'.X.keeps F9.keep, ?_⟩)))))))))))
    refine sd_call C' F9 N9 hr hroom ?_ ?_ ?_ ?_ cmp ?_
    · show A.units + 3 + 3 ≤ u
      omega
    · simpa [hlen] using hk
    · simpa [hlen] using hsz
    · intro v hv
      rcases List.mem_or_eq_of_mem_set hv with hv | rfl
      · exact hU2 v hv
      · exact hU _ (List.mem_of_getElem? hx)
    · intro h10 tk10 F10 N10
      exact wpAny_execs_nil ⟨_, _, _, _, _, rfl, F10, N10, fun Fh Nh => hq _ _ Fh Nh⟩
end
end Mine
namespace Mine
open PySem.Calls
section
variable {prog : Program} {w : World} {A : Around} {E : Value → Shared → Prop} {s : Shared} {h : Heap} {tk : Nat} {L l : Addr} {h₀ : Heap} {m : Str → Option Value} {env : Env} {Q : Value → Shared → Prop} {vs : List Value} {rest : List (Addr × Obj)} {n : Nat} {U : Value → Prop} {lt : Value → Value → Bool} {u : Nat}
set_option maxHeartbeats 1000000 in
theorem hf_call (C : Cx (KK w) A env L h₀) (F : Fr h₀ L h m) (N : News h₀ L h ((l, W.listOf vs.toArray n) :: rest)) (hr : ∀ p ∈ rest, p.1 ≠ l) (hroom : A.depth + 2 < recursionLimit) (hu : A.units + 9 ≤ u)
    (hsz : vs.length < 2 ^ 14) (hU : ∀ v ∈ vs, U v) (cmp : CmpOk prog w u rest U lt)
    (hq : ∀ h' tk', Fr h₀ L h' m → News h₀ L h' ((l, W.listOf (heapF lt vs).toArray n) :: rest) → Q .none (St s h' tk')) :
    wpAny (model prog w) A (call (.ref 28) [.ref l]) Q E (St s h tk) := by
  refine enter (binds := [("x", .ref l)]) C F N rfl rfl (by omega) (BindsTo.of_eq rfl) (locs rfl) ?_ rfl rfl rfl (by decide)
  intro g L' h₁ tk1 m' C' F' N' hm
  have x1 : m' "x" = some (.ref l) := (hm _).trans rfl
  clear hm
  refine wpAny_execs_cons (wpAny_Assign_Name (Call_ (C'.blt F' rfl boot_len (by decide) (callWith_builtin1 (args_cons (qld F' x1 (args_nil (qlen N' (.head _) (by omega) fun te _ => (qst F' N' ?_)))))))))
  intro h2 m2 tk2 F2 N2 e1 e2
  have e : (vs.length : Int).fdiv 2 = ((vs.length / 2 : Nat) : Int) := by rw [Int.fdiv_eq_ediv_of_nonneg _ (by decide)]; omega
  refine wpAny_execs_cons (wpAny_For (Call_ (C'.blt F2 rfl boot_reversed (by decide) (callWith_type1 (args_cons (Call_ (C'.blt F2 rfl boot_range (by decide) ?_))))))) 
  refine callWith_type1 (args_cons (wpAny_BinOp (qld F2 e1 (qint fun _ _ => (qfdiv (by decide) (noPy2 _) fun _ _ => ?_)))))
  rw [e]
  refine args_nil (qrange F2 N2 ?_)
  intro r h3 tk3 t u v F3 N3 hr3
  refine args_nil (qrev F3 N3 (.head _) (by omega) ?_)
  intro I h4 tk4 F4 N4 hI
  refine qiter_rit N4 (.head _) ?_
  have hlr : l < r := hr3 _ (.head _)
  have hlI : l < I := hI _ (.tail _ (.head _))
  refine qfor_range (vs.length / 2) (((vs.length / 2 : Nat) : Int) - 1) (-1) (fun i m₁ nw => m₁ "x" = some (.ref l) ∧ ∃ vs' : List Value, nw = (l, W.listOf vs'.toArray n) :: (r, rngObj 0 ((vs.length / 2 : Nat) : Int) 1 t u v) :: rest ∧ vs'.length = vs.length ∧ (∀ v ∈ vs', U v) ∧ hfLoop lt (vs.length / 2 - i) vs' = heapF lt vs) C'.hh F4
    (news := (l, W.listOf vs.toArray n) :: (r, rngObj 0 ((vs.length / 2 : Nat) : Int) 1 t u v) :: rest) ?_ ?_ ?_ ?_ ?_
  · exact news_sub N4 (by simp only [List.mem_cons]; grind)
  · intro p hp
    have : p.1 < I := hI p (by simp only [List.mem_cons] at hp ⊢; grind)
    exact Nat.ne_of_lt this
  · exact ⟨(e2 _ rfl).trans x1, vs, rfl, rfl, hU, rfl⟩
  · rintro i ti h5 tk5 m5 m6 nw o₁ hi ⟨z1, vs', rfl, hlen, hU', hinv⟩ ho₁ hnI F6 N6 y1 y2
    have ei : ((vs.length / 2 : Nat) : Int) - 1 + i * (-1) = ((vs.length / 2 - i - 1 : Nat) : Int) := by omega
    rw [ei] at y1
    refine wpAny_execs_cons (wpAny_Expr (Call_ (C'.glob F6 rfl (callWith_K C'.X rfl (args_cons (qld F6 ((y2 _ rfl).trans z1) (args_cons (qld F6 y1 (args_nil ⟨C'.X.keeps F6.keep, ?_⟩)))))))))
    refine su_call (n := n) (vs := vs') C' F6 (rest := (I, o₁) :: (r, rngObj 0 ((vs.length / 2 : Nat) : Int) 1 t u v) :: rest) (U := U) (lt := lt)
      (news_sub N6 (by simp only [List.mem_cons]; grind)) ?_ ?_ ?_ ?_ (by omega) hU' (cmp.mono (by simp only [List.mem_cons]; grind)) ?_
    · intro p hp
      simp only [List.mem_cons] at hp
      rcases hp with rfl | rfl | hp
      · exact Nat.ne_of_gt hlI
      · exact Nat.ne_of_gt hlr
      · exact hr p hp
    · show A.depth + 1 + 1 < _
      omega
    · show A.units + 3 + 6 ≤ _
      omega
    · omega
    · intro h7 tk7 F7 N7
      refine wpAny_execs_nil ⟨h7, tk7, m6, (l, W.listOf (siftup lt (vs.length / 2 - i - 1) vs').toArray n) :: (r, rngObj 0 ((vs.length / 2 : Nat) : Int) 1 t u v) :: rest, o₁, rfl, ho₁, F7, news_sub N7 (by simp only [List.mem_cons]; grind), ?_, (y2 _ rfl).trans z1, _, rfl, ?_, ?_, ?_⟩
      · intro p hp
        simp only [List.mem_cons] at hp
        rcases hp with rfl | rfl | hp
        · exact Nat.ne_of_lt hlI
        · exact hnI _ (.tail _ (.head _))
        · exact hnI p (.tail _ (.tail _ hp))
      · rw [(siftup_perm _ _).length_eq, hlen]
      · intro v hv
        exact hU' v ((siftup_perm _ _).mem_iff.mp hv)
      · rw [← hinv]
        have e3 : vs.length / 2 - i = (vs.length / 2 - i - 1) + 1 := by omega
        have e4 : vs.length / 2 - (i + 1) = vs.length / 2 - i - 1 := by omega
        rw [e3, e4]
        rfl
  · rintro h5 tk5 m5 nw ⟨z1, vs', rfl, hlen, hU', hinv⟩ F6 N6
    rw [Nat.sub_self] at hinv
    have hinv' : vs' = heapF lt vs := hinv
    subst hinv'
    exact wpAny_execs_nil ⟨_, _, _, _, (l, W.listOf (heapF lt vs).toArray n) :: rest, rfl, F6, news_sub N6 (by simp only [List.mem_cons]; grind), fun Fh Nh => hq _ _ Fh Nh⟩

/-- heapreplace -/
theorem hr_call {x r0 : Value} (C : Cx (KK w) A env L h₀) (F : Fr h₀ L h m) (N : News h₀ L h ((l, W.listOf vs.toArray n) :: rest)) (hr : ∀ p ∈ rest, p.1 ≠ l) (hroom : A.depth + 2 < recursionLimit) (hu : A.units + 9 ≤ u)
    (hsz : vs.length < 2 ^ 14) (hr0 : vs[0]? = some r0) (hU : ∀ v ∈ vs, U v) (hx : U x) (cmp : CmpOk prog w u rest U lt)
    (hq : ∀ h' tk', Fr h₀ L h' m → News h₀ L h' ((l, W.listOf (siftup lt 0 (vs.set 0 x)).toArray n) :: rest) → Q r0 (St s h' tk')) :
    wpAny (model prog w) A (call (.ref 21) [.ref l, x]) Q E (St s h tk) := by
  refine enter (binds := [("heap", .ref l), ("item", x)]) C F N rfl rfl (by omega) (BindsTo.of_eq rfl) (locs rfl) ?_ rfl rfl rfl (by decide)
  intro g L' h₁ tk1 m' C' F' N' hm
  have x1 : m' "heap" = some (.ref l) := (hm _).trans rfl
  have x2 : m' "item" = some x := (hm _).trans rfl
  clear hm
  have h0 : 0 < vs.length := (List.getElem?_eq_some_iff.mp hr0).1
  refine wpAny_execs_cons (wpAny_Assign_Name (Subscript_ (qld F' x1 (qint fun _ _ => (qitem N' (.head _) (by omega) (by omega) (by omega) hr0 (qst F' N' ?_))))))
  intro h2 m2 tk2 F2 N2 e1 e2
  refine wpAny_execs_cons (wpAny_Assign_Subscript (qld F2 ((e2 _ rfl).trans x2) (qld F2 ((e2 _ rfl).trans x1) (qint fun _ _ => (qset F2 N2 hr (by omega) (by omega) (by omega) ?_)))))
  intro h3 F3 N3
  refine wpAny_execs_cons (wpAny_Expr (Call_ (C'.glob F3 rfl (callWith_K C'.X rfl (args_cons (qld F3 ((e2 _ rfl).trans x1) (args_cons (qint fun _ _ => (args_nil ⟨C'.X.keeps F3.keep, ?_⟩)))))))))
  refine su_call (p := 0) C' F3 N3 hr ?_ ?_ ?_ ?_ (U := U) (lt := lt) ?_ cmp ?_
  · show A.depth + 1 + 1 < _
    omega
  · show A.units + 3 + 6 ≤ _
    omega
  · simpa using h0
  · simpa using hsz
  · intro v hv
    rcases List.mem_or_eq_of_mem_set hv with hv | rfl
    · exact hU v hv
    · exact hx
  · intro h4 tk4 F4 N4
    refine wpAny_execs_cons (wpAny_Return_some (qld F4 e1 ?_))
    exact ⟨_, _, _, _, _, rfl, F4, N4, fun Fh Nh => hq _ _ Fh Nh⟩
end
end Mine
/-! merging, over plain lists -/
namespace Mine
section
variable {α : Type} {lt : α → α → Bool}
def Srt (lt : α → α → Bool) (l : List α) : Prop := l.Pairwise fun x y => lt y x = false
structure Mg (lt : α → α → Bool) (al bl out : List α) (ia ib : Nat) : Prop where
  srt : Srt lt out
  perm : out.Perm (al.take ia ++ bl.take ib)
  la : ∀ x ∈ out, ∀ y ∈ al.drop ia, lt y x = false
  lb : ∀ x ∈ out, ∀ y ∈ bl.drop ib, lt y x = false
theorem Mg.start (al bl : List α) : Mg lt al bl [] 0 0 := ⟨.nil, by simp, (fun _ h => nomatch h), (fun _ h => nomatch h)⟩
theorem Mg.symm {al bl out : List α} {ia ib : Nat} (M : Mg lt al bl out ia ib) : Mg lt bl al out ib ia := ⟨M.srt, M.perm.trans List.perm_append_comm, M.lb, M.la⟩
theorem Srt.drop {l : List α} (h : Srt lt l) (k : Nat) : Srt lt (l.drop k) := List.Pairwise.sublist (List.drop_sublist k l) h
theorem Srt.take {l : List α} (h : Srt lt l) (k : Nat) : Srt lt (l.take k) := List.Pairwise.sublist (List.take_sublist k l) h
theorem Mg.takeA {al bl out : List α} {ia ib : Nat} (M : Mg lt al bl out ia ib) (ha : Srt lt al) (k : Nat) (h : ∀ x ∈ (al.drop ia).take k, ∀ y ∈ bl.drop ib, lt y x = false) : Mg lt al bl (out ++ (al.drop ia).take k) (ia + k) ib := by
  have hd := ha.drop ia
  have hsplit : (al.drop ia) = (al.drop ia).take k ++ al.drop (ia + k) := by rw [← List.drop_drop, List.take_append_drop]
  have hd' := hd
  unfold Srt at hd'
  rw [hsplit, List.pairwise_append] at hd'
  refine ⟨?_, ?_, ?_, ?_⟩
  · unfold Srt
    rw [List.pairwise_append]
    exact ⟨M.srt, hd.take k, fun x hx y hy => M.la x hx y (List.mem_of_mem_take hy)⟩
  · rw [List.take_add]
    refine (M.perm.append_right _).trans ?_
    rw [List.append_assoc, List.append_assoc]
    exact List.Perm.append_left _ List.perm_append_comm
  · intro x hx y hy
    rcases List.mem_append.mp hx with hx | hx
    · refine M.la x hx y ?_
      rw [hsplit]; exact List.mem_append_right _ hy
    · exact hd'.2.2 x hx y hy
  · intro x hx y hy
    rcases List.mem_append.mp hx with hx | hx
    · exact M.lb x hx y hy
    · exact h x hx y hy
theorem Mg.fin {al bl out : List α} {ia ib : Nat} (M : Mg lt al bl out ia ib) (ha : Srt lt al) (hb : Srt lt bl) (h : ∀ y ∈ bl.drop ib, ∀ z ∈ al.drop ia, lt z y = false) :
    Srt lt (out ++ bl.drop ib ++ al.drop ia) ∧ (out ++ bl.drop ib ++ al.drop ia).Perm (al ++ bl) := by
  constructor
  · unfold Srt
    rw [List.pairwise_append, List.pairwise_append]
    refine ⟨⟨M.srt, hb.drop _, M.lb⟩, ha.drop _, fun x hx y hy => ?_⟩
    rcases List.mem_append.mp hx with hx | hx
    · exact M.la x hx y hy
    · exact h x hx y hy
  · have e : (al ++ bl) = (al.take ia ++ al.drop ia) ++ (bl.take ib ++ bl.drop ib) := by rw [List.take_append_drop, List.take_append_drop]
    rw [e]
    refine ((M.perm.append_right _).append_right _).trans ?_
    rw [List.append_assoc, List.append_assoc, List.append_assoc]
    refine List.Perm.append_left _ ?_
    rw [← List.append_assoc]
    exact List.perm_append_comm
theorem Mg.doneB {al bl out : List α} {ia ib : Nat} (M : Mg lt al bl out ia ib) (ha : Srt lt al) (hb : Srt lt bl) (h : bl.length ≤ ib) :
    Srt lt (out ++ al.drop ia ++ bl.drop ib) ∧ (out ++ al.drop ia ++ bl.drop ib).Perm (al ++ bl) := by
  have e := List.drop_of_length_le h
  have := M.fin ha hb (by rw [e]; exact fun _ h => nomatch h)
  rw [e] at this ⊢
  simpa using this
theorem Mg.doneA {al bl out : List α} {ia ib : Nat} (M : Mg lt al bl out ia ib) (ha : Srt lt al) (hb : Srt lt bl) (h : al.length ≤ ia) :
    Srt lt (out ++ al.drop ia ++ bl.drop ib) ∧ (out ++ al.drop ia ++ bl.drop ib).Perm (al ++ bl) := by
  have e := List.drop_of_length_le h
  have := M.fin ha hb (by rw [e]; exact fun _ _ _ h => nomatch h)
  rw [e] at this ⊢
  simpa using this
/-- one from a -/
theorem Mg.one {al bl out : List α} {ia ib : Nat} (M : Mg lt al bl out ia ib) (G : Good lt) (ha : Srt lt al) (hb : Srt lt bl) {x : α} (hx : al[ia]? = some x) (h : ∀ y, bl[ib]? = some y → lt y x = false) : Mg lt al bl (out ++ [x]) (ia + 1) ib := by
  have hi := (List.getElem?_eq_some_iff.mp hx).1
  have e : (al.drop ia).take 1 = [x] := by
    rw [List.drop_eq_getElem_cons hi]
    simp [(List.getElem?_eq_some_iff.mp hx).2]
  have := M.takeA ha 1 (by
    rw [e]
    intro z hz y hy
    rw [List.mem_singleton.mp hz]
    have hbd := hb.drop ib
    cases hbl : bl.drop ib with
    | nil => rw [hbl] at hy; cases hy
    | cons b r =>
      rw [hbl] at hy hbd
      have hb0 : bl[ib]? = some b := by
        have := congrArg (fun l => l[0]?) hbl
        simpa using this
      have h1 := h b hb0
      rcases List.mem_cons.mp hy with rfl | hy
      · exact h1
      · exact G.ntrans _ _ _ ((List.pairwise_cons.mp hbd).1 y hy) h1)
  rw [e] at this
  exact this
/-- a run from a, up to a place told by a look at bl's first -/
theorem Mg.run {al bl out : List α} {ia ib : Nat} (M : Mg lt al bl out ia ib) (G : Good lt) (ha : Srt lt al) (hb : Srt lt bl) (k : Nat) (h : ∀ i x y, i < k → al[ia + i]? = some x → bl[ib]? = some y → lt y x = false) : Mg lt al bl (out ++ (al.drop ia).take k) (ia + k) ib := by
  refine M.takeA ha k ?_
  intro x hx y hy
  obtain ⟨i, hi⟩ := List.mem_iff_getElem?.mp hx
  have hik : i < k := by
    have := (List.getElem?_eq_some_iff.mp hi).1
    simp at this
    omega
  rw [List.getElem?_take_of_lt hik, List.getElem?_drop] at hi
  have hbd := hb.drop ib
  cases hbl : bl.drop ib with
  | nil => rw [hbl] at hy; cases hy
  | cons b r =>
    rw [hbl] at hy hbd
    have hb0 : bl[ib]? = some b := by
      have := congrArg (fun l => l[0]?) hbl
      simpa using this
    have h1 := h i x b hik hi hb0
    rcases List.mem_cons.mp hy with rfl | hy
    · exact h1
    · exact G.ntrans _ _ _ ((List.pairwise_cons.mp hbd).1 y hy) h1
end
end Mine
namespace Mine
abbrev gallop' : Bool → Keyed → Array Keyed → Nat → Nat → Nat → StateT SortSt Sem (Option Nat) := sortPriv% PySem.Builtin.gallop
abbrev mergeLo' : Array Keyed → Array Keyed → StateT SortSt Sem (Array Keyed) := sortPriv% PySem.Builtin.mergeLo
abbrev mergeHi' : Array Keyed → Array Keyed → StateT SortSt Sem (Array Keyed) := sortPriv% PySem.Builtin.mergeHi
def gt (xs : Array Keyed) (i : Nat) : Keyed := xs.getD i (Value.none, Value.none)
theorem gt_get {xs : Array Keyed} {i : Nat} (h : i < xs.size) : xs[i]? = some (gt xs i) := by unfold gt; simp [h]
section
variable {prog : Program} {w : World} {A : Around} {E : Value → Shared → Prop} {s : Shared} {lt : Keyed → Keyed → Bool} {U : Keyed → Prop} {κ : SortKind}
def LtOk (prog : Program) (w : World) (A : Around) (E : Value → Shared → Prop) (s : Shared) (κ : SortKind) (U : Keyed → Prop) (lt : Keyed → Keyed → Bool) : Prop :=
  ∀ x y (st : SortSt) (Q : Option Bool → SortSt → Prop), U x → U y → kindOf st = κ → Q (some (lt x y)) st → wpS (model prog w) A E s (lt' x y) Q st
theorem wpS_elem {M : Model} {xs : Array Keyed} {i : Nat} {st : SortSt} {Q : Keyed → SortSt → Prop} (h : i < xs.size) (hq : Q (gt xs i) st) : wpS M A E s (elem' xs i) Q st := by
  rw [elem'_eq, gt_get h]; exact wpS_pure hq
def bey (lt : Keyed → Keyed → Bool) (left : Bool) (key : Keyed) (xs : Array Keyed) (base i : Nat) : Bool := if left then lt (gt xs (base + i)) key else !(lt key (gt xs (base + i)))
theorem wpS_bey {left : Bool} {key : Keyed} {xs : Array Keyed} {base i : Nat} {st : SortSt} {Q : Option Bool → SortSt → Prop} (hL : LtOk prog w A E s κ U lt) (hk : kindOf st = κ) (hi : base + i < xs.size) (hU : U (gt xs (base + i))) (hK : U key)
    (hq : Q (some (bey lt left key xs base i)) st) :
    wpS (model prog w) A E s (elem' xs (base + i) >>= fun x => if left = true then lt' x key else (lt' key x >>= fun r => pure (Option.map (fun x => !x) r))) Q st := by
  refine wpS_bind (wpS_elem hi ?_)
  cases left with
  | true => rw [if_pos rfl]; exact hL _ _ _ _ hU hK hk hq
  | false => rw [if_neg (by simp)]; exact wpS_bind (hL _ _ _ _ hK hU hk (wpS_pure hq))
theorem wpS_gallop {left : Bool} {key : Keyed} {xs : Array Keyed} {base n hint : Nat} {st : SortSt} {Q : Option Nat → SortSt → Prop} (hL : LtOk prog w A E s κ U lt) (hk : kindOf st = κ) (hn : base + n ≤ xs.size) (hh : hint < n) (hU : ∀ i, i < n → U (gt xs (base + i))) (hK : U key)
    (mono : ∀ i j, i ≤ j → j < n → bey lt left key xs base j = true → bey lt left key xs base i = true)
    (hq : ∀ k, k ≤ n → (∀ i, i < k → bey lt left key xs base i = true) → (∀ i, k ≤ i → i < n → bey lt left key xs base i = false) → Q (some k) st) :
    wpS (model prog w) A E s (gallop' left key xs base n hint) Q st := by
  refine wpS_bind (wpS_bey hL hk (by omega) (hU _ hh) hK ?_)
  generalize hB : bey lt left key xs base = B at mono hq ⊢
  have nmono : ∀ i j, i ≤ j → j < n → B i = false → B j = false := by
    intro i j hij hj hi
    cases e : B j with
    | false => rfl
    | true => rw [mono i j hij hj e] at hi; cases hi
  cases hr : B hint with
  | true =>
    dsimp only
    rw [if_pos rfl]
    refine wpS_bind (wpS_mono (wpS_forRange (I := fun x c st' => st = st' ∧ ∃ l o, c = (none, l, o) ∧ x < o ∧ l < o ∧ hint + l < n ∧ B (hint + l) = true)
      (Q := fun c st' => st = st' ∧ ∃ l o, c = (none, l, o) ∧ l < o ∧ hint + l < n ∧ B (hint + l) = true ∧ (n - hint ≤ o ∨ B (hint + o) = false)) ?_ ?_ ⟨rfl, 0, 1, rfl, by omega, by omega, by omega, hr⟩) ?_)
    · rintro x c st' _ hx ⟨rfl, l, o, rfl, hxo, hlo, hln, hl⟩
      dsimp only
      by_cases hge : o ≥ n - hint
      · rw [if_pos hge]
        exact wpS_pure ⟨rfl, l, o, rfl, hlo, hln, hl, .inl hge⟩
      · rw [if_neg hge]
        refine wpS_bind (wpS_bey hL hk (by omega) (hU _ (by omega)) hK ?_)
        rw [hB]
        dsimp only
        cases ho : B (hint + o) with
        | false => exact wpS_pure ⟨rfl, l, o, rfl, hlo, hln, hl, .inr ho⟩
        | true => exact wpS_pure ⟨rfl, o, 2 * o + 1, rfl, by omega, by omega, by omega, ho⟩
    · rintro c st' ⟨rfl, l, o, rfl, hxo, hlo, hln, hl⟩
      exact ⟨rfl, l, o, rfl, hlo, hln, hl, .inl (by omega)⟩
    · rintro c st' ⟨rfl, l, o, rfl, hlo, hln, hl, hend⟩
      dsimp only
      refine wpS_bind (wpS_mono (wpS_forRange (I := fun x c st' => st = st' ∧ ∃ lo hi, c = (none, lo, hi) ∧ lo ≤ hi ∧ hi ≤ n ∧ hi - lo ≤ n - x ∧ (∀ i, i < lo → B i = true) ∧ (∀ i, hi ≤ i → i < n → B i = false))
        (Q := fun c st' => st = st' ∧ ∃ lo hi, c = (none, lo, hi) ∧ hi ≤ n ∧ (∀ i, i < hi → B i = true) ∧ (∀ i, hi ≤ i → i < n → B i = false)) ?_ ?_ ⟨rfl, _, _, rfl, by omega, by omega, by omega, ?_, ?_⟩) ?_)
      · rintro x c st' _ hx ⟨rfl, lo, hi, rfl, h1, h2, h3, h4, h5⟩
        dsimp only
        by_cases hge : lo ≥ hi
        · rw [if_pos hge]
          exact wpS_pure ⟨rfl, lo, hi, rfl, h2, fun i hi => h4 i (by omega), h5⟩
        · rw [if_neg hge]
          refine wpS_bind (wpS_bey hL hk (by omega) (hU _ (by omega)) hK ?_)
          rw [hB]
          dsimp only
          cases hm : B (lo + (hi - lo) / 2) with
          | true => exact wpS_pure ⟨rfl, _, hi, rfl, by omega, h2, by omega, fun i hi => mono i _ (by omega) (by omega) hm, h5⟩
          | false => exact wpS_pure ⟨rfl, lo, _, rfl, by omega, by omega, by omega, h4, fun i hi1 hi2 => nmono _ i hi1 hi2 hm⟩
      · rintro c st' ⟨rfl, lo, hi, rfl, h1, h2, h3, h4, h5⟩
        exact ⟨rfl, lo, hi, rfl, h2, fun i hi => h4 i (by omega), h5⟩
      · exact fun i hi => mono i _ (by omega) hln hl
      · intro i hi1 hi2
        rcases hend with hend | hend
        · omega
        · exact nmono (hint + o) i (by omega) hi2 hend
      · rintro c st' ⟨rfl, lo, hi, rfl, h2, h4, h5⟩
        exact wpS_pure (hq hi h2 h4 h5)
  | false =>
    dsimp only
    rw [if_neg (by simp)]
    refine wpS_bind (wpS_mono (wpS_forRange (I := fun x c st' => st = st' ∧ ∃ l o, c = (none, l, o) ∧ x < o ∧ l < o ∧ l ≤ hint ∧ B (hint - l) = false)
      (Q := fun c st' => st = st' ∧ ∃ l o, c = (none, l, o) ∧ l < o ∧ l ≤ hint ∧ B (hint - l) = false ∧ (hint + 1 ≤ o ∨ B (hint - o) = true)) ?_ ?_ ⟨rfl, 0, 1, rfl, by omega, by omega, by omega, hr⟩) ?_)
    · rintro x c st' _ hx ⟨rfl, l, o, rfl, hxo, hlo, hln, hl⟩
      dsimp only
      by_cases hge : o ≥ hint + 1
      · rw [if_pos hge]
        exact wpS_pure ⟨rfl, l, o, rfl, hlo, hln, hl, .inl hge⟩
      · rw [if_neg hge]
        refine wpS_bind (wpS_bey hL hk (by omega) (hU _ (by omega)) hK ?_)
        rw [hB]
        dsimp only
        cases ho : B (hint - o) with
        | true => exact wpS_pure ⟨rfl, l, o, rfl, hlo, hln, hl, .inr ho⟩
        | false => exact wpS_pure ⟨rfl, o, 2 * o + 1, rfl, by omega, by omega, by omega, ho⟩
    · rintro c st' ⟨rfl, l, o, rfl, hxo, hlo, hln, hl⟩
      exact ⟨rfl, l, o, rfl, hlo, hln, hl, .inl (by omega)⟩
    · rintro c st' ⟨rfl, l, o, rfl, hlo, hln, hl, hend⟩
      dsimp only
      refine wpS_bind (wpS_mono (wpS_forRange (I := fun x c st' => st = st' ∧ ∃ lo hi, c = (none, lo, hi) ∧ lo ≤ hi ∧ hi ≤ n ∧ hi - lo ≤ n - x ∧ (∀ i, i < lo → B i = true) ∧ (∀ i, hi ≤ i → i < n → B i = false))
        (Q := fun c st' => st = st' ∧ ∃ lo hi, c = (none, lo, hi) ∧ hi ≤ n ∧ (∀ i, i < hi → B i = true) ∧ (∀ i, hi ≤ i → i < n → B i = false)) ?_ ?_ ⟨rfl, _, _, rfl, by omega, by omega, by omega, ?_, ?_⟩) ?_)
      · rintro x c st' _ hx ⟨rfl, lo, hi, rfl, h1, h2, h3, h4, h5⟩
        dsimp only
        by_cases hge : lo ≥ hi
        · rw [if_pos hge]
          exact wpS_pure ⟨rfl, lo, hi, rfl, h2, fun i hi => h4 i (by omega), h5⟩
        · rw [if_neg hge]
          refine wpS_bind (wpS_bey hL hk (by omega) (hU _ (by omega)) hK ?_)
          rw [hB]
          dsimp only
          cases hm : B (lo + (hi - lo) / 2) with
          | true => exact wpS_pure ⟨rfl, _, hi, rfl, by omega, h2, by omega, fun i hi => mono i _ (by omega) (by omega) hm, h5⟩
          | false => exact wpS_pure ⟨rfl, lo, _, rfl, by omega, by omega, by omega, h4, fun i hi1 hi2 => nmono _ i hi1 hi2 hm⟩
      · rintro c st' ⟨rfl, lo, hi, rfl, h1, h2, h3, h4, h5⟩
        exact ⟨rfl, lo, hi, rfl, h2, fun i hi => h4 i (by omega), h5⟩
      · intro i hi1
        rcases hend with hend | hend
        · omega
        · exact mono i _ (by omega) (by omega) hend
      · exact fun i hi1 hi2 => nmono _ i hi1 hi2 hl
      · rintro c st' ⟨rfl, lo, hi, rfl, h2, h4, h5⟩
        exact wpS_pure (hq hi h2 h4 h5)
end
end Mine
namespace Mine
def SameSt (st st' : SortSt) : Prop := kindOf st' = kindOf st ∧ arrOf st' = arrOf st ∧ pendingOf st' = pendingOf st ∧ failedOf st' = failedOf st
theorem SameSt.rfl' (st : SortSt) : SameSt st st := ⟨rfl, rfl, rfl, rfl⟩
theorem SameSt.trans {a b c : SortSt} (h : SameSt a b) (k : SameSt b c) : SameSt a c := ⟨k.1.trans h.1, k.2.1.trans h.2.1, k.2.2.1.trans h.2.2.1, k.2.2.2.trans h.2.2.2⟩
theorem ext_toList (a : Array Keyed) (i j : Nat) : (a.extract i j).toList = (a.toList.drop i).take (j - i) := by simp
theorem ext_all (a : Array Keyed) (i : Nat) : (a.extract i a.size).toList = a.toList.drop i := by
  rw [ext_toList, List.take_of_length_le]; simp
theorem gt_list {a : Array Keyed} {i : Nat} (h : i < a.size) : a.toList[i]? = some (gt a i) := by rw [Array.getElem?_toList]; exact gt_get h
theorem gt_of_list {a : Array Keyed} {i : Nat} {x : Keyed} (h : a.toList[i]? = some x) : gt a i = x ∧ i < a.size := by
  have hi : i < a.size := by simpa using (List.getElem?_eq_some_iff.mp h).1
  rw [gt_list hi] at h
  exact ⟨Option.some.inj h, hi⟩
theorem Good.irrefl {α : Type} {lt : α → α → Bool} (G : Good lt) (x : α) : lt x x = false := by
  cases e : lt x x with
  | false => rfl
  | true => have := G.asymm _ _ e; rw [e] at this; cases this
theorem srt_gt {lt : Keyed → Keyed → Bool} (G : Good lt) {a : Array Keyed} (h : Srt lt a.toList) {i j : Nat} (hij : i ≤ j) (hj : j < a.size) : lt (gt a j) (gt a i) = false := by
  by_cases e : i = j
  · subst e; exact G.irrefl _
  · have := List.pairwise_iff_getElem.mp h i j (by simp; omega) (by simpa using hj) (by omega)
    have e1 : gt a i = a.toList[i]'(by simp; omega) := (gt_of_list (List.getElem?_eq_getElem (by simp; omega))).1
    have e2 : gt a j = a.toList[j]'(by simpa using hj) := (gt_of_list (List.getElem?_eq_getElem (by simpa using hj))).1
    rw [e1, e2]; exact this
theorem bey_mono {lt : Keyed → Keyed → Bool} (G : Good lt) {left : Bool} {key : Keyed} {a : Array Keyed} {base n : Nat} (h : ∀ i j, i ≤ j → j < n → lt (gt a (base + j)) (gt a (base + i)) = false) :
    ∀ i j, i ≤ j → j < n → bey lt left key a base j = true → bey lt left key a base i = true := by
  intro i j hij hj hb
  have hs := h i j hij hj
  unfold bey at *
  cases left with
  | true =>
    simp only [if_true] at *
    cases e : lt (gt a (base + i)) key with
    | true => rfl
    | false => rw [G.ntrans _ _ _ hs e] at hb; cases hb
  | false =>
    simp only [Bool.false_eq_true, if_false, Bool.not_eq_true'] at *
    exact G.ntrans _ _ _ hb hs
section
variable {prog : Program} {w : World} {A : Around} {E : Value → Shared → Prop} {s : Shared} {lt : Keyed → Keyed → Bool} {U : Keyed → Prop} {κ : SortKind} {a b : Array Keyed} {out : Array Keyed} {ia ib : Nat}
def Res (lt : Keyed → Keyed → Bool) (a b r : Array Keyed) : Prop := Srt lt r.toList ∧ r.toList.Perm (a.toList ++ b.toList)
theorem res_doneB (M : Mg lt a.toList b.toList out.toList ia ib) (ha : Srt lt a.toList) (hb : Srt lt b.toList) (h : ib = b.size) : Res lt a b (out ++ a.extract ia a.size ++ b.extract ib b.size) := by
  have := M.doneB ha hb (by simp; omega)
  unfold Res
  rw [Array.toList_append, Array.toList_append, ext_all, ext_all]
  exact this
theorem res_doneA (M : Mg lt a.toList b.toList out.toList ia ib) (ha : Srt lt a.toList) (hb : Srt lt b.toList) (h : ia = a.size) : Res lt a b (out ++ a.extract ia a.size ++ b.extract ib b.size) := by
  have := M.doneA ha hb (by simp; omega)
  unfold Res
  rw [Array.toList_append, Array.toList_append, ext_all, ext_all]
  exact this
theorem res_lastA (M : Mg lt a.toList b.toList out.toList ia ib) (G : Good lt) (ha : Srt lt a.toList) (hb : Srt lt b.toList) (h : ia + 1 = a.size) (h1 : lt (gt b (b.size - 1)) (gt a (a.size - 1)) = true) : Res lt a b (out ++ b.extract ib b.size ++ a.extract ia a.size) := by
  have := M.fin ha hb (by
    intro y hy z hz
    have ez : z = gt a (a.size - 1) := by
      obtain ⟨i, hi⟩ := List.mem_iff_getElem?.mp hz
      rw [List.getElem?_drop] at hi
      obtain ⟨e1, e2⟩ := gt_of_list hi
      rw [← e1, show ia + i = a.size - 1 by omega]
    obtain ⟨i, hi⟩ := List.mem_iff_getElem?.mp hy
    rw [List.getElem?_drop] at hi
    obtain ⟨e1, e2⟩ := gt_of_list hi
    rw [ez, ← e1]
    have s1 := srt_gt G hb (i := ib + i) (j := b.size - 1) (by omega) (by omega)
    exact G.ntrans _ _ _ (G.asymm _ _ h1) s1)
  unfold Res
  rw [Array.toList_append, Array.toList_append, ext_all, ext_all]
  exact this
set_option maxHeartbeats 1000000 in
theorem wpS_mergeLo {st : SortSt} {Q : Array Keyed → SortSt → Prop} (hL : LtOk prog w A E s κ U lt) (G : Good lt) (hk : kindOf st = κ) (ha : Srt lt a.toList) (hb : Srt lt b.toList) (Ua : ∀ i, i < a.size → U (gt a i)) (Ub : ∀ i, i < b.size → U (gt b i))
    (ha1 : 1 ≤ a.size) (hb1 : 1 ≤ b.size) (h0 : lt (gt b 0) (gt a 0) = true) (h1 : lt (gt b (b.size - 1)) (gt a (a.size - 1)) = true)
    (hq : ∀ r st', SameSt st st' → Res lt a b r → Q r st') :
    wpS (model prog w) A E s (mergeLo' a b) Q st := by
  refine wpS_bind (wpS_lift (wpAny_rule ⟨rfl, ?_⟩))
  dsimp only
  refine wpS_bind (wpS_elem (by omega) ?_)
  have M1 : Mg lt a.toList b.toList (#[gt b 0] : Array Keyed).toList 0 1 := by
    have := ((Mg.start (lt := lt) a.toList b.toList).symm.one G hb ha (x := gt b 0) (gt_list (by omega)) (by
      intro y hy
      obtain ⟨e1, e2⟩ := gt_of_list hy
      rw [← e1]
      exact G.asymm _ _ h0)).symm
    simpa using this
  by_cases hb2 : 1 = b.size
  · rw [if_pos (by simp [← hb2])]
    exact wpS_pure (hq _ _ (SameSt.rfl' _) (res_doneB M1 ha hb hb2))
  rw [if_neg (by simpa using hb2)]
  by_cases ha2 : 1 = a.size
  · rw [if_pos (by simp [← ha2])]
    exact wpS_pure (hq _ _ (SameSt.rfl' _) (res_lastA M1 G ha hb (by omega) h1))
  rw [if_neg (by simpa using ha2)]
  refine wpS_bind (wpS_get ?_)
  refine wpS_bind (wpS_mono (wpS_forRange
    (I := fun x c st' => SameSt st st' ∧ ∃ out ia ib mg, c = (none, out, ia, ib, mg) ∧ Mg lt a.toList b.toList out.toList ia ib ∧ ia + 1 < a.size ∧ ib < b.size ∧ x < ia + ib)
    (Q := fun c st' => SameSt st st' ∧ ∃ r rest, c = (some r, rest) ∧ Res lt a b r) ?_ ?_ ⟨SameSt.rfl' _, _, _, _, _, rfl, M1, by omega, by omega, by omega⟩) ?_)
  · rintro x c st1 _ hx ⟨hs1, out, ia, ib, mg, rfl, M, hia, hib, hxi⟩
    dsimp only
    refine wpS_bind (wpS_mono (wpS_forRange
      (I := fun y c st' => SameSt st st' ∧ ∃ out ia ib ac bc, c = (none, out, ia, ib, ac, bc) ∧ Mg lt a.toList b.toList out.toList ia ib ∧ ia + 1 < a.size ∧ ib < b.size ∧ x + y < ia + ib)
      (Q := fun c st' => SameSt st st' ∧ ((∃ r rest, c = (some r, rest) ∧ Res lt a b r) ∨ ∃ out ia ib ac bc, c = (none, out, ia, ib, ac, bc) ∧ Mg lt a.toList b.toList out.toList ia ib ∧ ia + 1 < a.size ∧ ib < b.size ∧ x + 1 < ia + ib)) ?_ ?_ ⟨hs1, _, _, _, _, _, rfl, M, hia, hib, hxi⟩) ?_)
    · rintro y c st2 _ hy ⟨hs2, out, ia, ib, ac, bc, rfl, M, hia, hib, hxi⟩
      dsimp only
      refine wpS_bind (wpS_elem hib (wpS_bind (wpS_elem (by omega) (wpS_bind (hL _ _ _ _ (Ub _ hib) (Ua _ (by omega)) (hs2.1.trans hk) ?_)))))
      dsimp only
      cases hw : lt (gt b ib) (gt a ia) with
      | true =>
        rw [if_pos rfl]
        refine wpS_bind (wpS_elem hib ?_)
        have M' : Mg lt a.toList b.toList (out.push (gt b ib)).toList ia (ib + 1) := by
          rw [Array.toList_push]
          refine (M.symm.one G hb ha (gt_list hib) fun z hz => ?_).symm
          rw [← (gt_of_list hz).1]; exact G.asymm _ _ hw
        by_cases hbe : ib + 1 = b.size
        · rw [if_pos (by simpa using hbe)]
          exact wpS_pure ⟨hs2, .inl ⟨_, _, rfl, res_doneB M' ha hb hbe⟩⟩
        rw [if_neg (by simpa using hbe)]
        split
        · exact wpS_pure ⟨hs2, .inr ⟨_, _, _, _, _, rfl, M', hia, by omega, by omega⟩⟩
        · exact wpS_pure ⟨hs2, _, _, _, _, _, rfl, M', hia, by omega, by omega⟩
      | false =>
        rw [if_neg (by simp)]
        refine wpS_bind (wpS_elem (by omega) ?_)
        have M' : Mg lt a.toList b.toList (out.push (gt a ia)).toList (ia + 1) ib := by
          rw [Array.toList_push]
          refine M.one G ha hb (gt_list (by omega)) fun z hz => ?_
          rw [← (gt_of_list hz).1]; exact hw
        by_cases hae : ia + 1 + 1 = a.size
        · rw [if_pos (by simpa using hae)]
          exact wpS_pure ⟨hs2, .inl ⟨_, _, rfl, res_lastA M' G ha hb hae h1⟩⟩
        rw [if_neg (by simpa using hae)]
        split
        · exact wpS_pure ⟨hs2, .inr ⟨_, _, _, _, _, rfl, M', by omega, hib, by omega⟩⟩
        · exact wpS_pure ⟨hs2, _, _, _, _, _, rfl, M', by omega, hib, by omega⟩
    · rintro c st2 ⟨hs2, out, ia, ib, ac, bc, rfl, M, hia, hib, hxi⟩
      exact ⟨hs2, .inr ⟨_, _, _, _, _, rfl, M, hia, hib, by omega⟩⟩
    · rintro c st2 ⟨hs2, hc⟩
      rcases hc with ⟨r, rest, rfl, hR⟩ | ⟨out, ia, ib, ac, bc, rfl, M, hia, hib, hxi⟩
      · dsimp only
        exact wpS_pure ⟨hs2, r, _, rfl, hR⟩
      dsimp only
      refine wpS_bind (wpS_lift (wpAny_rule ⟨rfl, ?_⟩))
      refine wpS_bind (wpS_mono (wpS_forRange
        (I := fun y c st' => SameSt st st' ∧ ∃ out ia ib mg ac bc, c = (none, out, ia, ib, mg, ac, bc) ∧ Mg lt a.toList b.toList out.toList ia ib ∧ ia + 1 < a.size ∧ ib < b.size ∧ x + 1 < ia + ib)
        (Q := fun c st' => SameSt st st' ∧ ((∃ r rest, c = (some r, rest) ∧ Res lt a b r) ∨ ∃ out ia ib mg ac bc, c = (none, out, ia, ib, mg, ac, bc) ∧ Mg lt a.toList b.toList out.toList ia ib ∧ ia + 1 < a.size ∧ ib < b.size ∧ x + 1 < ia + ib)) ?_ ?_ ⟨hs2, _, _, _, _, _, _, rfl, M, hia, hib, hxi⟩) ?_)
      · rintro y c st3 _ hy ⟨hs3, out, ia, ib, mg, ac, bc, rfl, M, hia, hib, hxi⟩
        dsimp only
        by_cases hmg : mg > 1
        · rw [if_pos hmg]
          refine wpS_bind (wpS_modify ?_)
          refine wpS_bind (wpS_elem hib (wpS_bind ?_))
          refine wpS_gallop (lt := lt) (U := U) (κ := κ) hL (hs3.1.trans hk) (by omega) (by omega) (fun i hi => Ua _ (by omega)) (Ub _ hib) (bey_mono G fun i j hij hj => srt_gt G ha (by omega) (by omega)) ?_
          intro k hk1 hk2 hk3
          have hk2' : ∀ i, i < k → lt (gt b ib) (gt a (ia + i)) = false := fun i hi => by have := hk2 i hi; unfold bey at this; simpa using this
          have hk3' : ∀ i, k ≤ i → i < a.size - ia → lt (gt b ib) (gt a (ia + i)) = true := fun i hi1 hi2 => by have := hk3 i hi1 hi2; unfold bey at this; simpa using this
          clear hk2 hk3
          have hs' := fun g => hs3.trans (show SameSt st3 (SortSt.mk' (kindOf st3) (arrOf st3) (pendingOf st3) g (failedOf st3)) from ⟨rfl, rfl, rfl, rfl⟩)
          have hs' := hs' (mg - 1)
          dsimp only
          by_cases hk0 : k > 0
          · rw [if_pos hk0]
            have Mk : Mg lt a.toList b.toList (out ++ a.extract ia (ia + k)).toList (ia + k) ib := by
              rw [Array.toList_append, ext_toList, Nat.add_sub_cancel_left]
              refine M.run G ha hb k fun i x z hi hx hz => ?_
              rw [← (gt_of_list hx).1, ← (gt_of_list hz).1]
              exact hk2' i hi
            by_cases hae : ia + k + 1 = a.size
            · rw [if_pos (by simpa using hae)]
              exact wpS_pure ⟨hs', .inl ⟨_, _, rfl, res_lastA Mk G ha hb hae h1⟩⟩
            rw [if_neg (by simpa using hae)]
            by_cases haf : ia + k = a.size
            · rw [if_pos (by simpa using haf)]
              exact wpS_pure ⟨hs', .inl ⟨_, _, rfl, res_doneA Mk ha hb haf⟩⟩
            rw [if_neg (by simpa using haf)]
            have hlt : lt (gt b ib) (gt a (ia + k)) = true := hk3' k (by omega) (by omega)
            have hja : ia + k + 1 < a.size := by omega
            have hxj : x + 1 < ia + k + ib := by omega
            clear hk2' hk3' hk1 hae haf
            generalize out ++ a.extract ia (ia + k) = o at Mk ⊢
            generalize ia + k = ja at Mk hlt hja hxj ⊢
            have MT := Mk
            refine wpS_bind (wpS_elem hib ?_)
            have Mb := (MT.symm.one G hb ha (gt_list hib) fun z hz => (by rw [← (gt_of_list hz).1]; exact G.asymm _ _ hlt)).symm
            rw [← Array.toList_push] at Mb
            by_cases hbe : ib + 1 = b.size
            · rw [if_pos (by simpa using hbe)]
              exact wpS_pure ⟨hs', .inl ⟨_, _, rfl, res_doneB Mb ha hb hbe⟩⟩
            rw [if_neg (by simpa using hbe)]
            refine wpS_bind (wpS_elem (by omega) (wpS_bind ?_))
            refine wpS_gallop (lt := lt) (U := U) (κ := κ) hL (hs'.1.trans hk) (by omega) (by omega) (fun i hi => Ub _ (by omega)) (Ua _ (by omega)) (bey_mono G fun i j hij hj => srt_gt G hb (by omega) (by omega)) ?_
            intro k1 q1 q2 q3
            have q2' : ∀ i, i < k1 → lt (gt b (ib + 1 + i)) (gt a ja) = true := fun i hi => by have := q2 i hi; unfold bey at this; simpa using this
            have q3' : ∀ i, k1 ≤ i → i < b.size - (ib + 1) → lt (gt b (ib + 1 + i)) (gt a ja) = false := fun i hi1 hi2 => by have := q3 i hi1 hi2; unfold bey at this; simpa using this
            clear q2 q3
            dsimp only
            by_cases hk1 : k1 > 0
            · rw [if_pos hk1]
              have Mr : Mg lt a.toList b.toList (o.push (gt b ib) ++ b.extract (ib + 1) (ib + 1 + k1)).toList ja (ib + 1 + k1) := by
                rw [Array.toList_append, ext_toList, Nat.add_sub_cancel_left]
                refine (Mb.symm.run G hb ha k1 fun i x z hi hx hz => ?_).symm
                rw [← (gt_of_list hx).1, ← (gt_of_list hz).1]
                exact G.asymm _ _ (q2' i hi)
              by_cases hbe2 : ib + 1 + k1 = b.size
              · rw [if_pos (by simpa using hbe2)]
                exact wpS_pure ⟨hs', .inl ⟨_, _, rfl, res_doneB Mr ha hb hbe2⟩⟩
              rw [if_neg (by simpa using hbe2)]
              have hne : ∀ z, b.toList[ib + 1 + k1]? = some z → lt z (gt a ja) = false := fun z hz => by rw [← (gt_of_list hz).1]; exact q3' k1 (by omega) (by omega)
              refine wpS_bind (wpS_elem (by omega) ?_)
              have Me := Mr.one G ha hb (gt_list (by omega : ja < a.size)) hne
              rw [← Array.toList_push] at Me
              by_cases hae : ja + 1 + 1 = a.size
              · rw [if_pos (by simpa using hae)]
                exact wpS_pure ⟨hs', .inl ⟨_, _, rfl, res_lastA Me G ha hb hae h1⟩⟩
              rw [if_neg (by simpa using hae)]
              by_cases h7 : (decide (k < 7) && decide (k1 < 7)) = true
              · rw [if_pos h7]
                exact wpS_pure ⟨hs', .inr ⟨_, _, _, _, _, _, rfl, Me, by omega, by omega, by omega⟩⟩
              · rw [if_neg h7]
                exact wpS_pure ⟨hs', _, _, _, _, _, _, rfl, Me, by omega, by omega, by omega⟩
            · rw [if_neg hk1]
              have hne : ∀ z, b.toList[ib + 1]? = some z → lt z (gt a ja) = false := fun z hz => by rw [← (gt_of_list hz).1]; exact q3' 0 (by omega) (by omega)
              refine wpS_bind (wpS_elem (by omega) ?_)
              have Me := Mb.one G ha hb (gt_list (by omega : ja < a.size)) hne
              rw [← Array.toList_push] at Me
              by_cases hae : ja + 1 + 1 = a.size
              · rw [if_pos (by simpa using hae)]
                exact wpS_pure ⟨hs', .inl ⟨_, _, rfl, res_lastA Me G ha hb hae h1⟩⟩
              rw [if_neg (by simpa using hae)]
              by_cases h7 : (decide (k < 7) && decide (k1 < 7)) = true
              · rw [if_pos h7]
                exact wpS_pure ⟨hs', .inr ⟨_, _, _, _, _, _, rfl, Me, by omega, by omega, by omega⟩⟩
              · rw [if_neg h7]
                exact wpS_pure ⟨hs', _, _, _, _, _, _, rfl, Me, by omega, by omega, by omega⟩
          · rw [if_neg hk0]
            have hlt : lt (gt b ib) (gt a ia) = true := hk3' 0 (by omega) (by omega)
            have MT := M
            have hja : ia + 1 < a.size := by omega
            have hxj : x + 1 < ia + ib := by omega
            generalize out = o at MT ⊢
            generalize ia = ja at MT hlt hja hxj ⊢
            refine wpS_bind (wpS_elem hib ?_)
            have Mb := (MT.symm.one G hb ha (gt_list hib) fun z hz => (by rw [← (gt_of_list hz).1]; exact G.asymm _ _ hlt)).symm
            rw [← Array.toList_push] at Mb
            by_cases hbe : ib + 1 = b.size
            · rw [if_pos (by simpa using hbe)]
              exact wpS_pure ⟨hs', .inl ⟨_, _, rfl, res_doneB Mb ha hb hbe⟩⟩
            rw [if_neg (by simpa using hbe)]
            refine wpS_bind (wpS_elem (by omega) (wpS_bind ?_))
            refine wpS_gallop (lt := lt) (U := U) (κ := κ) hL (hs'.1.trans hk) (by omega) (by omega) (fun i hi => Ub _ (by omega)) (Ua _ (by omega)) (bey_mono G fun i j hij hj => srt_gt G hb (by omega) (by omega)) ?_
            intro k1 q1 q2 q3
            have q2' : ∀ i, i < k1 → lt (gt b (ib + 1 + i)) (gt a ja) = true := fun i hi => by have := q2 i hi; unfold bey at this; simpa using this
            have q3' : ∀ i, k1 ≤ i → i < b.size - (ib + 1) → lt (gt b (ib + 1 + i)) (gt a ja) = false := fun i hi1 hi2 => by have := q3 i hi1 hi2; unfold bey at this; simpa using this
            clear q2 q3
            dsimp only
            by_cases hk1 : k1 > 0
            · rw [if_pos hk1]
              have Mr : Mg lt a.toList b.toList (o.push (gt b ib) ++ b.extract (ib + 1) (ib + 1 + k1)).toList ja (ib + 1 + k1) := by
                rw [Array.toList_append, ext_toList, Nat.add_sub_cancel_left]
                refine (Mb.symm.run G hb ha k1 fun i x z hi hx hz => ?_).symm
                rw [← (gt_of_list hx).1, ← (gt_of_list hz).1]
                exact G.asymm _ _ (q2' i hi)
              by_cases hbe2 : ib + 1 + k1 = b.size
              · rw [if_pos (by simpa using hbe2)]
                exact wpS_pure ⟨hs', .inl ⟨_, _, rfl, res_doneB Mr ha hb hbe2⟩⟩
              rw [if_neg (by simpa using hbe2)]
              have hne : ∀ z, b.toList[ib + 1 + k1]? = some z → lt z (gt a ja) = false := fun z hz => by rw [← (gt_of_list hz).1]; exact q3' k1 (by omega) (by omega)
              refine wpS_bind (wpS_elem (by omega) ?_)
              have Me := Mr.one G ha hb (gt_list (by omega : ja < a.size)) hne
              rw [← Array.toList_push] at Me
              by_cases hae : ja + 1 + 1 = a.size
              · rw [if_pos (by simpa using hae)]
                exact wpS_pure ⟨hs', .inl ⟨_, _, rfl, res_lastA Me G ha hb hae h1⟩⟩
              rw [if_neg (by simpa using hae)]
              by_cases h7 : (decide (k < 7) && decide (k1 < 7)) = true
              · rw [if_pos h7]
                exact wpS_pure ⟨hs', .inr ⟨_, _, _, _, _, _, rfl, Me, by omega, by omega, by omega⟩⟩
              · rw [if_neg h7]
                exact wpS_pure ⟨hs', _, _, _, _, _, _, rfl, Me, by omega, by omega, by omega⟩
            · rw [if_neg hk1]
              have hne : ∀ z, b.toList[ib + 1]? = some z → lt z (gt a ja) = false := fun z hz => by rw [← (gt_of_list hz).1]; exact q3' 0 (by omega) (by omega)
              refine wpS_bind (wpS_elem (by omega) ?_)
              have Me := Mb.one G ha hb (gt_list (by omega : ja < a.size)) hne
              rw [← Array.toList_push] at Me
              by_cases hae : ja + 1 + 1 = a.size
              · rw [if_pos (by simpa using hae)]
                exact wpS_pure ⟨hs', .inl ⟨_, _, rfl, res_lastA Me G ha hb hae h1⟩⟩
              rw [if_neg (by simpa using hae)]
              by_cases h7 : (decide (k < 7) && decide (k1 < 7)) = true
              · rw [if_pos h7]
                exact wpS_pure ⟨hs', .inr ⟨_, _, _, _, _, _, rfl, Me, by omega, by omega, by omega⟩⟩
              · rw [if_neg h7]
                exact wpS_pure ⟨hs', _, _, _, _, _, _, rfl, Me, by omega, by omega, by omega⟩
        · rw [if_neg hmg]
          refine wpS_bind (wpS_modify ?_)
          refine wpS_bind (wpS_elem hib (wpS_bind ?_))
          refine wpS_gallop (lt := lt) (U := U) (κ := κ) hL (hs3.1.trans hk) (by omega) (by omega) (fun i hi => Ua _ (by omega)) (Ub _ hib) (bey_mono G fun i j hij hj => srt_gt G ha (by omega) (by omega)) ?_
          intro k hk1 hk2 hk3
          have hk2' : ∀ i, i < k → lt (gt b ib) (gt a (ia + i)) = false := fun i hi => by have := hk2 i hi; unfold bey at this; simpa using this
          have hk3' : ∀ i, k ≤ i → i < a.size - ia → lt (gt b ib) (gt a (ia + i)) = true := fun i hi1 hi2 => by have := hk3 i hi1 hi2; unfold bey at this; simpa using this
          clear hk2 hk3
          have hs' := fun g => hs3.trans (show SameSt st3 (SortSt.mk' (kindOf st3) (arrOf st3) (pendingOf st3) g (failedOf st3)) from ⟨rfl, rfl, rfl, rfl⟩)
          have hs' := hs' mg
          dsimp only
          by_cases hk0 : k > 0
          · rw [if_pos hk0]
            have Mk : Mg lt a.toList b.toList (out ++ a.extract ia (ia + k)).toList (ia + k) ib := by
              rw [Array.toList_append, ext_toList, Nat.add_sub_cancel_left]
              refine M.run G ha hb k fun i x z hi hx hz => ?_
              rw [← (gt_of_list hx).1, ← (gt_of_list hz).1]
              exact hk2' i hi
            by_cases hae : ia + k + 1 = a.size
            · rw [if_pos (by simpa using hae)]
              exact wpS_pure ⟨hs', .inl ⟨_, _, rfl, res_lastA Mk G ha hb hae h1⟩⟩
            rw [if_neg (by simpa using hae)]
            by_cases haf : ia + k = a.size
            · rw [if_pos (by simpa using haf)]
              exact wpS_pure ⟨hs', .inl ⟨_, _, rfl, res_doneA Mk ha hb haf⟩⟩
            rw [if_neg (by simpa using haf)]
            have hlt : lt (gt b ib) (gt a (ia + k)) = true := hk3' k (by omega) (by omega)
            have hja : ia + k + 1 < a.size := by omega
            have hxj : x + 1 < ia + k + ib := by omega
            clear hk2' hk3' hk1 hae haf
            generalize out ++ a.extract ia (ia + k) = o at Mk ⊢
            generalize ia + k = ja at Mk hlt hja hxj ⊢
            have MT := Mk
            refine wpS_bind (wpS_elem hib ?_)
            have Mb := (MT.symm.one G hb ha (gt_list hib) fun z hz => (by rw [← (gt_of_list hz).1]; exact G.asymm _ _ hlt)).symm
            rw [← Array.toList_push] at Mb
            by_cases hbe : ib + 1 = b.size
            · rw [if_pos (by simpa using hbe)]
              exact wpS_pure ⟨hs', .inl ⟨_, _, rfl, res_doneB Mb ha hb hbe⟩⟩
            rw [if_neg (by simpa using hbe)]
            refine wpS_bind (wpS_elem (by omega) (wpS_bind ?_))
            refine wpS_gallop (lt := lt) (U := U) (κ := κ) hL (hs'.1.trans hk) (by omega) (by omega) (fun i hi => Ub _ (by omega)) (Ua _ (by omega)) (bey_mono G fun i j hij hj => srt_gt G hb (by omega) (by omega)) ?_
            intro k1 q1 q2 q3
            have q2' : ∀ i, i < k1 → lt (gt b (ib + 1 + i)) (gt a ja) = true := fun i hi => by have := q2 i hi; unfold bey at this; simpa using this
            have q3' : ∀ i, k1 ≤ i → i < b.size - (ib + 1) → lt (gt b (ib + 1 + i)) (gt a ja) = false := fun i hi1 hi2 => by have := q3 i hi1 hi2; unfold bey at this; simpa using this
            clear q2 q3
            dsimp only
            by_cases hk1 : k1 > 0
            · rw [if_pos hk1]
              have Mr : Mg lt a.toList b.toList (o.push (gt b ib) ++ b.extract (ib + 1) (ib + 1 + k1)).toList ja (ib + 1 + k1) := by
                rw [Array.toList_append, ext_toList, Nat.add_sub_cancel_left]
                refine (Mb.symm.run G hb ha k1 fun i x z hi hx hz => ?_).symm
                rw [← (gt_of_list hx).1, ← (gt_of_list hz).1]
                exact G.asymm _ _ (q2' i hi)
              by_cases hbe2 : ib + 1 + k1 = b.size
              · rw [if_pos (by simpa using hbe2)]
                exact wpS_pure ⟨hs', .inl ⟨_, _, rfl, res_doneB Mr ha hb hbe2⟩⟩
              rw [if_neg (by simpa using hbe2)]
              have hne : ∀ z, b.toList[ib + 1 + k1]? = some z → lt z (gt a ja) = false := fun z hz => by rw [← (gt_of_list hz).1]; exact q3' k1 (by omega) (by omega)
              refine wpS_bind (wpS_elem (by omega) ?_)
              have Me := Mr.one G ha hb (gt_list (by omega : ja < a.size)) hne
              rw [← Array.toList_push] at Me
              by_cases hae : ja + 1 + 1 = a.size
              · rw [if_pos (by simpa using hae)]
                exact wpS_pure ⟨hs', .inl ⟨_, _, rfl, res_lastA Me G ha hb hae h1⟩⟩
              rw [if_neg (by simpa using hae)]
              by_cases h7 : (decide (k < 7) && decide (k1 < 7)) = true
              · rw [if_pos h7]
                exact wpS_pure ⟨hs', .inr ⟨_, _, _, _, _, _, rfl, Me, by omega, by omega, by omega⟩⟩
              · rw [if_neg h7]
                exact wpS_pure ⟨hs', _, _, _, _, _, _, rfl, Me, by omega, by omega, by omega⟩
            · rw [if_neg hk1]
              have hne : ∀ z, b.toList[ib + 1]? = some z → lt z (gt a ja) = false := fun z hz => by rw [← (gt_of_list hz).1]; exact q3' 0 (by omega) (by omega)
              refine wpS_bind (wpS_elem (by omega) ?_)
              have Me := Mb.one G ha hb (gt_list (by omega : ja < a.size)) hne
              rw [← Array.toList_push] at Me
              by_cases hae : ja + 1 + 1 = a.size
              · rw [if_pos (by simpa using hae)]
                exact wpS_pure ⟨hs', .inl ⟨_, _, rfl, res_lastA Me G ha hb hae h1⟩⟩
              rw [if_neg (by simpa using hae)]
              by_cases h7 : (decide (k < 7) && decide (k1 < 7)) = true
              · rw [if_pos h7]
                exact wpS_pure ⟨hs', .inr ⟨_, _, _, _, _, _, rfl, Me, by omega, by omega, by omega⟩⟩
              · rw [if_neg h7]
                exact wpS_pure ⟨hs', _, _, _, _, _, _, rfl, Me, by omega, by omega, by omega⟩
          · rw [if_neg hk0]
            have hlt : lt (gt b ib) (gt a ia) = true := hk3' 0 (by omega) (by omega)
            have MT := M
            have hja : ia + 1 < a.size := by omega
            have hxj : x + 1 < ia + ib := by omega
            generalize out = o at MT ⊢
            generalize ia = ja at MT hlt hja hxj ⊢
            refine wpS_bind (wpS_elem hib ?_)
            have Mb := (MT.symm.one G hb ha (gt_list hib) fun z hz => (by rw [← (gt_of_list hz).1]; exact G.asymm _ _ hlt)).symm
            rw [← Array.toList_push] at Mb
            by_cases hbe : ib + 1 = b.size
            · rw [if_pos (by simpa using hbe)]
              exact wpS_pure ⟨hs', .inl ⟨_, _, rfl, res_doneB Mb ha hb hbe⟩⟩
            rw [if_neg (by simpa using hbe)]
            refine wpS_bind (wpS_elem (by omega) (wpS_bind ?_))
            refine wpS_gallop (lt := lt) (U := U) (κ := κ) hL (hs'.1.trans hk) (by omega) (by omega) (fun i hi => Ub _ (by omega)) (Ua _ (by omega)) (bey_mono G fun i j hij hj => srt_gt G hb (by omega) (by omega)) ?_
            intro k1 q1 q2 q3
            have q2' : ∀ i, i < k1 → lt (gt b (ib + 1 + i)) (gt a ja) = true := fun i hi => by have := q2 i hi; unfold bey at this; simpa using this
            have q3' : ∀ i, k1 ≤ i → i < b.size - (ib + 1) → lt (gt b (ib + 1 + i)) (gt a ja) = false := fun i hi1 hi2 => by have := q3 i hi1 hi2; unfold bey at this; simpa using this
            clear q2 q3
            dsimp only
            by_cases hk1 : k1 > 0
            · rw [if_pos hk1]
              have Mr : Mg lt a.toList b.toList (o.push (gt b ib) ++ b.extract (ib + 1) (ib + 1 + k1)).toList ja (ib + 1 + k1) := by
                rw [Array.toList_append, ext_toList, Nat.add_sub_cancel_left]
                refine (Mb.symm.run G hb ha k1 fun i x z hi hx hz => ?_).symm
                rw [← (gt_of_list hx).1, ← (gt_of_list hz).1]
                exact G.asymm _ _ (q2' i hi)
              by_cases hbe2 : ib + 1 + k1 = b.size
              · rw [if_pos (by simpa using hbe2)]
                exact wpS_pure ⟨hs', .inl ⟨_, _, rfl, res_doneB Mr ha hb hbe2⟩⟩
              rw [if_neg (by simpa using hbe2)]
              have hne : ∀ z, b.toList[ib + 1 + k1]? = some z → lt z (gt a ja) = false := fun z hz => by rw [← (gt_of_list hz).1]; exact q3' k1 (by omega) (by omega)
              refine wpS_bind (wpS_elem (by omega) ?_)
              have Me := Mr.one G ha hb (gt_list (by omega : ja < a.size)) hne
              rw [← Array.toList_push] at Me
              by_cases hae : ja + 1 + 1 = a.size
              · rw [if_pos (by simpa using hae)]
                exact wpS_pure ⟨hs', .inl ⟨_, _, rfl, res_lastA Me G ha hb hae h1⟩⟩
              rw [if_neg (by simpa using hae)]
              by_cases h7 : (decide (k < 7) && decide (k1 < 7)) = true
              · rw [if_pos h7]
                exact wpS_pure ⟨hs', .inr ⟨_, _, _, _, _, _, rfl, Me, by omega, by omega, by omega⟩⟩
              · rw [if_neg h7]
                exact wpS_pure ⟨hs', _, _, _, _, _, _, rfl, Me, by omega, by omega, by omega⟩
            · rw [if_neg hk1]
              have hne : ∀ z, b.toList[ib + 1]? = some z → lt z (gt a ja) = false := fun z hz => by rw [← (gt_of_list hz).1]; exact q3' 0 (by omega) (by omega)
              refine wpS_bind (wpS_elem (by omega) ?_)
              have Me := Mb.one G ha hb (gt_list (by omega : ja < a.size)) hne
              rw [← Array.toList_push] at Me
              by_cases hae : ja + 1 + 1 = a.size
              · rw [if_pos (by simpa using hae)]
                exact wpS_pure ⟨hs', .inl ⟨_, _, rfl, res_lastA Me G ha hb hae h1⟩⟩
              rw [if_neg (by simpa using hae)]
              by_cases h7 : (decide (k < 7) && decide (k1 < 7)) = true
              · rw [if_pos h7]
                exact wpS_pure ⟨hs', .inr ⟨_, _, _, _, _, _, rfl, Me, by omega, by omega, by omega⟩⟩
              · rw [if_neg h7]
                exact wpS_pure ⟨hs', _, _, _, _, _, _, rfl, Me, by omega, by omega, by omega⟩
      · rintro c st3 ⟨hs3, out, ia, ib, mg, ac, bc, rfl, M, hia, hib, hxi⟩
        exact ⟨hs3, .inr ⟨_, _, _, _, _, _, rfl, M, hia, hib, hxi⟩⟩
      · rintro c st3 ⟨hs3, hc⟩
        rcases hc with ⟨r, rest, rfl, hR⟩ | ⟨out, ia, ib, mg, ac, bc, rfl, M, hia, hib, hxi⟩
        · dsimp only
          exact wpS_pure ⟨hs3, r, _, rfl, hR⟩
        dsimp only
        refine wpS_bind (wpS_modify ?_)
        exact wpS_pure ⟨hs3.trans ⟨rfl, rfl, rfl, rfl⟩, _, _, _, _, rfl, M, hia, hib, hxi⟩
  · rintro c st1 ⟨hs1, out, ia, ib, mg, rfl, M, hia, hib, hxi⟩
    omega
  · rintro c st1 ⟨hs1, r, rest, rfl, hR⟩
    dsimp only
    exact wpS_pure (hq r st1 hs1 hR)
end
end Mine
namespace Mine
def rl (lt : Keyed → Keyed → Bool) (x y : Keyed) : Bool := lt y x
section
variable {prog : Program} {w : World} {A : Around} {E : Value → Shared → Prop} {s : Shared} {lt : Keyed → Keyed → Bool} {U : Keyed → Prop} {κ : SortKind} {a b : Array Keyed} {out : Array Keyed} {na nb : Nat}
theorem rl_good (G : Good lt) : Good (rl lt) := ⟨fun a b h => G.asymm _ _ h, fun a b c h1 h2 => G.ntrans c b a h2 h1⟩
theorem rl_srt {l : List Keyed} (h : Srt lt l) : Srt (rl lt) l.reverse := by
  unfold Srt rl
  rw [List.pairwise_reverse]
  exact h
theorem srt_rl {l : List Keyed} (h : Srt (rl lt) l) : Srt lt l.reverse := by
  unfold Srt
  rw [List.pairwise_reverse]
  exact h
def MgH (lt : Keyed → Keyed → Bool) (a b out : Array Keyed) (na nb : Nat) : Prop := Mg (rl lt) a.toList.reverse b.toList.reverse out.toList (a.size - na) (b.size - nb) ∧ na ≤ a.size ∧ nb ≤ b.size
theorem rev_at {a : Array Keyed} {n : Nat} {x : Keyed} (hn : n ≤ a.size) (h : a.toList.reverse[a.size - n]? = some x) : 1 ≤ n ∧ x = gt a (n - 1) := by
  have hi := (List.getElem?_eq_some_iff.mp h).1
  simp at hi
  rw [List.getElem?_reverse (by simp; omega)] at h
  have e := (gt_of_list h).1
  refine ⟨by omega, ?_⟩
  rw [← e]
  congr 1
  simp
  omega
theorem at_rev {a : Array Keyed} {n : Nat} (hn : n ≤ a.size) (h1 : 1 ≤ n) : a.toList.reverse[a.size - n]? = some (gt a (n - 1)) := by
  rw [List.getElem?_reverse (by simp; omega)]
  have : a.toList.length - 1 - (a.size - n) = n - 1 := by simp; omega
  rw [this]
  exact gt_list (by omega)
theorem MgH.symm (M : MgH lt a b out na nb) : MgH lt b a out nb na := ⟨M.1.symm, M.2.2, M.2.1⟩
theorem MgH.oneA (M : MgH lt a b out na nb) (G : Good lt) (ha : Srt lt a.toList) (hb : Srt lt b.toList) (h1 : 1 ≤ na) (h : 1 ≤ nb → lt (gt a (na - 1)) (gt b (nb - 1)) = false) : MgH lt a b (out.push (gt a (na - 1))) (na - 1) nb := by
  obtain ⟨m, hna, hnb⟩ := M
  refine ⟨?_, by omega, hnb⟩
  have := m.one (rl_good G) (rl_srt ha) (rl_srt hb) (at_rev hna h1) (fun y hy => by
    obtain ⟨k1, k2⟩ := rev_at hnb hy
    rw [k2]; exact h k1)
  rw [Array.toList_push, show a.size - (na - 1) = a.size - na + 1 by omega]
  exact this
theorem MgH.oneB (M : MgH lt a b out na nb) (G : Good lt) (ha : Srt lt a.toList) (hb : Srt lt b.toList) (h1 : 1 ≤ nb) (h : 1 ≤ na → lt (gt b (nb - 1)) (gt a (na - 1)) = false) : MgH lt a b (out.push (gt b (nb - 1))) na (nb - 1) :=
  (M.symm.oneA G hb ha h1 h).symm
theorem MgH.runA (M : MgH lt a b out na nb) (G : Good lt) (ha : Srt lt a.toList) (hb : Srt lt b.toList) {k : Nat} (hk : k ≤ na) (h : ∀ i, k ≤ i → i < na → 1 ≤ nb → lt (gt a i) (gt b (nb - 1)) = false) : MgH lt a b (out ++ (a.extract k na).reverse) k nb := by
  obtain ⟨m, hna, hnb⟩ := M
  refine ⟨?_, by omega, hnb⟩
  have := m.run (rl_good G) (rl_srt ha) (rl_srt hb) (na - k) (fun i x y hi hx hy => by
    obtain ⟨k1, k2⟩ := rev_at hnb hy
    have e : a.size - na + i = a.size - (na - i) := by omega
    rw [e] at hx
    obtain ⟨k3, k4⟩ := rev_at (by omega) hx
    rw [k2, k4]
    exact h (na - i - 1) (by omega) (by omega) k1)
  have e1 : a.size - na + (na - k) = a.size - k := by omega
  rw [e1] at this
  have e2 : ((a.toList.reverse.drop (a.size - na)).take (na - k)) = (a.extract k na).reverse.toList := by
    rw [Array.toList_reverse, ext_toList, List.drop_reverse, List.take_reverse]
    congr 1
    simp only [Array.length_toList, List.length_take]
    rw [show a.size - (a.size - na) = na by omega, show min na a.size - (na - k) = k by omega, List.drop_take]
  rw [e2, ← Array.toList_append] at this
  exact this
theorem MgH.runB (M : MgH lt a b out na nb) (G : Good lt) (ha : Srt lt a.toList) (hb : Srt lt b.toList) {k : Nat} (hk : k ≤ nb) (h : ∀ i, k ≤ i → i < nb → 1 ≤ na → lt (gt b i) (gt a (na - 1)) = false) : MgH lt a b (out ++ (b.extract k nb).reverse) na k :=
  (M.symm.runA G hb ha hk h).symm
theorem drop_rev_take {a : Array Keyed} (h : na ≤ a.size) : a.toList.reverse.drop (a.size - na) = (a.extract 0 na).toList.reverse := by
  rw [List.drop_reverse, ext_toList]
  simp only [Array.length_toList, List.drop_zero, Nat.sub_zero]
  rw [show a.size - (a.size - na) = na by omega]
theorem res_rev {l : List Keyed} {r : Array Keyed} (h : Srt (rl lt) l ∧ l.Perm (a.toList.reverse ++ b.toList.reverse)) (e : r.toList = l.reverse) : Res lt a b r := by
  refine ⟨by rw [e]; exact srt_rl h.1, ?_⟩
  rw [e]
  refine (List.reverse_perm l).trans (h.2.trans ?_)
  exact (List.reverse_perm _).append (List.reverse_perm _)
theorem res_H_done (M : MgH lt a b out na nb) (ha : Srt lt a.toList) (hb : Srt lt b.toList) (h : na = 0 ∨ nb = 0) : Res lt a b (a.extract 0 na ++ b.extract 0 nb ++ out.reverse) := by
  obtain ⟨m, hna, hnb⟩ := M
  refine res_rev (m.fin (rl_srt ha) (rl_srt hb) ?_) ?_
  · intro y hy z hz
    rcases h with rfl | rfl
    · rw [drop_rev_take hna] at hz; simp at hz
    · rw [drop_rev_take hnb] at hy; simp at hy
  · rw [drop_rev_take hna, drop_rev_take hnb]
    simp
theorem res_H_first (M : MgH lt a b out na nb) (G : Good lt) (ha : Srt lt a.toList) (hb : Srt lt b.toList) (h : nb = 1) (h0 : lt (gt b 0) (gt a 0) = true) : Res lt a b (b.extract 0 nb ++ a.extract 0 na ++ out.reverse) := by
  obtain ⟨m, hna, hnb⟩ := M
  have f := m.symm.fin (rl_srt hb) (rl_srt ha) (by
    intro y hy z hz
    rw [drop_rev_take hna] at hy
    rw [drop_rev_take hnb] at hz
    rw [List.mem_reverse] at hy hz
    obtain ⟨i, hi⟩ := List.mem_iff_getElem?.mp hy
    obtain ⟨j, hj⟩ := List.mem_iff_getElem?.mp hz
    rw [ext_toList, List.drop_zero] at hi hj
    have hj0 : j = 0 := by have := (List.getElem?_eq_some_iff.mp hj).1; simp at this; omega
    have hi0 : i < na := by have := (List.getElem?_eq_some_iff.mp hi).1; simp at this; omega
    rw [List.getElem?_take_of_lt (by omega)] at hi hj
    obtain ⟨e1, e2⟩ := gt_of_list hi
    obtain ⟨e3, e4⟩ := gt_of_list hj
    rw [← e1, ← e3, hj0]
    show lt (gt a i) (gt b 0) = false
    exact G.ntrans _ _ _ (srt_gt G ha (Nat.zero_le i) e2) (G.asymm _ _ h0))
  refine res_rev ⟨f.1, f.2.trans List.perm_append_comm⟩ ?_
  rw [drop_rev_take hna, drop_rev_take hnb]
  simp
set_option maxHeartbeats 1000000 in
theorem wpS_mergeHi {st : SortSt} {Q : Array Keyed → SortSt → Prop} (hL : LtOk prog w A E s κ U lt) (G : Good lt) (hk : kindOf st = κ) (ha : Srt lt a.toList) (hb : Srt lt b.toList) (Ua : ∀ i, i < a.size → U (gt a i)) (Ub : ∀ i, i < b.size → U (gt b i))
    (ha1 : 1 ≤ a.size) (hb1 : 1 ≤ b.size) (h0 : lt (gt b 0) (gt a 0) = true) (h1 : lt (gt b (b.size - 1)) (gt a (a.size - 1)) = true)
    (hq : ∀ r st', SameSt st st' → Res lt a b r → Q r st') :
    wpS (model prog w) A E s (mergeHi' a b) Q st := by
  refine wpS_bind (wpS_lift (wpAny_rule ⟨rfl, ?_⟩))
  dsimp only
  refine wpS_bind (wpS_elem (by omega) ?_)
  have M0 : MgH lt a b #[] a.size b.size := ⟨by rw [Nat.sub_self, Nat.sub_self]; exact Mg.start _ _, Nat.le_refl _, Nat.le_refl _⟩
  have M1 := M0.oneA G ha hb ha1 (fun _ => G.asymm _ _ h1)
  by_cases ha2 : a.size - 1 = 0
  · rw [if_pos (by simpa using ha2)]
    exact wpS_pure (hq _ _ (SameSt.rfl' _) (res_H_done M1 ha hb (.inl ha2)))
  rw [if_neg (by simpa using ha2)]
  by_cases hb2 : b.size = 1
  · rw [if_pos (by simpa using hb2)]
    exact wpS_pure (hq _ _ (SameSt.rfl' _) (res_H_first M1 G ha hb hb2 h0))
  rw [if_neg (by simpa using hb2)]
  refine wpS_bind (wpS_get ?_)
  refine wpS_bind (wpS_mono (wpS_forRange
    (I := fun x c st' => SameSt st st' ∧ ∃ na nb out mg, c = (none, na, nb, out, mg) ∧ MgH lt a b out na nb ∧ 1 ≤ na ∧ 2 ≤ nb ∧ x < (a.size - na) + (b.size - nb))
    (Q := fun c st' => SameSt st st' ∧ ∃ r rest, c = (some r, rest) ∧ Res lt a b r) ?_ ?_ ⟨SameSt.rfl' _, _, _, _, _, rfl, M1, by omega, by omega, by omega⟩) ?_)
  · rintro x c st1 _ hx ⟨hs1, na, nb, out, mg, rfl, M, hia, hib, hxi⟩
    dsimp only
    refine wpS_bind (wpS_mono (wpS_forRange
      (I := fun y c st' => SameSt st st' ∧ ∃ na nb out ac bc, c = (none, na, nb, out, ac, bc) ∧ MgH lt a b out na nb ∧ 1 ≤ na ∧ 2 ≤ nb ∧ x + y < (a.size - na) + (b.size - nb))
      (Q := fun c st' => SameSt st st' ∧ ((∃ r rest, c = (some r, rest) ∧ Res lt a b r) ∨ ∃ na nb out ac bc, c = (none, na, nb, out, ac, bc) ∧ MgH lt a b out na nb ∧ 1 ≤ na ∧ 2 ≤ nb ∧ x + 1 < (a.size - na) + (b.size - nb))) ?_ ?_ ⟨hs1, _, _, _, _, _, rfl, M, hia, hib, hxi⟩) ?_)
    · rintro y c st2 _ hy ⟨hs2, na, nb, out, ac, bc, rfl, M, hia, hib, hxi⟩
      have hna := M.2.1
      have hnb := M.2.2
      dsimp only
      refine wpS_bind (wpS_elem (by omega) (wpS_bind (wpS_elem (by omega) (wpS_bind (hL _ _ _ _ (Ub _ (by omega)) (Ua _ (by omega)) (hs2.1.trans hk) ?_)))))
      dsimp only
      cases hw : lt (gt b (nb - 1)) (gt a (na - 1)) with
      | true =>
        rw [if_pos rfl]
        refine wpS_bind (wpS_elem (by omega) ?_)
        have M' := M.oneA G ha hb hia (fun _ => G.asymm _ _ hw)
        by_cases hbe : na - 1 = 0
        · rw [if_pos (by simpa using hbe)]
          exact wpS_pure ⟨hs2, .inl ⟨_, _, rfl, res_H_done M' ha hb (.inl hbe)⟩⟩
        rw [if_neg (by simpa using hbe)]
        split
        · exact wpS_pure ⟨hs2, .inr ⟨_, _, _, _, _, rfl, M', by omega, hib, by omega⟩⟩
        · exact wpS_pure ⟨hs2, _, _, _, _, _, rfl, M', by omega, hib, by omega⟩
      | false =>
        rw [if_neg (by simp)]
        refine wpS_bind (wpS_elem (by omega) ?_)
        have M' := M.oneB G ha hb (by omega) (fun _ => hw)
        by_cases hae : nb - 1 = 1
        · rw [if_pos (by simpa using hae)]
          exact wpS_pure ⟨hs2, .inl ⟨_, _, rfl, res_H_first M' G ha hb hae h0⟩⟩
        rw [if_neg (by simpa using hae)]
        split
        · exact wpS_pure ⟨hs2, .inr ⟨_, _, _, _, _, rfl, M', hia, by omega, by omega⟩⟩
        · exact wpS_pure ⟨hs2, _, _, _, _, _, rfl, M', hia, by omega, by omega⟩
    · rintro c st2 ⟨hs2, na, nb, out, ac, bc, rfl, M, hia, hib, hxi⟩
      exact ⟨hs2, .inr ⟨_, _, _, _, _, rfl, M, hia, hib, by omega⟩⟩
    · rintro c st2 ⟨hs2, hc⟩
      rcases hc with ⟨r, rest, rfl, hR⟩ | ⟨na, nb, out, ac, bc, rfl, M, hia, hib, hxi⟩
      · dsimp only
        exact wpS_pure ⟨hs2, r, _, rfl, hR⟩
      dsimp only
      refine wpS_bind (wpS_lift (wpAny_rule ⟨rfl, ?_⟩))
      refine wpS_bind (wpS_mono (wpS_forRange
        (I := fun y c st' => SameSt st st' ∧ ∃ na nb out mg ac bc, c = (none, na, nb, out, mg, ac, bc) ∧ MgH lt a b out na nb ∧ 1 ≤ na ∧ 2 ≤ nb ∧ x + 1 < (a.size - na) + (b.size - nb))
        (Q := fun c st' => SameSt st st' ∧ ((∃ r rest, c = (some r, rest) ∧ Res lt a b r) ∨ ∃ na nb out mg ac bc, c = (none, na, nb, out, mg, ac, bc) ∧ MgH lt a b out na nb ∧ 1 ≤ na ∧ 2 ≤ nb ∧ x + 1 < (a.size - na) + (b.size - nb))) ?_ ?_ ⟨hs2, _, _, _, _, _, _, rfl, M, hia, hib, hxi⟩) ?_)
      · rintro y c st3 _ hy ⟨hs3, na, nb, out, mg, ac, bc, rfl, M, hia, hib, hxi⟩
        have hna := M.2.1
        have hnb := M.2.2
        dsimp only
        by_cases hmg : mg > 1
        · rw [if_pos hmg]
          refine wpS_bind (wpS_modify ?_)
          refine wpS_bind (wpS_elem (by omega) (wpS_bind ?_))
          refine wpS_gallop (lt := lt) (U := U) (κ := κ) hL (hs3.1.trans hk) (by omega) (by omega) (fun i hi => Ua _ (by omega)) (Ub _ (by omega)) (bey_mono G fun i j hij hj => srt_gt G ha (by omega) (by omega)) ?_
          intro at1 hk1 hk2 hk3
          have hk2' : ∀ i, i < at1 → lt (gt b (nb - 1)) (gt a i) = false := fun i hi => by have := hk2 i hi; unfold bey at this; simpa using this
          have hk3' : ∀ i, at1 ≤ i → i < na → lt (gt b (nb - 1)) (gt a i) = true := fun i hi1 hi2 => by have := hk3 i hi1 hi2; unfold bey at this; simpa using this
          clear hk2 hk3
          have hs' := fun g => hs3.trans (show SameSt st3 (SortSt.mk' (kindOf st3) (arrOf st3) (pendingOf st3) g (failedOf st3)) from ⟨rfl, rfl, rfl, rfl⟩)
          have hs' := hs' (mg - 1)
          dsimp only
          by_cases hk0 : na - at1 > 0
          · rw [if_pos hk0]
            have Mk := M.runA G ha hb (k := at1) hk1 (fun i hi1 hi2 _ => G.asymm _ _ (hk3' i hi1 hi2))
            by_cases hae : at1 = 0
            · rw [if_pos (by simpa using hae)]
              exact wpS_pure ⟨hs', .inl ⟨_, _, rfl, res_H_done Mk ha hb (.inl hae)⟩⟩
            rw [if_neg (by simpa using hae)]
            have hlt : lt (gt b (nb - 1)) (gt a (at1 - 1)) = false := hk2' (at1 - 1) (by omega)
            have hja : 1 ≤ at1 ∧ at1 ≤ a.size := by omega
            have hxj : x + 1 < (a.size - at1) + (b.size - nb) := by omega
            generalize out ++ (a.extract at1 na).reverse = o at Mk ⊢
            have hle : at1 ≤ na := hk1
            generalize hjj : at1 = ja at Mk hlt hja hxj ⊢
            have MT := Mk
            refine wpS_bind (wpS_elem (by omega) ?_)
            have Mb := MT.oneB G ha hb (by omega) (fun _ => hlt)
            by_cases hbe : nb - 1 = 1
            · rw [if_pos (by simpa using hbe)]
              exact wpS_pure ⟨hs', .inl ⟨_, _, rfl, res_H_first Mb G ha hb hbe h0⟩⟩
            rw [if_neg (by simpa using hbe)]
            refine wpS_bind (wpS_elem (by omega) (wpS_bind ?_))
            refine wpS_gallop (lt := lt) (U := U) (κ := κ) hL (hs'.1.trans hk) (by omega) (by omega) (fun i hi => Ub _ (by omega)) (Ua _ (by omega)) (bey_mono G fun i j hij hj => srt_gt G hb (by omega) (by omega)) ?_
            intro at2 q1 q2 q3
            have q2' : ∀ i, i < at2 → lt (gt b i) (gt a (ja - 1)) = true := fun i hi => by have := q2 i hi; unfold bey at this; simpa using this
            have q3' : ∀ i, at2 ≤ i → i < nb - 1 → lt (gt b i) (gt a (ja - 1)) = false := fun i hi1 hi2 => by have := q3 i hi1 hi2; unfold bey at this; simpa using this
            clear q2 q3
            dsimp only
            by_cases hk2 : nb - 1 - at2 > 0
            · rw [if_pos hk2]
              have Mr := Mb.runB G ha hb (k := at2) q1 (fun i hi1 hi2 _ => q3' i hi1 hi2)
              by_cases hbe2 : at2 = 1
              · rw [if_pos (by simpa using hbe2)]
                exact wpS_pure ⟨hs', .inl ⟨_, _, rfl, res_H_first Mr G ha hb hbe2 h0⟩⟩
              rw [if_neg (by simpa using hbe2)]
              by_cases hbe3 : at2 = 0
              · rw [if_pos (by simpa using hbe3)]
                exact wpS_pure ⟨hs', .inl ⟨_, _, rfl, res_H_done Mr ha hb (.inr hbe3)⟩⟩
              rw [if_neg (by simpa using hbe3)]
              have hne : 1 ≤ at2 → lt (gt a (ja - 1)) (gt b (at2 - 1)) = false := fun _ => G.asymm _ _ (q2' (at2 - 1) (by omega))
              refine wpS_bind (wpS_elem (by omega) ?_)
              have Me := Mr.oneA G ha hb (by omega) hne
              by_cases hae : ja - 1 = 0
              · rw [if_pos (by simpa using hae)]
                exact wpS_pure ⟨hs', .inl ⟨_, _, rfl, res_H_done Me ha hb (.inl hae)⟩⟩
              rw [if_neg (by simpa using hae)]
              split
              · exact wpS_pure ⟨hs', .inr ⟨_, _, _, _, _, _, rfl, Me, by omega, by omega, by omega⟩⟩
              · exact wpS_pure ⟨hs', _, _, _, _, _, _, rfl, Me, by omega, by omega, by omega⟩
            · rw [if_neg hk2]
              have hne : 1 ≤ nb - 1 → lt (gt a (ja - 1)) (gt b (nb - 1 - 1)) = false := fun _ => G.asymm _ _ (q2' (nb - 1 - 1) (by omega))
              refine wpS_bind (wpS_elem (by omega) ?_)
              have Me := Mb.oneA G ha hb (by omega) hne
              by_cases hae : ja - 1 = 0
              · rw [if_pos (by simpa using hae)]
                exact wpS_pure ⟨hs', .inl ⟨_, _, rfl, res_H_done Me ha hb (.inl hae)⟩⟩
              rw [if_neg (by simpa using hae)]
              split
              · exact wpS_pure ⟨hs', .inr ⟨_, _, _, _, _, _, rfl, Me, by omega, by omega, by omega⟩⟩
              · exact wpS_pure ⟨hs', _, _, _, _, _, _, rfl, Me, by omega, by omega, by omega⟩
          · rw [if_neg hk0]
            have hlt : lt (gt b (nb - 1)) (gt a (na - 1)) = false := hk2' (na - 1) (by omega)
            have MT := M
            have hja : 1 ≤ na ∧ na ≤ a.size := ⟨by omega, M.2.1⟩
            have hxj : x + 1 < (a.size - na) + (b.size - nb) := by omega
            generalize out = o at MT ⊢
            generalize hjj : na = ja at MT hlt hja hxj ⊢
            refine wpS_bind (wpS_elem (by omega) ?_)
            have Mb := MT.oneB G ha hb (by omega) (fun _ => hlt)
            by_cases hbe : nb - 1 = 1
            · rw [if_pos (by simpa using hbe)]
              exact wpS_pure ⟨hs', .inl ⟨_, _, rfl, res_H_first Mb G ha hb hbe h0⟩⟩
            rw [if_neg (by simpa using hbe)]
            refine wpS_bind (wpS_elem (by omega) (wpS_bind ?_))
            refine wpS_gallop (lt := lt) (U := U) (κ := κ) hL (hs'.1.trans hk) (by omega) (by omega) (fun i hi => Ub _ (by omega)) (Ua _ (by omega)) (bey_mono G fun i j hij hj => srt_gt G hb (by omega) (by omega)) ?_
            intro at2 q1 q2 q3
            have q2' : ∀ i, i < at2 → lt (gt b i) (gt a (ja - 1)) = true := fun i hi => by have := q2 i hi; unfold bey at this; simpa using this
            have q3' : ∀ i, at2 ≤ i → i < nb - 1 → lt (gt b i) (gt a (ja - 1)) = false := fun i hi1 hi2 => by have := q3 i hi1 hi2; unfold bey at this; simpa using this
            clear q2 q3
            dsimp only
            by_cases hk2 : nb - 1 - at2 > 0
            · rw [if_pos hk2]
              have Mr := Mb.runB G ha hb (k := at2) q1 (fun i hi1 hi2 _ => q3' i hi1 hi2)
              by_cases hbe2 : at2 = 1
              · rw [if_pos (by simpa using hbe2)]
                exact wpS_pure ⟨hs', .inl ⟨_, _, rfl, res_H_first Mr G ha hb hbe2 h0⟩⟩
              rw [if_neg (by simpa using hbe2)]
              by_cases hbe3 : at2 = 0
              · rw [if_pos (by simpa using hbe3)]
                exact wpS_pure ⟨hs', .inl ⟨_, _, rfl, res_H_done Mr ha hb (.inr hbe3)⟩⟩
              rw [if_neg (by simpa using hbe3)]
              have hne : 1 ≤ at2 → lt (gt a (ja - 1)) (gt b (at2 - 1)) = false := fun _ => G.asymm _ _ (q2' (at2 - 1) (by omega))
              refine wpS_bind (wpS_elem (by omega) ?_)
              have Me := Mr.oneA G ha hb (by omega) hne
              by_cases hae : ja - 1 = 0
              · rw [if_pos (by simpa using hae)]
                exact wpS_pure ⟨hs', .inl ⟨_, _, rfl, res_H_done Me ha hb (.inl hae)⟩⟩
              rw [if_neg (by simpa using hae)]
              split
              · exact wpS_pure ⟨hs', .inr ⟨_, _, _, _, _, _, rfl, Me, by omega, by omega, by omega⟩⟩
              · exact wpS_pure ⟨hs', _, _, _, _, _, _, rfl, Me, by omega, by omega, by omega⟩
            · rw [if_neg hk2]
              have hne : 1 ≤ nb - 1 → lt (gt a (ja - 1)) (gt b (nb - 1 - 1)) = false := fun _ => G.asymm _ _ (q2' (nb - 1 - 1) (by omega))
              refine wpS_bind (wpS_elem (by omega) ?_)
              have Me := Mb.oneA G ha hb (by omega) hne
              by_cases hae : ja - 1 = 0
              · rw [if_pos (by simpa using hae)]
                exact wpS_pure ⟨hs', .inl ⟨_, _, rfl, res_H_done Me ha hb (.inl hae)⟩⟩
              rw [if_neg (by simpa using hae)]
              split
              · exact wpS_pure ⟨hs', .inr ⟨_, _, _, _, _, _, rfl, Me, by omega, by omega, by omega⟩⟩
              · exact wpS_pure ⟨hs', _, _, _, _, _, _, rfl, Me, by omega, by omega, by omega⟩
        · rw [if_neg hmg]
          refine wpS_bind (wpS_modify ?_)
          refine wpS_bind (wpS_elem (by omega) (wpS_bind ?_))
          refine wpS_gallop (lt := lt) (U := U) (κ := κ) hL (hs3.1.trans hk) (by omega) (by omega) (fun i hi => Ua _ (by omega)) (Ub _ (by omega)) (bey_mono G fun i j hij hj => srt_gt G ha (by omega) (by omega)) ?_
          intro at1 hk1 hk2 hk3
          have hk2' : ∀ i, i < at1 → lt (gt b (nb - 1)) (gt a i) = false := fun i hi => by have := hk2 i hi; unfold bey at this; simpa using this
          have hk3' : ∀ i, at1 ≤ i → i < na → lt (gt b (nb - 1)) (gt a i) = true := fun i hi1 hi2 => by have := hk3 i hi1 hi2; unfold bey at this; simpa using this
          clear hk2 hk3
          have hs' := fun g => hs3.trans (show SameSt st3 (SortSt.mk' (kindOf st3) (arrOf st3) (pendingOf st3) g (failedOf st3)) from ⟨rfl, rfl, rfl, rfl⟩)
          have hs' := hs' mg
          dsimp only
          by_cases hk0 : na - at1 > 0
          · rw [if_pos hk0]
            have Mk := M.runA G ha hb (k := at1) hk1 (fun i hi1 hi2 _ => G.asymm _ _ (hk3' i hi1 hi2))
            by_cases hae : at1 = 0
            · rw [if_pos (by simpa using hae)]
              exact wpS_pure ⟨hs', .inl ⟨_, _, rfl, res_H_done Mk ha hb (.inl hae)⟩⟩
            rw [if_neg (by simpa using hae)]
            have hlt : lt (gt b (nb - 1)) (gt a (at1 - 1)) = false := hk2' (at1 - 1) (by omega)
            have hja : 1 ≤ at1 ∧ at1 ≤ a.size := by omega
            have hxj : x + 1 < (a.size - at1) + (b.size - nb) := by omega
            generalize out ++ (a.extract at1 na).reverse = o at Mk ⊢
            have hle : at1 ≤ na := hk1
            generalize hjj : at1 = ja at Mk hlt hja hxj ⊢
            have MT := Mk
            refine wpS_bind (wpS_elem (by omega) ?_)
            have Mb := MT.oneB G ha hb (by omega) (fun _ => hlt)
            by_cases hbe : nb - 1 = 1
            · rw [if_pos (by simpa using hbe)]
              exact wpS_pure ⟨hs', .inl ⟨_, _, rfl, res_H_first Mb G ha hb hbe h0⟩⟩
            rw [if_neg (by simpa using hbe)]
            refine wpS_bind (wpS_elem (by omega) (wpS_bind ?_))
            refine wpS_gallop (lt := lt) (U := U) (κ := κ) hL (hs'.1.trans hk) (by omega) (by omega) (fun i hi => Ub _ (by omega)) (Ua _ (by omega)) (bey_mono G fun i j hij hj => srt_gt G hb (by omega) (by omega)) ?_
            intro at2 q1 q2 q3
            have q2' : ∀ i, i < at2 → lt (gt b i) (gt a (ja - 1)) = true := fun i hi => by have := q2 i hi; unfold bey at this; simpa using this
            have q3' : ∀ i, at2 ≤ i → i < nb - 1 → lt (gt b i) (gt a (ja - 1)) = false := fun i hi1 hi2 => by have := q3 i hi1 hi2; unfold bey at this; simpa using this
            clear q2 q3
            dsimp only
            by_cases hk2 : nb - 1 - at2 > 0
            · rw [if_pos hk2]
              have Mr := Mb.runB G ha hb (k := at2) q1 (fun i hi1 hi2 _ => q3' i hi1 hi2)
              by_cases hbe2 : at2 = 1
              · rw [if_pos (by simpa using hbe2)]
                exact wpS_pure ⟨hs', .inl ⟨_, _, rfl, res_H_first Mr G ha hb hbe2 h0⟩⟩
              rw [if_neg (by simpa using hbe2)]
              by_cases hbe3 : at2 = 0
              · rw [if_pos (by simpa using hbe3)]
                exact wpS_pure ⟨hs', .inl ⟨_, _, rfl, res_H_done Mr ha hb (.inr hbe3)⟩⟩
              rw [if_neg (by simpa using hbe3)]
              have hne : 1 ≤ at2 → lt (gt a (ja - 1)) (gt b (at2 - 1)) = false := fun _ => G.asymm _ _ (q2' (at2 - 1) (by omega))
              refine wpS_bind (wpS_elem (by omega) ?_)
              have Me := Mr.oneA G ha hb (by omega) hne
              by_cases hae : ja - 1 = 0
              · rw [if_pos (by simpa using hae)]
                exact wpS_pure ⟨hs', .inl ⟨_, _, rfl, res_H_done Me ha hb (.inl hae)⟩⟩
              rw [if_neg (by simpa using hae)]
              split
              · exact wpS_pure ⟨hs', .inr ⟨_, _, _, _, _, _, rfl, Me, by omega, by omega, by omega⟩⟩
              · exact wpS_pure ⟨hs', _, _, _, _, _, _, rfl, Me, by omega, by omega, by omega⟩
            · rw [if_neg hk2]
              have hne : 1 ≤ nb - 1 → lt (gt a (ja - 1)) (gt b (nb - 1 - 1)) = false := fun _ => G.asymm _ _ (q2' (nb - 1 - 1) (by omega))
              refine wpS_bind (wpS_elem (by omega) ?_)
              have Me := Mb.oneA G ha hb (by omega) hne
              by_cases hae : ja - 1 = 0
              · rw [if_pos (by simpa using hae)]
                exact wpS_pure ⟨hs', .inl ⟨_, _, rfl, res_H_done Me ha hb (.inl hae)⟩⟩
              rw [if_neg (by simpa using hae)]
              split
              · exact wpS_pure ⟨hs', .inr ⟨_, _, _, _, _, _, rfl, Me, by omega, by omega, by omega⟩⟩
              · exact wpS_pure ⟨hs', _, _, _, _, _, _, rfl, Me, by omega, by omega, by omega⟩
          · rw [if_neg hk0]
            have hlt : lt (gt b (nb - 1)) (gt a (na - 1)) = false := hk2' (na - 1) (by omega)
            have MT := M
            have hja : 1 ≤ na ∧ na ≤ a.size := ⟨by omega, M.2.1⟩
            have hxj : x + 1 < (a.size - na) + (b.size - nb) := by omega
            generalize out = o at MT ⊢
            generalize hjj : na = ja at MT hlt hja hxj ⊢
            refine wpS_bind (wpS_elem (by omega) ?_)
            have Mb := MT.oneB G ha hb (by omega) (fun _ => hlt)
            by_cases hbe : nb - 1 = 1
            · rw [if_pos (by simpa using hbe)]
              exact wpS_pure ⟨hs', .inl ⟨_, _, rfl, res_H_first Mb G ha hb hbe h0⟩⟩
            rw [if_neg (by simpa using hbe)]
            refine wpS_bind (wpS_elem (by omega) (wpS_bind ?_))
            refine wpS_gallop (lt := lt) (U := U) (κ := κ) hL (hs'.1.trans hk) (by omega) (by omega) (fun i hi => Ub _ (by omega)) (Ua _ (by omega)) (bey_mono G fun i j hij hj => srt_gt G hb (by omega) (by omega)) ?_
            intro at2 q1 q2 q3
            have q2' : ∀ i, i < at2 → lt (gt b i) (gt a (ja - 1)) = true := fun i hi => by have := q2 i hi; unfold bey at this; simpa using this
            have q3' : ∀ i, at2 ≤ i → i < nb - 1 → lt (gt b i) (gt a (ja - 1)) = false := fun i hi1 hi2 => by have := q3 i hi1 hi2; unfold bey at this; simpa using this
            clear q2 q3
            dsimp only
            by_cases hk2 : nb - 1 - at2 > 0
            · rw [if_pos hk2]
              have Mr := Mb.runB G ha hb (k := at2) q1 (fun i hi1 hi2 _ => q3' i hi1 hi2)
              by_cases hbe2 : at2 = 1
              · rw [if_pos (by simpa using hbe2)]
                exact wpS_pure ⟨hs', .inl ⟨_, _, rfl, res_H_first Mr G ha hb hbe2 h0⟩⟩
              rw [if_neg (by simpa using hbe2)]
              by_cases hbe3 : at2 = 0
              · rw [if_pos (by simpa using hbe3)]
                exact wpS_pure ⟨hs', .inl ⟨_, _, rfl, res_H_done Mr ha hb (.inr hbe3)⟩⟩
              rw [if_neg (by simpa using hbe3)]
              have hne : 1 ≤ at2 → lt (gt a (ja - 1)) (gt b (at2 - 1)) = false := fun _ => G.asymm _ _ (q2' (at2 - 1) (by omega))
              refine wpS_bind (wpS_elem (by omega) ?_)
              have Me := Mr.oneA G ha hb (by omega) hne
              by_cases hae : ja - 1 = 0
              · rw [if_pos (by simpa using hae)]
                exact wpS_pure ⟨hs', .inl ⟨_, _, rfl, res_H_done Me ha hb (.inl hae)⟩⟩
              rw [if_neg (by simpa using hae)]
              split
              · exact wpS_pure ⟨hs', .inr ⟨_, _, _, _, _, _, rfl, Me, by omega, by omega, by omega⟩⟩
              · exact wpS_pure ⟨hs', _, _, _, _, _, _, rfl, Me, by omega, by omega, by omega⟩
            · rw [if_neg hk2]
              have hne : 1 ≤ nb - 1 → lt (gt a (ja - 1)) (gt b (nb - 1 - 1)) = false := fun _ => G.asymm _ _ (q2' (nb - 1 - 1) (by omega))
              refine wpS_bind (wpS_elem (by omega) ?_)
              have Me := Mb.oneA G ha hb (by omega) hne
              by_cases hae : ja - 1 = 0
              · rw [if_pos (by simpa using hae)]
                exact wpS_pure ⟨hs', .inl ⟨_, _, rfl, res_H_done Me ha hb (.inl hae)⟩⟩
              rw [if_neg (by simpa using hae)]
              split
              · exact wpS_pure ⟨hs', .inr ⟨_, _, _, _, _, _, rfl, Me, by omega, by omega, by omega⟩⟩
              · exact wpS_pure ⟨hs', _, _, _, _, _, _, rfl, Me, by omega, by omega, by omega⟩
      · rintro c st3 ⟨hs3, na, nb, out, mg, ac, bc, rfl, M, hia, hib, hxi⟩
        exact ⟨hs3, .inr ⟨_, _, _, _, _, _, rfl, M, hia, hib, hxi⟩⟩
      · rintro c st3 ⟨hs3, hc⟩
        rcases hc with ⟨r, rest, rfl, hR⟩ | ⟨na, nb, out, mg, ac, bc, rfl, M, hia, hib, hxi⟩
        · dsimp only
          exact wpS_pure ⟨hs3, r, _, rfl, hR⟩
        dsimp only
        refine wpS_bind (wpS_modify ?_)
        exact wpS_pure ⟨hs3.trans ⟨rfl, rfl, rfl, rfl⟩, _, _, _, _, rfl, M, hia, hib, hxi⟩
  · rintro c st1 ⟨hs1, na, nb, out, mg, rfl, M, hia, hib, hxi⟩
    have hna := M.2.1
    have hnb := M.2.2
    omega
  · rintro c st1 ⟨hs1, r, rest, rfl, hR⟩
    dsimp only
    exact wpS_pure (hq r st1 hs1 hR)
end
end Mine
namespace Mine
def SR (lt : Keyed → Keyed → Bool) (xs : Array Keyed) (lo hi : Nat) : Prop := ∀ i j, lo ≤ i → i ≤ j → j < hi → lt (gt xs j) (gt xs i) = false
def NI (lt : Keyed → Keyed → Bool) (xs : Array Keyed) (lo hi : Nat) : Prop := ∀ i j, lo ≤ i → i ≤ j → j < hi → lt (gt xs i) (gt xs j) = false
def EqB (lt : Keyed → Keyed → Bool) (xs : Array Keyed) (lo hi : Nat) : Prop := ∀ i j, lo ≤ i → i < hi → lo ≤ j → j < hi → lt (gt xs i) (gt xs j) = false
theorem gt_mirror {xs : Array Keyed} {i j : Nat} (hj : j ≤ xs.size) (k : Nat) : gt (mirror xs i j ((j - i) / 2)) k = if i ≤ k ∧ k < j then gt xs (i + j - 1 - k) else gt xs k := by
  have e := getElem?_mirror_all (i := i) hj k
  unfold gt
  simp only [Array.getD_eq_getD_getElem?]
  rw [e]
  split <;> rfl
theorem gt_bubble {xs : Array Keyed} {src d : Nat} (hs : src < xs.size) (hd : d ≤ src) (k : Nat) :
    gt (bubble xs src d) k = if k = src - d then gt xs src else if src - d < k ∧ k ≤ src then gt xs (k - 1) else gt xs k := by
  have e := getElem?_bubble hs d hd k
  unfold gt
  simp only [Array.getD_eq_getD_getElem?]
  rw [e]
  split
  · rfl
  · split <;> rfl
/-- the array changed from a place on -/
def Chg (st st' : SortSt) (lo : Nat) : Prop := ∃ xs, st' = setArr st xs ∧ xs.Perm (arrOf st) ∧ ∀ k, k < lo → gt xs k = gt (arrOf st) k
theorem Chg.refl (st : SortSt) (lo : Nat) : Chg st st lo := ⟨arrOf st, by cases st; rfl, .refl _, fun _ _ => rfl⟩
theorem Chg.trans {a b c : SortSt} {lo : Nat} (h : Chg a b lo) (k : Chg b c lo) : Chg a c lo := by
  obtain ⟨x, rfl, p, q⟩ := h
  obtain ⟨y, rfl, p2, q2⟩ := k
  exact ⟨y, rfl, p2.trans p, fun i hi => (q2 i hi).trans (q i hi)⟩
theorem Chg.size {a b : SortSt} {lo : Nat} (h : Chg a b lo) : (arrOf b).size = (arrOf a).size := by
  obtain ⟨x, rfl, p, q⟩ := h
  exact p.size_eq
theorem Chg.kind {a b : SortSt} {lo : Nat} (h : Chg a b lo) : kindOf b = kindOf a := by
  obtain ⟨x, rfl, p, q⟩ := h
  rfl
theorem Chg.mirror (st : SortSt) {lo i j : Nat} (hi : lo ≤ i) (hj : j ≤ (arrOf st).size) : Chg st (setArr st (mirror (arrOf st) i j ((j - i) / 2))) lo :=
  ⟨_, rfl, mirror_perm _ _ _ _, fun k hk => by rw [gt_mirror hj, if_neg (by omega)]⟩
theorem all_U {U : Keyed → Prop} {st st' : SortSt} {lo : Nat} (h : Chg st st' lo) (hU : ∀ i, i < (arrOf st).size → U (gt (arrOf st) i)) : ∀ i, i < (arrOf st').size → U (gt (arrOf st') i) := by
  obtain ⟨x, rfl, p, q⟩ := h
  intro i hi
  have hm : gt x i ∈ x.toList := List.mem_of_getElem? (gt_list hi)
  have hm2 := (Array.perm_iff_toList_perm.mp p).mem_iff.mp hm
  obtain ⟨j, hj⟩ := List.mem_iff_getElem?.mp hm2
  obtain ⟨e1, e2⟩ := gt_of_list hj
  show U (gt x i)
  rw [← e1]
  exact hU j e2
section
variable {prog : Program} {w : World} {A : Around} {E : Value → Shared → Prop} {s : Shared} {lt : Keyed → Keyed → Bool} {U : Keyed → Prop} {κ : SortKind}
theorem wpS_lta {st : SortSt} {i j : Nat} {Q : Option Bool → SortSt → Prop} (hL : LtOk prog w A E s κ U lt) (hk : kindOf st = κ) (hU : ∀ i, i < (arrOf st).size → U (gt (arrOf st) i)) (hi : i < (arrOf st).size) (hj : j < (arrOf st).size)
    (h : Q (some (lt (gt (arrOf st) i) (gt (arrOf st) j))) st) : wpS (model prog w) A E s (ltAt' i j) Q st := by
  rw [ltAt'_eq]
  refine wpS_bind (wpS_get ?_)
  exact wpS_bind (wpS_elem hi (wpS_bind (wpS_elem hj (hL _ _ _ _ (hU i hi) (hU j hj) hk h))))
theorem wpS_binary {st : SortSt} {lo n ok : Nat} {Q : Bool → SortSt → Prop} (hL : LtOk prog w A E s κ U lt) (G : Good lt) (hk : kindOf st = κ) (hU : ∀ i, i < (arrOf st).size → U (gt (arrOf st) i)) (hn : lo + n ≤ (arrOf st).size) (hok : ok ≤ n) (hs : SR lt (arrOf st) lo (lo + ok))
    (h : ∀ st', Chg st st' lo → SR lt (arrOf st') lo (lo + n) → Q true st') : wpS (model prog w) A E s (binarySort' lo n ok) Q st := by
  refine wpS_bind (wpS_mono (wpS_forRange (I := fun k c st' => c = (none, ()) ∧ Chg st st' lo ∧ SR lt (arrOf st') lo (lo + min k n))
    (Q := fun c st' => c = (none, ()) ∧ Chg st st' lo ∧ SR lt (arrOf st') lo (lo + n)) ?step ?fin ?init) ?post)
  case post =>
    rintro c st' ⟨rfl, hC, hs'⟩
    exact wpS_pure (h st' hC hs')
  case init =>
    refine ⟨rfl, .refl _ _, fun i j h1 h2 h3 => ?_⟩
    by_cases h0 : ok = 0
    · have : i = j := by omega
      subst this; exact G.irrefl _
    · exact hs i j h1 h2 (by omega)
  case fin =>
    rintro c st' ⟨hc, hC, hs'⟩
    refine ⟨hc, hC, ?_⟩
    rwa [show min (max (max ok 1) n) n = n by omega] at hs'
  case step =>
    rintro k c st' hak hkn ⟨rfl, hC, hs'⟩
    rw [show min k n = k by omega] at hs'
    have hz := hC.size
    have hU' := all_U hC hU
    have hkd := hC.kind.trans hk
    refine wpS_bind (wpS_mono (wpS_forRange (I := fun x c st'' => st' = st'' ∧ ∃ l r, c = (none, l, r) ∧ l ≤ r ∧ r ≤ k ∧ r - l ≤ k - x ∧
        (∀ i, i < l → lt (gt (arrOf st') (lo + k)) (gt (arrOf st') (lo + i)) = false) ∧ (∀ i, r ≤ i → i < k → lt (gt (arrOf st') (lo + k)) (gt (arrOf st') (lo + i)) = true))
      (Q := fun c st'' => st' = st'' ∧ ∃ l r, c = (none, l, r) ∧ l ≤ k ∧
        (∀ i, i < l → lt (gt (arrOf st') (lo + k)) (gt (arrOf st') (lo + i)) = false) ∧ (∀ i, l ≤ i → i < k → lt (gt (arrOf st') (lo + k)) (gt (arrOf st') (lo + i)) = true)) ?istep ?ifin ?iinit) ?ipost)
    case iinit => exact ⟨rfl, 0, k, rfl, by omega, by omega, by omega, fun i hi => by omega, fun i h1 h2 => by omega⟩
    case ifin =>
      rintro c st'' ⟨rfl, l, r, rfl, hlr, hrk, hm, hlo, hhi⟩
      have : l = r := by omega
      subst this
      exact ⟨rfl, l, l, rfl, hrk, hlo, hhi⟩
    case istep =>
      rintro x c st'' _ hxk ⟨rfl, l, r, rfl, hlr, hrk, hm, hlo, hhi⟩
      dsimp only
      by_cases hge : l ≥ r
      · rw [if_pos hge]
        have : l = r := by omega
        subst this
        exact wpS_pure ⟨rfl, l, l, rfl, hrk, hlo, hhi⟩
      · rw [if_neg hge]
        refine wpS_bind (wpS_lta hL hkd hU' (by omega) (by omega) ?_)
        dsimp only
        cases hless : lt (gt (arrOf st') (lo + k)) (gt (arrOf st') (lo + (l + r) / 2)) with
        | true =>
          rw [if_pos rfl]
          refine wpS_pure ⟨rfl, l, (l + r) / 2, rfl, by omega, by omega, by omega, hlo, fun i h1 h2 => ?_⟩
          cases e : lt (gt (arrOf st') (lo + k)) (gt (arrOf st') (lo + i)) with
          | true => rfl
          | false =>
            have := G.ntrans _ _ _ e (hs' (lo + (l + r) / 2) (lo + i) (by omega) (by omega) (by omega))
            rw [this] at hless; cases hless
        | false =>
          rw [if_neg (by simp)]
          refine wpS_pure ⟨rfl, (l + r) / 2 + 1, r, rfl, by omega, by omega, by omega, fun i h1 => ?_, hhi⟩
          exact G.ntrans _ _ _ hless (hs' (lo + i) (lo + (l + r) / 2) (by omega) (by omega) (by omega))
    case ipost =>
      rintro c st'' ⟨rfl, l, r, rfl, hlk, hlo, hhi⟩
      dsimp only
      refine wpS_bind (wpS_modify ?_)
      refine wpS_pure ⟨rfl, hC.trans ⟨bubble (arrOf st') (lo + k) (lo + k - (lo + l)), rfl, bubble_perm _ _ _, fun q hq => ?_⟩, ?_⟩
      · rw [gt_bubble (by omega) (by omega), if_neg (by omega), if_neg (by omega)]
      rw [show min (k + 1) n = k + 1 by omega]
      show SR lt (bubble (arrOf st') (lo + k) (lo + k - (lo + l))) lo (lo + (k + 1))
      intro i j h1 h2 h3
      rw [gt_bubble (by omega) (by omega), gt_bubble (by omega) (by omega)]
      rw [show lo + k - (lo + k - (lo + l)) = lo + l by omega]
      by_cases ej : j = lo + l
      · rw [if_pos ej]
        by_cases ei : i = lo + l
        · rw [if_pos ei]; exact G.irrefl _
        · rw [if_neg ei, if_neg (by omega)]
          obtain ⟨i', rfl⟩ : ∃ i', i = lo + i' := ⟨i - lo, by omega⟩
          exact hlo i' (by omega)
      · rw [if_neg ej]
        by_cases cj : lo + l < j ∧ j ≤ lo + k
        · rw [if_pos cj]
          by_cases ei : i = lo + l
          · rw [if_pos ei]
            obtain ⟨j', hj'⟩ : ∃ j', j - 1 = lo + j' := ⟨j - 1 - lo, by omega⟩
            rw [hj']
            exact G.asymm _ _ (hhi j' (by omega) (by omega))
          · rw [if_neg ei]
            by_cases ci : lo + l < i ∧ i ≤ lo + k
            · rw [if_pos ci]; exact hs' (i - 1) (j - 1) (by omega) (by omega) (by omega)
            · rw [if_neg ci]; exact hs' i (j - 1) (by omega) (by omega) (by omega)
        · rw [if_neg cj, if_neg (by omega), if_neg (by omega)]
          exact hs' i j h1 h2 (by omega)
end
end Mine
namespace Mine
section
variable {prog : Program} {w : World} {A : Around} {E : Value → Shared → Prop} {s : Shared} {lt : Keyed → Keyed → Bool} {U : Keyed → Prop} {κ : SortKind}
theorem SR.snoc (G : Good lt) {xs : Array Keyed} {lo hi : Nat} (h : SR lt xs lo hi) (h1 : lo < hi) (h2 : lt (gt xs hi) (gt xs (hi - 1)) = false) : SR lt xs lo (hi + 1) := by
  intro i j a b c
  by_cases e : j = hi
  · subst e
    by_cases e2 : i = j
    · subst e2; exact G.irrefl _
    · exact G.ntrans _ _ _ h2 (h i (j - 1) a (by omega) (by omega))
  · exact h i j a b (by omega)
theorem NI.snoc (G : Good lt) {xs : Array Keyed} {lo hi : Nat} (h : NI lt xs lo hi) (h1 : lo < hi) (h2 : lt (gt xs (hi - 1)) (gt xs hi) = false) : NI lt xs lo (hi + 1) := by
  intro i j a b c
  by_cases e : j = hi
  · subst e
    by_cases e2 : i = j
    · subst e2; exact G.irrefl _
    · exact G.ntrans _ _ _ (h i (j - 1) a (by omega) (by omega)) h2
  · exact h i j a b (by omega)
/-- a block of like items turned round -/
theorem NI.turn (G : Good lt) {xs : Array Keyed} {lo hi i j : Nat} (h : NI lt xs lo hi) (hj : j ≤ xs.size) (he : EqB lt xs i j) : NI lt (mirror xs i j ((j - i) / 2)) lo hi := by
  have key : ∀ k, lt (gt (mirror xs i j ((j - i) / 2)) k) (gt xs k) = false ∧ lt (gt xs k) (gt (mirror xs i j ((j - i) / 2)) k) = false := by
    intro k
    rw [gt_mirror hj]
    split
    · exact ⟨he _ _ (by omega) (by omega) (by omega) (by omega), he _ _ (by omega) (by omega) (by omega) (by omega)⟩
    · exact ⟨G.irrefl _, G.irrefl _⟩
  intro p q a b c
  exact G.ntrans _ _ _ (key p).1 (G.ntrans _ _ _ (h p q a b c) (key q).2)
theorem NI.back {xs : Array Keyed} {lo hi : Nat} (h : NI lt xs lo hi) (hj : hi ≤ xs.size) : SR lt (mirror xs lo hi ((hi - lo) / 2)) lo hi := by
  intro i j a b c
  rw [gt_mirror hj, gt_mirror hj, if_pos (by omega), if_pos (by omega)]
  exact h _ _ (by omega) (by omega) (by omega)
theorem eqB_turn (G : Good lt) {xs : Array Keyed} {i j : Nat} (hj : j ≤ xs.size) (he : EqB lt xs i j) (k : Nat) : lt (gt xs k) (gt (mirror xs i j ((j - i) / 2)) k) = false ∧ lt (gt (mirror xs i j ((j - i) / 2)) k) (gt xs k) = false := by
  rw [gt_mirror hj]
  split
  · exact ⟨he _ _ (by omega) (by omega) (by omega) (by omega), he _ _ (by omega) (by omega) (by omega) (by omega)⟩
  · exact ⟨G.irrefl _, G.irrefl _⟩
set_option maxHeartbeats 1000000 in
theorem wpS_count {st : SortSt} {lo nrem : Nat} {Q : Option Nat → SortSt → Prop} (hL : LtOk prog w A E s κ U lt) (G : Good lt) (hk : kindOf st = κ) (hU : ∀ i, i < (arrOf st).size → U (gt (arrOf st) i)) (hn : lo + nrem ≤ (arrOf st).size) (h1 : 1 ≤ nrem)
    (h : ∀ st' n, Chg st st' lo → 1 ≤ n → n ≤ nrem → SR lt (arrOf st') lo (lo + n) → Q (some n) st') : wpS (model prog w) A E s (countRun' lo nrem) Q st := by
  refine wpS_bind (wpS_mono (wpS_forRange (I := fun x c st' => st = st' ∧ c = (none, x) ∧ SR lt (arrOf st) lo (lo + x))
    (Q := fun c st' => st = st' ∧ ∃ n, c = (none, n) ∧ 1 ≤ n ∧ n ≤ nrem ∧ SR lt (arrOf st) lo (lo + n) ∧ (n < nrem → lt (gt (arrOf st) (lo + n)) (gt (arrOf st) (lo + n - 1)) = true)) ?_ ?_ ⟨rfl, rfl, ?_⟩) ?_)
  · rintro x c st' hx1 hx2 ⟨rfl, rfl, hs⟩
    dsimp only
    refine wpS_bind (wpS_lta hL hk hU (by omega) (by omega) ?_)
    dsimp only
    cases e : lt (gt (arrOf st) (lo + x)) (gt (arrOf st) (lo + x - 1)) with
    | true => exact wpS_pure ⟨rfl, x, rfl, hx1, by omega, hs, fun _ => e⟩
    | false => exact wpS_pure ⟨rfl, rfl, hs.snoc G (by omega) e⟩
  · rintro c st' ⟨rfl, rfl, hs⟩
    exact ⟨rfl, _, rfl, by omega, by omega, by rwa [show max 1 nrem = nrem by omega] at hs ⊢, fun _ => by omega⟩
  · intro i j a b c
    have : i = j := by omega
    subst this; exact G.irrefl _
  rintro c st' ⟨rfl, n, rfl, hn1, hn2, hs, hlt⟩
  dsimp only
  by_cases hnn : n = nrem
  · rw [if_pos (by simpa using hnn)]
    exact wpS_pure (h st n (.refl _ _) hn1 hn2 hs)
  rw [if_neg (by simpa using hnn)]
  have hlt := hlt (by omega)
  by_cases hn1' : n > 1
  · rw [if_pos hn1']
    refine wpS_bind (wpS_lta hL hk hU (by omega) (by omega) ?_)
    dsimp only
    cases er : lt (gt (arrOf st) lo) (gt (arrOf st) (lo + n - 1)) with
    | true =>
      rw [if_pos rfl]
      exact wpS_pure (h st n (.refl _ _) hn1 hn2 hs)
    | false =>
      rw [if_neg (by simp)]
      refine wpS_bind (wpS_reverse ?_)
      have hE0 : EqB lt (arrOf st) lo (lo + n) := by
        intro i j a b c d
        exact G.ntrans _ _ _ (hs lo i (by omega) (by omega) (by omega)) (G.ntrans _ _ _ er (hs j (lo + n - 1) (by omega) (by omega) (by omega)))
      have N0 : NI lt (arrOf st) lo (lo + n) := fun i j a b c => hE0 i j a (by omega) (by omega) c
      have C1 : Chg st (setArr st (mirror (arrOf st) lo (lo + n) ((lo + n - lo) / 2))) lo := Chg.mirror st (Nat.le_refl _) (by omega)
      have N1 : NI lt (arrOf (setArr st (mirror (arrOf st) lo (lo + n) ((lo + n - lo) / 2)))) lo (lo + (n + 1)) := by
        refine (N0.turn G (by omega) hE0).snoc G (by omega) ?_
        have k1 := eqB_turn G (j := lo + n) (by omega) hE0 (lo + n - 1)
        have k2 : gt (mirror (arrOf st) lo (lo + n) ((lo + n - lo) / 2)) (lo + n) = gt (arrOf st) (lo + n) := by rw [gt_mirror (by omega), if_neg (by omega)]
        rw [k2]
        exact G.ntrans _ _ _ k1.2 (G.asymm _ _ hlt)
      generalize setArr st (mirror (arrOf st) lo (lo + n) ((lo + n - lo) / 2)) = st1 at C1 N1 ⊢
      refine wpS_bind (wpS_lift (wpAny_rule ⟨rfl, ?_⟩))
      refine wpS_bind (wpS_mono (wpS_forRange (I := fun x c st' => Chg st st' lo ∧ ∃ neq, c = (none, x, neq) ∧ NI lt (arrOf st') lo (lo + x) ∧ neq + 1 ≤ x ∧ EqB lt (arrOf st') (lo + x - (neq + 1)) (lo + x))
        (Q := fun c st' => Chg st st' lo ∧ ∃ p neq, c = (none, p, neq) ∧ n + 1 ≤ p ∧ p ≤ nrem ∧ NI lt (arrOf st') lo (lo + p) ∧ neq + 1 ≤ p ∧ EqB lt (arrOf st') (lo + p - (neq + 1)) (lo + p)) ?_ ?_ ⟨C1, 0, rfl, N1, by omega, ?_⟩) ?_)
      · rintro x c st2 hx1 hx2 ⟨C2, neq, rfl, N2, hne, hE⟩
        have hz := C2.size
        dsimp only
        refine wpS_bind (wpS_lta hL (C2.kind.trans hk) (all_U C2 hU) (by omega) (by omega) ?_)
        dsimp only
        cases e : lt (gt (arrOf st2) (lo + x)) (gt (arrOf st2) (lo + x - 1)) with
        | true =>
          rw [if_pos rfl]
          by_cases hq : neq > 0
          · rw [if_pos hq]
            refine wpS_bind (wpS_reverse ?_)
            refine wpS_pure ⟨C2.trans (Chg.mirror st2 (by omega) (by omega)), 0, rfl, ?_, by omega, ?_⟩
            · refine (N2.turn G (by omega) hE).snoc G (by omega) ?_
              have k1 := eqB_turn G (j := lo + x) (by omega) hE (lo + x - 1)
              have k2 : gt (mirror (arrOf st2) (lo + x - (neq + 1)) (lo + x) ((lo + x - (lo + x - (neq + 1))) / 2)) (lo + x) = gt (arrOf st2) (lo + x) := by rw [gt_mirror (by omega), if_neg (by omega)]
              rw [k2]
              exact G.ntrans _ _ _ k1.2 (G.asymm _ _ e)
            · intro i j a b c d
              have : i = j := by omega
              subst this; exact G.irrefl _
          · rw [if_neg hq]
            refine wpS_pure ⟨C2, 0, rfl, N2.snoc G (by omega) (G.asymm _ _ e), by omega, ?_⟩
            intro i j a b c d
            have : i = j := by omega
            subst this; exact G.irrefl _
        | false =>
          rw [if_neg (by simp)]
          refine wpS_bind (wpS_lta hL (C2.kind.trans hk) (all_U C2 hU) (by omega) (by omega) ?_)
          dsimp only
          cases e2 : lt (gt (arrOf st2) (lo + x - 1)) (gt (arrOf st2) (lo + x)) with
          | true =>
            rw [if_pos rfl]
            exact wpS_pure ⟨C2, x, neq, rfl, hx1, by omega, N2, hne, hE⟩
          | false =>
            rw [if_neg (by simp)]
            refine wpS_pure ⟨C2, neq + 1, rfl, N2.snoc G (by omega) e2, by omega, ?_⟩
            intro i j a b c d
            by_cases ei : i = lo + x
            · subst ei
              by_cases ej : j = lo + x
              · subst ej; exact G.irrefl _
              · exact G.ntrans _ _ _ e (hE _ _ (by omega) (by omega) (by omega) (by omega))
            · by_cases ej : j = lo + x
              · subst ej
                exact G.ntrans _ _ _ (hE i (lo + x - 1) (by omega) (by omega) (by omega) (by omega)) e2
              · exact hE _ _ (by omega) (by omega) (by omega) (by omega)
      · rintro c st2 ⟨C2, neq, rfl, N2, hne, hE⟩
        exact ⟨C2, _, neq, rfl, by omega, by omega, N2, hne, hE⟩
      · intro i j a b c d
        have : i = j := by omega
        subst this; exact G.irrefl _
      rintro c st2 ⟨C2, p, neq, rfl, hp1, hp2, N2, hne, hE⟩
      have hz := C2.size
      dsimp only
      by_cases hq : neq > 0
      · rw [if_pos hq]
        refine wpS_bind (wpS_reverse ?_)
        have C3 := C2.trans (Chg.mirror st2 (lo := lo) (i := lo + p - (neq + 1)) (j := lo + p) (by omega) (by omega))
        have N3 : NI lt (arrOf (setArr st2 (mirror (arrOf st2) (lo + p - (neq + 1)) (lo + p) ((lo + p - (lo + p - (neq + 1))) / 2)))) lo (lo + p) := N2.turn G (by omega) hE
        generalize setArr st2 (mirror (arrOf st2) (lo + p - (neq + 1)) (lo + p) ((lo + p - (lo + p - (neq + 1))) / 2)) = st3 at C3 N3 ⊢
        refine wpS_bind (wpS_reverse ?_)
        have C4 := C3.trans (Chg.mirror st3 (lo := lo) (i := lo) (j := lo + p) (Nat.le_refl _) (by rw [C3.size]; omega))
        have hs4 : SR lt (arrOf (setArr st3 (mirror (arrOf st3) lo (lo + p) ((lo + p - lo) / 2)))) lo (lo + p) := N3.back (by rw [C3.size]; omega)
        generalize setArr st3 (mirror (arrOf st3) lo (lo + p) ((lo + p - lo) / 2)) = st4 at C4 hs4 ⊢
        have hz4 := C4.size
        refine wpS_bind (wpS_mono (wpS_forRange (I := fun x c st' => st4 = st' ∧ c = (none, x) ∧ SR lt (arrOf st4) lo (lo + x))
          (Q := fun c st' => st4 = st' ∧ ∃ n, c = (none, n) ∧ 1 ≤ n ∧ n ≤ nrem ∧ SR lt (arrOf st4) lo (lo + n)) ?_ ?_ ⟨rfl, rfl, hs4⟩) ?_)
        · rintro x c st' hx1 hx2 ⟨rfl, rfl, hs⟩
          dsimp only
          refine wpS_bind (wpS_lta hL (C4.kind.trans hk) (all_U C4 hU) (by omega) (by omega) ?_)
          dsimp only
          cases e : lt (gt (arrOf st4) (lo + x)) (gt (arrOf st4) (lo + x - 1)) with
          | true => exact wpS_pure ⟨rfl, x, rfl, by omega, by omega, hs⟩
          | false => exact wpS_pure ⟨rfl, rfl, hs.snoc G (by omega) e⟩
        · rintro c st' ⟨rfl, rfl, hs⟩
          exact ⟨rfl, _, rfl, by omega, by omega, hs⟩
        · rintro c st' ⟨rfl, n', rfl, q1, q2, q3⟩
          exact wpS_pure (h st4 n' C4 q1 q2 q3)
      · rw [if_neg hq]
        have C3 := C2
        have N3 := N2
        generalize st2 = st3 at C3 N3 ⊢
        refine wpS_bind (wpS_reverse ?_)
        have C4 := C3.trans (Chg.mirror st3 (lo := lo) (i := lo) (j := lo + p) (Nat.le_refl _) (by rw [C3.size]; omega))
        have hs4 : SR lt (arrOf (setArr st3 (mirror (arrOf st3) lo (lo + p) ((lo + p - lo) / 2)))) lo (lo + p) := N3.back (by rw [C3.size]; omega)
        generalize setArr st3 (mirror (arrOf st3) lo (lo + p) ((lo + p - lo) / 2)) = st4 at C4 hs4 ⊢
        have hz4 := C4.size
        refine wpS_bind (wpS_mono (wpS_forRange (I := fun x c st' => st4 = st' ∧ c = (none, x) ∧ SR lt (arrOf st4) lo (lo + x))
          (Q := fun c st' => st4 = st' ∧ ∃ n, c = (none, n) ∧ 1 ≤ n ∧ n ≤ nrem ∧ SR lt (arrOf st4) lo (lo + n)) ?_ ?_ ⟨rfl, rfl, hs4⟩) ?_)
        · rintro x c st' hx1 hx2 ⟨rfl, rfl, hs⟩
          dsimp only
          refine wpS_bind (wpS_lta hL (C4.kind.trans hk) (all_U C4 hU) (by omega) (by omega) ?_)
          dsimp only
          cases e : lt (gt (arrOf st4) (lo + x)) (gt (arrOf st4) (lo + x - 1)) with
          | true => exact wpS_pure ⟨rfl, x, rfl, by omega, by omega, hs⟩
          | false => exact wpS_pure ⟨rfl, rfl, hs.snoc G (by omega) e⟩
        · rintro c st' ⟨rfl, rfl, hs⟩
          exact ⟨rfl, _, rfl, by omega, by omega, hs⟩
        · rintro c st' ⟨rfl, n', rfl, q1, q2, q3⟩
          exact wpS_pure (h st4 n' C4 q1 q2 q3)
  · rw [if_neg hn1']
    have C1 : Chg st st lo := .refl _ _
    have N1 : NI lt (arrOf st) lo (lo + (n + 1)) := by
      refine NI.snoc G (hi := lo + n) (fun i j a b c => ?_) (by omega) (G.asymm _ _ hlt)
      have : i = j := by omega
      subst this; exact G.irrefl _
    refine wpS_bind (wpS_lift (wpAny_rule ⟨rfl, ?_⟩))
    refine wpS_bind (wpS_mono (wpS_forRange (I := fun x c st' => Chg st st' lo ∧ ∃ neq, c = (none, x, neq) ∧ NI lt (arrOf st') lo (lo + x) ∧ neq + 1 ≤ x ∧ EqB lt (arrOf st') (lo + x - (neq + 1)) (lo + x))
      (Q := fun c st' => Chg st st' lo ∧ ∃ p neq, c = (none, p, neq) ∧ n + 1 ≤ p ∧ p ≤ nrem ∧ NI lt (arrOf st') lo (lo + p) ∧ neq + 1 ≤ p ∧ EqB lt (arrOf st') (lo + p - (neq + 1)) (lo + p)) ?_ ?_ ⟨C1, 0, rfl, N1, by omega, ?_⟩) ?_)
    · rintro x c st2 hx1 hx2 ⟨C2, neq, rfl, N2, hne, hE⟩
      have hz := C2.size
      dsimp only
      refine wpS_bind (wpS_lta hL (C2.kind.trans hk) (all_U C2 hU) (by omega) (by omega) ?_)
      dsimp only
      cases e : lt (gt (arrOf st2) (lo + x)) (gt (arrOf st2) (lo + x - 1)) with
      | true =>
        rw [if_pos rfl]
        by_cases hq : neq > 0
        · rw [if_pos hq]
          refine wpS_bind (wpS_reverse ?_)
          refine wpS_pure ⟨C2.trans (Chg.mirror st2 (by omega) (by omega)), 0, rfl, ?_, by omega, ?_⟩
          · refine (N2.turn G (by omega) hE).snoc G (by omega) ?_
            have k1 := eqB_turn G (j := lo + x) (by omega) hE (lo + x - 1)
            have k2 : gt (mirror (arrOf st2) (lo + x - (neq + 1)) (lo + x) ((lo + x - (lo + x - (neq + 1))) / 2)) (lo + x) = gt (arrOf st2) (lo + x) := by rw [gt_mirror (by omega), if_neg (by omega)]
            rw [k2]
            exact G.ntrans _ _ _ k1.2 (G.asymm _ _ e)
          · intro i j a b c d
            have : i = j := by omega
            subst this; exact G.irrefl _
        · rw [if_neg hq]
          refine wpS_pure ⟨C2, 0, rfl, N2.snoc G (by omega) (G.asymm _ _ e), by omega, ?_⟩
          intro i j a b c d
          have : i = j := by omega
          subst this; exact G.irrefl _
      | false =>
        rw [if_neg (by simp)]
        refine wpS_bind (wpS_lta hL (C2.kind.trans hk) (all_U C2 hU) (by omega) (by omega) ?_)
        dsimp only
        cases e2 : lt (gt (arrOf st2) (lo + x - 1)) (gt (arrOf st2) (lo + x)) with
        | true =>
          rw [if_pos rfl]
          exact wpS_pure ⟨C2, x, neq, rfl, hx1, by omega, N2, hne, hE⟩
        | false =>
          rw [if_neg (by simp)]
          refine wpS_pure ⟨C2, neq + 1, rfl, N2.snoc G (by omega) e2, by omega, ?_⟩
          intro i j a b c d
          by_cases ei : i = lo + x
          · subst ei
            by_cases ej : j = lo + x
            · subst ej; exact G.irrefl _
            · exact G.ntrans _ _ _ e (hE _ _ (by omega) (by omega) (by omega) (by omega))
          · by_cases ej : j = lo + x
            · subst ej
              exact G.ntrans _ _ _ (hE i (lo + x - 1) (by omega) (by omega) (by omega) (by omega)) e2
            · exact hE _ _ (by omega) (by omega) (by omega) (by omega)
    · rintro c st2 ⟨C2, neq, rfl, N2, hne, hE⟩
      exact ⟨C2, _, neq, rfl, by omega, by omega, N2, hne, hE⟩
    · intro i j a b c d
      have : i = j := by omega
      subst this; exact G.irrefl _
    rintro c st2 ⟨C2, p, neq, rfl, hp1, hp2, N2, hne, hE⟩
    have hz := C2.size
    dsimp only
    by_cases hq : neq > 0
    · rw [if_pos hq]
      refine wpS_bind (wpS_reverse ?_)
      have C3 := C2.trans (Chg.mirror st2 (lo := lo) (i := lo + p - (neq + 1)) (j := lo + p) (by omega) (by omega))
      have N3 : NI lt (arrOf (setArr st2 (mirror (arrOf st2) (lo + p - (neq + 1)) (lo + p) ((lo + p - (lo + p - (neq + 1))) / 2)))) lo (lo + p) := N2.turn G (by omega) hE
      generalize setArr st2 (mirror (arrOf st2) (lo + p - (neq + 1)) (lo + p) ((lo + p - (lo + p - (neq + 1))) / 2)) = st3 at C3 N3 ⊢
      refine wpS_bind (wpS_reverse ?_)
      have C4 := C3.trans (Chg.mirror st3 (lo := lo) (i := lo) (j := lo + p) (Nat.le_refl _) (by rw [C3.size]; omega))
      have hs4 : SR lt (arrOf (setArr st3 (mirror (arrOf st3) lo (lo + p) ((lo + p - lo) / 2)))) lo (lo + p) := N3.back (by rw [C3.size]; omega)
      generalize setArr st3 (mirror (arrOf st3) lo (lo + p) ((lo + p - lo) / 2)) = st4 at C4 hs4 ⊢
      have hz4 := C4.size
      refine wpS_bind (wpS_mono (wpS_forRange (I := fun x c st' => st4 = st' ∧ c = (none, x) ∧ SR lt (arrOf st4) lo (lo + x))
        (Q := fun c st' => st4 = st' ∧ ∃ n, c = (none, n) ∧ 1 ≤ n ∧ n ≤ nrem ∧ SR lt (arrOf st4) lo (lo + n)) ?_ ?_ ⟨rfl, rfl, hs4⟩) ?_)
      · rintro x c st' hx1 hx2 ⟨rfl, rfl, hs⟩
        dsimp only
        refine wpS_bind (wpS_lta hL (C4.kind.trans hk) (all_U C4 hU) (by omega) (by omega) ?_)
        dsimp only
        cases e : lt (gt (arrOf st4) (lo + x)) (gt (arrOf st4) (lo + x - 1)) with
        | true => exact wpS_pure ⟨rfl, x, rfl, by omega, by omega, hs⟩
        | false => exact wpS_pure ⟨rfl, rfl, hs.snoc G (by omega) e⟩
      · rintro c st' ⟨rfl, rfl, hs⟩
        exact ⟨rfl, _, rfl, by omega, by omega, hs⟩
      · rintro c st' ⟨rfl, n', rfl, q1, q2, q3⟩
        exact wpS_pure (h st4 n' C4 q1 q2 q3)
    · rw [if_neg hq]
      have C3 := C2
      have N3 := N2
      generalize st2 = st3 at C3 N3 ⊢
      refine wpS_bind (wpS_reverse ?_)
      have C4 := C3.trans (Chg.mirror st3 (lo := lo) (i := lo) (j := lo + p) (Nat.le_refl _) (by rw [C3.size]; omega))
      have hs4 : SR lt (arrOf (setArr st3 (mirror (arrOf st3) lo (lo + p) ((lo + p - lo) / 2)))) lo (lo + p) := N3.back (by rw [C3.size]; omega)
      generalize setArr st3 (mirror (arrOf st3) lo (lo + p) ((lo + p - lo) / 2)) = st4 at C4 hs4 ⊢
      have hz4 := C4.size
      refine wpS_bind (wpS_mono (wpS_forRange (I := fun x c st' => st4 = st' ∧ c = (none, x) ∧ SR lt (arrOf st4) lo (lo + x))
        (Q := fun c st' => st4 = st' ∧ ∃ n, c = (none, n) ∧ 1 ≤ n ∧ n ≤ nrem ∧ SR lt (arrOf st4) lo (lo + n)) ?_ ?_ ⟨rfl, rfl, hs4⟩) ?_)
      · rintro x c st' hx1 hx2 ⟨rfl, rfl, hs⟩
        dsimp only
        refine wpS_bind (wpS_lta hL (C4.kind.trans hk) (all_U C4 hU) (by omega) (by omega) ?_)
        dsimp only
        cases e : lt (gt (arrOf st4) (lo + x)) (gt (arrOf st4) (lo + x - 1)) with
        | true => exact wpS_pure ⟨rfl, x, rfl, by omega, by omega, hs⟩
        | false => exact wpS_pure ⟨rfl, rfl, hs.snoc G (by omega) e⟩
      · rintro c st' ⟨rfl, rfl, hs⟩
        exact ⟨rfl, _, rfl, by omega, by omega, hs⟩
      · rintro c st' ⟨rfl, n', rfl, q1, q2, q3⟩
        exact wpS_pure (h st4 n' C4 q1 q2 q3)
end
end Mine
namespace Mine
theorem write_list (sa : Nat) : ∀ (L : List Keyed) (j : Nat) (xs : Array Keyed), sa + j + L.length ≤ xs.size →
    ((L.zipIdx j).foldl (fun a (p : Keyed × Nat) => a.setIfInBounds (sa + p.2) p.1) xs).toList = xs.toList.take (sa + j) ++ (L ++ xs.toList.drop (sa + j + L.length))
  | [], j, xs, _ => by simp
  | p :: L, j, xs, h => by
    simp only [List.length_cons] at h
    rw [List.zipIdx_cons, List.foldl_cons, write_list sa L (j + 1) _ (by simp; omega)]
    rw [Array.toList_setIfInBounds]
    have hlt : sa + j < xs.toList.length := by simp; omega
    rw [List.take_set, List.drop_set_of_lt (by omega), show sa + (j + 1) = sa + j + 1 by omega, List.take_add_one]
    simp only [List.getElem?_eq_getElem hlt, Option.toList_some, List.length_cons]
    rw [List.set_append_right _ _ (by simp; omega)]
    simp only [List.length_take, List.append_assoc]
    rw [show sa + j - min (sa + j) xs.toList.length = 0 by omega]
    simp only [List.set_cons_zero, List.cons_append, List.nil_append]
    rw [show sa + j + 1 + L.length = sa + j + (L.length + 1) by omega]
section
variable {prog : Program} {w : World} {A : Around} {E : Value → Shared → Prop} {s : Shared} {lt : Keyed → Keyed → Bool} {U : Keyed → Prop} {κ : SortKind}
theorem wpS_set {M : Model} {σ : Type} {st st' : σ} {Q : PUnit → σ → Prop} (h : Q ⟨⟩ st') : wpS M A E s (set st' : StateT σ Sem PUnit) Q st := by
  unfold wpS; rw [StateT.run_set]; exact wpAny_pure ⟨rfl, h⟩
theorem Srt.at (G : Good lt) {l : List Keyed} (h : Srt lt l) {i j : Nat} {x y : Keyed} (hij : i ≤ j) (hx : l[i]? = some x) (hy : l[j]? = some y) : lt y x = false := by
  obtain ⟨h1, e1⟩ := List.getElem?_eq_some_iff.mp hx
  obtain ⟨h2, e2⟩ := List.getElem?_eq_some_iff.mp hy
  by_cases e : i = j
  · subst e
    rw [hx] at hy
    cases hy
    exact G.irrefl _
  · rw [← e1, ← e2]
    exact List.pairwise_iff_getElem.mp h i j h1 h2 (by omega)
/-- the joined run -/
theorem join_srt (G : Good lt) {al bl r : List Keyed} {k q : Nat} {b0 aL : Keyed} (ha : Srt lt al) (hb : Srt lt bl) (hr : Srt lt r) (hp : r.Perm (al.drop k ++ bl.take q)) (hb0 : ∀ y ∈ bl, lt y b0 = false) (haL : ∀ x ∈ al, lt aL x = false)
    (h1 : ∀ x ∈ al.take k, lt b0 x = false) (h2 : ∀ y ∈ bl.drop q, lt y aL = false) : Srt lt (al.take k ++ (r ++ bl.drop q)) := by
  have sa := ha
  unfold Srt at sa
  rw [← List.take_append_drop k al, List.pairwise_append] at sa
  have sb := hb
  unfold Srt at sb
  rw [← List.take_append_drop q bl, List.pairwise_append] at sb
  unfold Srt
  rw [List.pairwise_append, List.pairwise_append]
  refine ⟨ha.take k, ⟨hr, hb.drop q, fun x hx y hy => ?_⟩, fun x hx y hy => ?_⟩
  · rcases List.mem_append.mp (hp.mem_iff.mp hx) with hx | hx
    · exact G.ntrans _ _ _ (h2 y hy) (haL x (List.mem_of_mem_drop hx))
    · exact sb.2.2 x hx y hy
  · rcases List.mem_append.mp hy with hy | hy
    · rcases List.mem_append.mp (hp.mem_iff.mp hy) with hy | hy
      · exact sa.2.2 x hx y hy
      · exact G.ntrans _ _ _ (hb0 y (List.mem_of_mem_take hy)) (h1 x hx)
    · exact G.ntrans _ _ _ (hb0 y (List.mem_of_mem_drop hy)) (h1 x hx)
set_option maxHeartbeats 1000000 in
theorem wpS_mergeAt {st : SortSt} {Q : Bool → SortSt → Prop} {i sa na pw sb nb pw2 : Nat} {P al bl R : List Keyed} (hL : LtOk prog w A E s κ U lt) (G : Good lt) (hk : kindOf st = κ) (hf : failedOf st = none) (hU : ∀ i, i < (arrOf st).size → U (gt (arrOf st) i))
    (hp1 : (pendingOf st)[i]? = some (sa, na, pw)) (hp2 : (pendingOf st)[i + 1]? = some (sb, nb, pw2)) (hd : (arrOf st).toList = P ++ (al ++ (bl ++ R))) (e1 : P.length = sa) (e2 : al.length = na) (e3 : sb = sa + na) (e4 : bl.length = nb)
    (h1 : 1 ≤ na) (h2 : 1 ≤ nb) (ha : Srt lt al) (hb : Srt lt bl)
    (h : ∀ (st' : SortSt) (cl : List Keyed), kindOf st' = kindOf st → failedOf st' = none → pendingOf st' = ((pendingOf st).setIfInBounds i (sa, na + nb, pw)).eraseIdxIfInBounds (i + 1) → (arrOf st').toList = P ++ (cl ++ R) → cl.Perm (al ++ bl) → Srt lt cl → Q true st') :
    wpS (model prog w) A E s (mergeAt' i) Q st := by
  have hsz : (arrOf st).size = sa + na + nb + R.length := by
    have := congrArg List.length hd
    simp at this
    omega
  have gA : ∀ j, j < na → al[j]? = some (gt (arrOf st) (sa + j)) := by
    intro j hj
    have := gt_list (a := arrOf st) (i := sa + j) (by omega)
    rw [hd, List.getElem?_append_right (by omega), List.getElem?_append_left (by omega)] at this
    rw [← this, e1]; congr 1; omega
  have gB : ∀ j, j < nb → bl[j]? = some (gt (arrOf st) (sb + j)) := by
    intro j hj
    have := gt_list (a := arrOf st) (i := sb + j) (by omega)
    rw [hd, List.getElem?_append_right (by omega), List.getElem?_append_right (by omega), List.getElem?_append_left (by omega)] at this
    rw [← this, e1, e2]; congr 1; omega
  have hb0 : ∀ y ∈ bl, lt y (gt (arrOf st) sb) = false := by
    intro y hy
    obtain ⟨j, hj⟩ := List.mem_iff_getElem?.mp hy
    exact hb.at G (Nat.zero_le j) (gB 0 (by omega)) hj
  have haL : ∀ x ∈ al, lt (gt (arrOf st) (sa + na - 1)) x = false := by
    intro x hx
    obtain ⟨j, hj⟩ := List.mem_iff_getElem?.mp hx
    have hjl := (List.getElem?_eq_some_iff.mp hj).1
    have := gA (na - 1) (by omega)
    rw [show sa + (na - 1) = sa + na - 1 by omega] at this
    exact ha.at G (by omega) hj this
  have hsz2 := hsz
  simp only [arrOf] at hsz2
  refine wpS_bind (wpS_get ?_)
  rw [hp1, hp2]
  dsimp only
  refine wpS_bind (wpS_set ?_)
  refine wpS_bind (wpS_elem (by omega) (wpS_bind ?_))
  refine wpS_gallop (lt := lt) (U := U) (κ := κ) hL hk (by omega) (by omega) (fun i hi => hU _ (by omega)) (hU _ (by omega)) (bey_mono G fun i j hij hj => ha.at G hij (gA i (by omega)) (gA j hj)) ?_
  intro k q1 q2 q3
  have q2' : ∀ x ∈ al.take k, lt (gt (arrOf st) sb) x = false := by
    intro x hx
    obtain ⟨j, hj⟩ := List.mem_iff_getElem?.mp hx
    have hjk : j < k := by have := (List.getElem?_eq_some_iff.mp hj).1; simp at this; omega
    rw [List.getElem?_take_of_lt hjk, gA j (by omega)] at hj
    have := q2 j hjk
    unfold bey at this
    rw [← Option.some.inj hj]
    simpa using this
  dsimp only
  by_cases hk0 : na - k = 0
  · rw [if_pos (by simpa using hk0)]
    refine wpS_pure (h _ (al ++ bl) rfl hf rfl (by rw [List.append_assoc]; exact hd) (.refl _) ?_)
    have hta : al.take k = al := List.take_of_length_le (by omega)
    have := join_srt G (k := k) (q := 0) (r := []) ha hb .nil (by rw [List.drop_of_length_le (by omega)]; simp) hb0 haL q2' (b0 := gt (arrOf st) sb) (aL := gt (arrOf st) (sa + na - 1))
    unfold Srt
    rw [List.pairwise_append]
    exact ⟨ha, hb, fun x hx y hy => G.ntrans _ _ _ (hb0 y hy) (q2' x (by rw [hta]; exact hx))⟩
  rw [if_neg (by simpa using hk0)]
  refine wpS_bind (wpS_elem (by omega) (wpS_bind ?_))
  rw [show sa + k + (na - k) - 1 = sa + na - 1 by omega]
  refine wpS_gallop (lt := lt) (U := U) (κ := κ) hL hk (by omega) (by omega) (fun i hi => hU _ (by omega)) (hU _ (by omega)) (bey_mono G fun i j hij hj => hb.at G hij (gB i (by omega)) (gB j hj)) ?_
  intro q p1 p2 p3
  have p3' : ∀ y ∈ bl.drop q, lt y (gt (arrOf st) (sa + na - 1)) = false := by
    intro y hy
    obtain ⟨j, hj⟩ := List.mem_iff_getElem?.mp hy
    rw [List.getElem?_drop] at hj
    have hjl := (List.getElem?_eq_some_iff.mp hj).1
    rw [gB (q + j) (by omega)] at hj
    have := p3 (q + j) (by omega) (by omega)
    unfold bey at this
    rw [← Option.some.inj hj]
    simpa using this
  dsimp only
  by_cases hq0 : q = 0
  · rw [if_pos (by simpa using hq0)]
    refine wpS_pure (h _ (al ++ bl) rfl hf rfl (by rw [List.append_assoc]; exact hd) (.refl _) ?_)
    subst hq0
    unfold Srt
    rw [List.pairwise_append]
    exact ⟨ha, hb, fun x hx y hy => G.ntrans _ _ _ (p3' y (by simpa using hy)) (haL x hx)⟩
  rw [if_neg (by simpa using hq0)]
  have ex : ((arrOf st).extract (sa + k) sb).toList = al.drop k := by
    rw [ext_toList, hd, List.drop_append, List.drop_of_length_le (by omega : P.length ≤ sa + k), List.nil_append, show sa + k - P.length = k by omega, List.drop_append_of_le_length (by omega), List.take_append_of_le_length (by simp; omega), List.take_of_length_le (by simp; omega)]
  have ey : ((arrOf st).extract sb (sb + q)).toList = bl.take q := by
    rw [ext_toList, hd, List.drop_append, List.drop_of_length_le (by omega : P.length ≤ sb), List.nil_append, List.drop_append, List.drop_of_length_le (by omega), List.nil_append, show sb - P.length - al.length = 0 by omega, List.drop_zero, show sb + q - sb = q by omega, List.take_append_of_le_length (by omega)]
  have sx : ((arrOf st).extract (sa + k) sb).size = na - k := by simp; omega
  have sy : ((arrOf st).extract sb (sb + q)).size = q := by simp; omega
  have gx : ∀ j, j < na - k → gt ((arrOf st).extract (sa + k) sb) j = gt (arrOf st) (sa + k + j) := by
    intro j hj
    have e := gt_list (a := (arrOf st).extract (sa + k) sb) (i := j) (by omega)
    rw [ex, List.getElem?_drop, gA (k + j) (by omega), ← Nat.add_assoc] at e
    exact (Option.some.inj e).symm
  have gy : ∀ j, j < q → gt ((arrOf st).extract sb (sb + q)) j = gt (arrOf st) (sb + j) := by
    intro j hj
    have e := gt_list (a := (arrOf st).extract sb (sb + q)) (i := j) (by omega)
    rw [ey, List.getElem?_take_of_lt hj, gB j (by omega)] at e
    exact (Option.some.inj e).symm
  have hc0 : lt (gt ((arrOf st).extract sb (sb + q)) 0) (gt ((arrOf st).extract (sa + k) sb) 0) = true := by
    rw [gx 0 (by omega), gy 0 (by omega)]
    have := q3 k (Nat.le_refl _) (by omega)
    unfold bey at this
    simpa using this
  have hc1 : lt (gt ((arrOf st).extract sb (sb + q)) (((arrOf st).extract sb (sb + q)).size - 1)) (gt ((arrOf st).extract (sa + k) sb) (((arrOf st).extract (sa + k) sb).size - 1)) = true := by
    rw [sx, sy, gx (na - k - 1) (by omega), gy (q - 1) (by omega), show sa + k + (na - k - 1) = sa + na - 1 by omega]
    have := p2 (q - 1) (by omega)
    unfold bey at this
    simpa using this
  have fin : ∀ (r : Array Keyed) (st2 : SortSt), SameSt (SortSt.mk' (kindOf st) (arrOf st) (((pendingOf st).setIfInBounds i (sa, na + nb, pw)).eraseIdxIfInBounds (i + 1)) (gallopOf st) (failedOf st)) st2 → Res lt ((arrOf st).extract (sa + k) sb) ((arrOf st).extract sb (sb + q)) r →
      Q (failedOf (setArr st2 (r.toList.zipIdx.foldl (fun a (p : Keyed × Nat) => a.setIfInBounds (sa + k + p.2) p.1) (arrOf st2)))).isNone (setArr st2 (r.toList.zipIdx.foldl (fun a (p : Keyed × Nat) => a.setIfInBounds (sa + k + p.2) p.1) (arrOf st2))) := by
    rintro r st2 ⟨k1, k2, k3, k4⟩ ⟨rs, rp⟩
    rw [ex, ey] at rp
    have k4' : failedOf st2 = none := k4.trans hf
    have hres := h (setArr st2 (r.toList.zipIdx.foldl (fun a (p : Keyed × Nat) => a.setIfInBounds (sa + k + p.2) p.1) (arrOf st2))) (al.take k ++ (r.toList ++ bl.drop q)) k1 k4' k3 ?_ ?_ (join_srt G ha hb rs rp hb0 haL q2' p3')
    · show Q (failedOf st2).isNone _
      rw [k4']
      exact hres
    · have hrl : r.toList.length = na - k + q := by rw [rp.length_eq]; simp; omega
      have k2' : arrOf st2 = arrOf st := k2
      show (r.toList.zipIdx.foldl (fun a (p : Keyed × Nat) => a.setIfInBounds (sa + k + p.2) p.1) (arrOf st2)).toList = _
      rw [k2', write_list (sa + k) r.toList 0 (arrOf st) (by omega), hd, hrl]
      have t1 : (P ++ (al ++ (bl ++ R))).take (sa + k + 0) = P ++ al.take k := by
        rw [List.take_append, List.take_of_length_le (by omega), show sa + k + 0 - P.length = k by omega, List.take_append_of_le_length (by omega)]
      have t2 : (P ++ (al ++ (bl ++ R))).drop (sa + k + 0 + (na - k + q)) = bl.drop q ++ R := by
        rw [List.drop_append, List.drop_of_length_le (by omega), List.nil_append, List.drop_append, List.drop_of_length_le (by omega), List.nil_append, show sa + k + 0 + (na - k + q) - P.length - al.length = q by omega, List.drop_append_of_le_length (by omega)]
      rw [t1, t2]
      simp only [List.append_assoc]
    · have : (al ++ bl) = (al.take k ++ al.drop k) ++ (bl.take q ++ bl.drop q) := by rw [List.take_append_drop, List.take_append_drop]
      rw [this, List.append_assoc]
      refine List.Perm.append_left _ ?_
      rw [← List.append_assoc]
      exact rp.append_right _
  by_cases hle : na - k ≤ q
  · rw [if_pos hle]
    refine wpS_bind (wpS_mergeLo (a := (arrOf st).extract (sa + k) sb) (b := (arrOf st).extract sb (sb + q)) hL G hk (by rw [ex]; exact ha.drop k) (by rw [ey]; exact hb.take q) (fun j hj => by rw [gx j (by omega)]; exact hU _ (by omega)) (fun j hj => by rw [gy j (by omega)]; exact hU _ (by omega)) (by omega) (by omega) hc0 hc1 ?_)
    intro r st2 hs2 hR
    refine wpS_bind (wpS_modify (wpS_bind (wpS_get (wpS_pure ?_))))
    exact fin r st2 hs2 hR
  · rw [if_neg hle]
    refine wpS_bind (wpS_mergeHi (a := (arrOf st).extract (sa + k) sb) (b := (arrOf st).extract sb (sb + q)) hL G hk (by rw [ex]; exact ha.drop k) (by rw [ey]; exact hb.take q) (fun j hj => by rw [gx j (by omega)]; exact hU _ (by omega)) (fun j hj => by rw [gy j (by omega)]; exact hU _ (by omega)) (by omega) (by omega) hc0 hc1 ?_)
    intro r st2 hs2 hR
    refine wpS_bind (wpS_modify (wpS_bind (wpS_get (wpS_pure ?_))))
    exact fin r st2 hs2 hR
end
end Mine
namespace Mine
def kk (t : Nat × Nat × Nat) : Nat × Nat := (t.1, t.2.1)
def Pd (lt : Keyed → Keyed → Bool) : List (Nat × Nat) → List (List Keyed) → Nat → Prop
  | [], [], _ => True
  | (s, l) :: p, r :: rs, o => s = o ∧ l = r.length ∧ 1 ≤ r.length ∧ Srt lt r ∧ Pd lt p rs (o + r.length)
  | _, _, _ => False
theorem Pd.len {lt : Keyed → Keyed → Bool} : ∀ {p : List (Nat × Nat)} {rs : List (List Keyed)} {o : Nat}, Pd lt p rs o → p.length = rs.length
  | [], [], _, _ => rfl
  | [], _ :: _, _, h => h.elim
  | _ :: _, [], _, h => h.elim
  | _ :: _, _ :: _, _, h => by simp [Pd.len h.2.2.2.2]
theorem Pd.count {lt : Keyed → Keyed → Bool} : ∀ {p : List (Nat × Nat)} {rs : List (List Keyed)} {o : Nat}, Pd lt p rs o → rs.length ≤ rs.flatten.length
  | [], [], _, _ => by simp
  | [], _ :: _, _, h => h.elim
  | _ :: _, [], _, h => h.elim
  | _ :: _, r :: rs, _, h => by have := Pd.count h.2.2.2.2; have := h.2.2.1; simp only [List.length_cons, List.flatten_cons, List.length_append]; omega
theorem Pd.append {lt : Keyed → Keyed → Bool} : ∀ {p : List (Nat × Nat)} {rs : List (List Keyed)} {o : Nat} {p2 : List (Nat × Nat)} {r2 : List (List Keyed)}, Pd lt p rs o → Pd lt p2 r2 (o + rs.flatten.length) → Pd lt (p ++ p2) (rs ++ r2) o
  | [], [], _, _, _, _, h => by simpa using h
  | [], _ :: _, _, _, _, h, _ => h.elim
  | _ :: _, [], _, _, _, h, _ => h.elim
  | (s, l) :: p, r :: rs, o, p2, r2, h, k => by
    refine ⟨h.1, h.2.1, h.2.2.1, h.2.2.2.1, Pd.append h.2.2.2.2 ?_⟩
    simpa [Nat.add_assoc] using k
theorem Pd.split {lt : Keyed → Keyed → Bool} : ∀ {p1 p2 : List (Nat × Nat)} {rs : List (List Keyed)} {o : Nat}, Pd lt (p1 ++ p2) rs o → ∃ r1 r2, rs = r1 ++ r2 ∧ Pd lt p1 r1 o ∧ Pd lt p2 r2 (o + r1.flatten.length)
  | [], p2, rs, o, h => ⟨[], rs, rfl, trivial, by simpa using h⟩
  | (s, l) :: p1, p2, [], o, h => h.elim
  | (s, l) :: p1, p2, r :: rs, o, h => by
    obtain ⟨r1, r2, rfl, a, b⟩ := Pd.split (p1 := p1) h.2.2.2.2
    exact ⟨r :: r1, r2, rfl, ⟨h.1, h.2.1, h.2.2.1, h.2.2.2.1, a⟩, by simpa [Nat.add_assoc] using b⟩
section
variable {prog : Program} {w : World} {A : Around} {E : Value → Shared → Prop} {s : Shared} {lt : Keyed → Keyed → Bool} {U : Keyed → Prop} {κ : SortKind}
structure SI (lt : Keyed → Keyed → Bool) (κ : SortKind) (a0 : List Keyed) (st : SortSt) (runs : List (List Keyed)) (rest : List Keyed) : Prop where
  kind : kindOf st = κ
  failed : failedOf st = none
  arr : (arrOf st).toList = runs.flatten ++ rest
  perm : (arrOf st).toList.Perm a0
  pend : Pd lt ((pendingOf st).toList.map kk) runs 0
theorem SI.allU {a0 : List Keyed} {st : SortSt} {runs : List (List Keyed)} {rest : List Keyed} (h : SI lt κ a0 st runs rest) (hU : ∀ x ∈ a0, U x) : ∀ i, i < (arrOf st).size → U (gt (arrOf st) i) :=
  fun i hi => hU _ (h.perm.mem_iff.mp (List.mem_of_getElem? (gt_list hi)))
theorem SI.size {a0 : List Keyed} {st : SortSt} {runs : List (List Keyed)} {rest : List Keyed} (h : SI lt κ a0 st runs rest) : (arrOf st).size = a0.length := by
  rw [← Array.length_toList]; exact h.perm.length_eq
theorem mg_step {a0 : List Keyed} {st : SortSt} {runs : List (List Keyed)} {rest : List Keyed} {Q : Bool → SortSt → Prop} {i : Nat} (hL : LtOk prog w A E s κ U lt) (G : Good lt) (hU : ∀ x ∈ a0, U x) (h : SI lt κ a0 st runs rest) (hi : i + 1 < (pendingOf st).size)
    (hq : ∀ st' runs', SI lt κ a0 st' runs' rest → runs'.flatten.length = runs.flatten.length → runs'.length + 1 = runs.length → Q true st') : wpS (model prog w) A E s (mergeAt' i) Q st := by
  have hpl : (pendingOf st).toList.length = (pendingOf st).size := Array.length_toList
  obtain ⟨⟨sa, na, pw⟩, hx⟩ : ∃ x, (pendingOf st)[i]? = some x := ⟨(pendingOf st)[i], by simp [(by omega : i < (pendingOf st).size)]⟩
  obtain ⟨⟨sb, nb, pw2⟩, hy⟩ : ∃ x, (pendingOf st)[i + 1]? = some x := ⟨(pendingOf st)[i + 1], by simp [hi]⟩
  have hx' : (pendingOf st).toList[i]? = some (sa, na, pw) := by rw [Array.getElem?_toList]; exact hx
  have hy' : (pendingOf st).toList[i + 1]? = some (sb, nb, pw2) := by rw [Array.getElem?_toList]; exact hy
  obtain ⟨p1, p2, hp, hlen⟩ : ∃ p1 p2, (pendingOf st).toList = p1 ++ (sa, na, pw) :: (sb, nb, pw2) :: p2 ∧ p1.length = i := by
    refine ⟨(pendingOf st).toList.take i, (pendingOf st).toList.drop (i + 2), ?_, by simp; omega⟩
    obtain ⟨l1, e1⟩ := List.getElem?_eq_some_iff.mp hx'
    obtain ⟨l2, e2⟩ := List.getElem?_eq_some_iff.mp hy'
    rw [← e1, ← e2, ← List.drop_eq_getElem_cons l2, ← List.drop_eq_getElem_cons l1, List.take_append_drop]
  have hpd := h.pend
  rw [hp, List.map_append] at hpd
  obtain ⟨r1, r2, rfl, d1, d2⟩ := hpd.split
  match r2, d2 with
  | al :: bl :: r3, d2 =>
    obtain ⟨c1, c2, c3, c4, k1, k2, k3, k4, d3⟩ := d2
    dsimp only [kk] at c1 c2 k1 k2
    rw [Nat.zero_add] at c1 k1 d3
    refine wpS_mergeAt (P := r1.flatten) (al := al) (bl := bl) (R := r3.flatten ++ rest) hL G h.kind h.failed (h.allU hU) hx hy (by rw [h.arr]; simp) c1.symm c2.symm (by omega) k2.symm (by omega) (by omega) c4 k4 ?_
    intro st' cl e1 e2 e3 e4 e5 e6
    refine hq st' (r1 ++ cl :: r3) ⟨e1.trans h.kind, e2, by rw [e4]; simp, ?_, ?_⟩ ?_ (by simp; omega)
    · refine .trans ?_ h.perm
      rw [e4, h.arr]
      simp only [List.flatten_append, List.flatten_cons, List.append_assoc]
      refine List.Perm.append_left _ ?_
      rw [← List.append_assoc al bl]
      exact e5.append_right _
    · rw [e3]
      have et : (((pendingOf st).setIfInBounds i (sa, na + nb, pw)).eraseIdxIfInBounds (i + 1)).toList = p1 ++ (sa, na + nb, pw) :: p2 := by
        rw [Array.toList_eraseIdxIfInBounds, Array.toList_setIfInBounds, hp, ← hlen]
        simp [List.eraseIdx_append_of_length_le]
      rw [et, List.map_append]
      refine d1.append ?_
      have hcl : cl.length = na + nb := by rw [e5.length_eq]; simp; omega
      refine ⟨by show sa = _; omega, by show na + nb = _; omega, by omega, e6, ?_⟩
      rw [Nat.zero_add, hcl]
      rw [show r1.flatten.length + (na + nb) = r1.flatten.length + al.length + bl.length by omega]
      exact d3
    · have := e5.length_eq
      simp only [List.flatten_append, List.flatten_cons, List.length_append] at this ⊢
      omega
end
end Mine
namespace Mine
section
variable {prog : Program} {w : World} {A : Around} {E : Value → Shared → Prop} {s : Shared} {lt : Keyed → Keyed → Bool} {U : Keyed → Prop} {κ : SortKind}
/-- a change from the runs' end on keeps the runs -/
theorem SI.chg {a0 : List Keyed} {st st' : SortSt} {runs : List (List Keyed)} {rest : List Keyed} (h : SI lt κ a0 st runs rest) (c : Chg st st' runs.flatten.length) : SI lt κ a0 st' runs ((arrOf st').toList.drop runs.flatten.length) ∧ pendingOf st' = pendingOf st := by
  obtain ⟨xs, rfl, p, q⟩ := c
  have p' : xs.toList.Perm (arrOf st).toList := Array.perm_iff_toList_perm.mp p
  refine ⟨⟨h.kind, h.failed, ?_, p'.trans h.perm, h.pend⟩, rfl⟩
  show xs.toList = runs.flatten ++ xs.toList.drop runs.flatten.length
  have hl : runs.flatten.length ≤ (arrOf st).size := by rw [← Array.length_toList, h.arr, List.length_append]; omega
  have hxs : xs.size = (arrOf st).size := by have := p'.length_eq; rwa [Array.length_toList, Array.length_toList] at this
  have e : xs.toList.take runs.flatten.length = runs.flatten := by
    apply List.ext_getElem?
    intro i
    by_cases hi : i < runs.flatten.length
    · rw [List.getElem?_take_of_lt hi]
      have hx : i < xs.size := by omega
      rw [gt_list hx, q i hi]
      have : (arrOf st).toList[i]? = some (gt (arrOf st) i) := gt_list (by omega)
      rw [← this, h.arr, List.getElem?_append_left hi]
    · rw [List.getElem?_eq_none (by rw [List.length_take]; omega), List.getElem?_eq_none (by omega)]
  conv => lhs; rw [← List.take_append_drop runs.flatten.length xs.toList, e]
theorem SR.list {xs : Array Keyed} {lo n : Nat} (h : SR lt xs lo (lo + n)) (hn : lo + n ≤ xs.size) : Srt lt ((xs.toList.drop lo).take n) := by
  unfold Srt
  rw [List.pairwise_iff_getElem]
  intro i j hi hj hij
  simp at hi hj
  have e1 : ((xs.toList.drop lo).take n)[i]? = some (gt xs (lo + i)) := by rw [List.getElem?_take_of_lt (by omega), List.getElem?_drop]; exact gt_list (by omega)
  have e2 : ((xs.toList.drop lo).take n)[j]? = some (gt xs (lo + j)) := by rw [List.getElem?_take_of_lt (by omega), List.getElem?_drop]; exact gt_list (by omega)
  rw [(List.getElem?_eq_some_iff.mp e1).2, (List.getElem?_eq_some_iff.mp e2).2]
  exact h _ _ (by omega) (by omega) (by omega)
theorem pend_push0 (p : Array (Nat × Nat × Nat)) (lo n : Nat) : (p.push (lo, n, 0)).toList.map kk = p.toList.map kk ++ [(lo, n)] := by simp [kk]
theorem pend_push (p : Array (Nat × Nat × Nat)) (i lo n pw : Nat) : ((p.modify i (fun x => (x.1, x.2.1, pw))).push (lo, n, 0)).toList.map kk = p.toList.map kk ++ [(lo, n)] := by
  rw [pend_push0]
  congr 1
  apply List.ext_getElem?
  intro j
  rw [List.getElem?_map, List.getElem?_map, Array.getElem?_toList, Array.getElem?_toList, Array.getElem?_modify]
  split
  · cases p[j]? <;> rfl
  · rfl
theorem ite_p {c : Prop} [Decidable c] {a b m : Nat} (h1 : a + 1 < m) (h2 : b + 1 < m) : (if c then a else b) + 1 < m := by split <;> assumption
set_option maxHeartbeats 1000000 in
theorem wpS_sortAll {st : SortSt} {Q : Unit → SortSt → Prop} (hL : LtOk prog w A E s κ U lt) (G : Good lt) (hk : kindOf st = κ) (hf : failedOf st = none) (hp : pendingOf st = #[]) (hU : ∀ x ∈ (arrOf st).toList, U x)
    (h : ∀ st' : SortSt, failedOf st' = none → (arrOf st').toList.Perm (arrOf st).toList → Srt lt (arrOf st').toList → Q () st') : wpS (model prog w) A E s sortRuns' Q st := by
  have S0 : SI lt κ (arrOf st).toList st [] (arrOf st).toList := ⟨hk, hf, by simp, .refl _, by rw [hp]; trivial⟩
  refine wpS_bind (wpS_get ?_)
  try dsimp only
  generalize hsz : (arrOf st).size = size
  have ha0 : (arrOf st).toList.length = size := by rw [Array.length_toList]; exact hsz
  generalize (arrOf st).toList = a0 at S0 h hU ha0
  generalize (sortPriv% PySem.Builtin.minRun) size size 0 = minrun
  refine wpS_bind (wpS_mono (wpS_forRange
    (I := fun x c st' => ∃ lo runs rest, c = (none, lo) ∧ SI lt κ a0 st' runs rest ∧ lo = runs.flatten.length ∧ x ≤ lo)
    (Q := fun c st' => ∃ lo runs, c = (none, lo) ∧ SI lt κ a0 st' runs []) ?_ ?_ ⟨0, [], _, rfl, S0, rfl, Nat.le_refl _⟩) ?_)
  · rintro x c st1 _ hx ⟨lo, runs, rest, rfl, S1, hlo, hxl⟩
    have hz1 := S1.size
    try dsimp only
    by_cases hge : lo ≥ size
    · rw [if_pos hge]
      have hr : rest = [] := by
        have := congrArg List.length S1.arr
        rw [List.length_append, Array.length_toList] at this
        exact List.length_eq_zero_iff.mp (by omega)
      subst hr
      exact wpS_pure ⟨lo, runs, rfl, S1⟩
    rw [if_neg hge]
    refine wpS_bind (wpS_count hL G S1.kind (S1.allU hU) (by omega) (by omega) ?_)
    intro st2 n C2 n1 n2 R2
    try dsimp only
    by_cases hm : n < minrun
    · rw [if_pos hm]
      refine wpS_bind (wpS_lift (wpAny_rule ⟨rfl, ?_⟩))
      subst hlo
      obtain ⟨S2, P2⟩ := S1.chg C2
      have hz2 := S2.size
      refine wpS_bind (wpS_binary (lo := runs.flatten.length) (n := min (size - runs.flatten.length) minrun) (ok := n) hL G S2.kind (S2.allU hU) (by omega) (by omega) R2 ?_)
      intro st3 C3 R3
      simp only [Bool.not_true, Bool.false_eq_true, if_false]
      replace C2 := C2.trans C3
      clear S2 P2 hz2 C3 R2
      have n1' : 1 ≤ min (size - runs.flatten.length) minrun := by omega
      have n2' : min (size - runs.flatten.length) minrun ≤ size - runs.flatten.length := by omega
      clear n1 n2 hm
      clear n
      generalize min (size - runs.flatten.length) minrun = n at *
      generalize hlo : runs.flatten.length = lo at *
      replace hlo := hlo.symm
      subst hlo
      obtain ⟨S2, P2⟩ := S1.chg C2
      have hz2 := S2.size
      generalize hlo : runs.flatten.length = lo at *
      have hln : lo + n ≤ (arrOf st3).size := by omega
      generalize hrun : ((arrOf st3).toList.drop lo).take n = run at *
      generalize hrest : ((arrOf st3).toList.drop lo).drop n = rest3 at *
      have hrr : (arrOf st3).toList.drop lo = run ++ rest3 := by rw [← hrun, ← hrest, List.take_append_drop]
      have hrl : run.length = n := by rw [← hrun, List.length_take, List.length_drop, Array.length_toList]; omega
      have hrs : Srt lt run := by rw [← hrun]; exact R3.list hln
      rw [hrr] at S2
      have fin : ∀ stx runs', SI lt κ a0 stx runs' (run ++ rest3) → runs'.flatten.length = lo → ∀ st4 : SortSt, kindOf st4 = kindOf stx → failedOf st4 = failedOf stx → arrOf st4 = arrOf stx → (pendingOf st4).toList.map kk = (pendingOf stx).toList.map kk ++ [(lo, n)] → SI lt κ a0 st4 (runs' ++ [run]) rest3 := by
        intro stx runs' S3 e3 st4 g1 g2 g3 g4
        refine ⟨g1.trans S3.kind, g2.trans S3.failed, by rw [g3, S3.arr]; simp, by rw [g3]; exact S3.perm, ?_⟩
        rw [g4]
        refine S3.pend.append ⟨by omega, hrl.symm, by omega, hrs, trivial⟩
      refine wpS_bind (wpS_get ?_)
      try dsimp only
      split
      · refine wpS_bind (wpS_mono (wpS_forRange (I := fun x c st' => c = (none, ()) ∧ ∃ runs', SI lt κ a0 st' runs' (run ++ rest3) ∧ runs'.flatten.length = lo) (Q := fun c st' => c = (none, ()) ∧ ∃ runs', SI lt κ a0 st' runs' (run ++ rest3) ∧ runs'.flatten.length = lo) ?_ ?_ ⟨rfl, runs, S2, hlo⟩) ?_)
        · rintro y c stx _ _ ⟨rfl, runs', S3, e3⟩
          refine wpS_bind (wpS_get ?_)
          try dsimp only
          split
          · next hh =>
            split
            · exact wpS_pure ⟨rfl, runs', S3, e3⟩
            · have h1 : 1 < (pendingOf stx).size := by
                by_cases g : (pendingOf stx).size > 1
                · exact g
                · rw [if_neg g] at hh; cases hh
              refine wpS_bind (mg_step hL G hU S3 (by simp only [pendingOf] at h1 ⊢; omega) ?_)
              intro st4 runs4 S4 e4 _
              exact wpS_pure ⟨rfl, runs4, S4, e4.trans e3⟩
          · exact wpS_pure ⟨rfl, runs', S3, e3⟩
        · rintro c stx h; exact h
        rintro c stx ⟨rfl, runs', S3, e3⟩
        try dsimp only
        refine wpS_bind (wpS_modify ?_)
        refine wpS_bind (wpS_modify ?_)
        refine wpS_pure ⟨lo + n, runs' ++ [run], rest3, rfl, fin stx runs' S3 e3 _ rfl rfl rfl ?_, by simp only [List.flatten_append, List.length_append, List.flatten_cons, List.flatten_nil, List.append_nil]; omega, by omega⟩
        exact pend_push _ _ _ _ _
      · refine wpS_bind (wpS_modify ?_)
        refine wpS_pure ⟨lo + n, runs ++ [run], rest3, rfl, fin st3 runs S2 hlo _ rfl rfl rfl ?_, by simp only [List.flatten_append, List.length_append, List.flatten_cons, List.flatten_nil, List.append_nil]; omega, by omega⟩
        exact pend_push0 _ _ _
    · rw [if_neg hm]
      subst hlo
      obtain ⟨S2, P2⟩ := S1.chg C2
      have hz2 := S2.size
      generalize hlo : runs.flatten.length = lo at *
      have hln : lo + n ≤ (arrOf st2).size := by omega
      generalize hrun : ((arrOf st2).toList.drop lo).take n = run at *
      generalize hrest : ((arrOf st2).toList.drop lo).drop n = rest2 at *
      have hrr : (arrOf st2).toList.drop lo = run ++ rest2 := by rw [← hrun, ← hrest, List.take_append_drop]
      have hrl : run.length = n := by rw [← hrun, List.length_take, List.length_drop, Array.length_toList]; omega
      have hrs : Srt lt run := by rw [← hrun]; exact R2.list hln
      rw [hrr] at S2
      have fin : ∀ st3 runs', SI lt κ a0 st3 runs' (run ++ rest2) → runs'.flatten.length = lo → ∀ st4 : SortSt, kindOf st4 = kindOf st3 → failedOf st4 = failedOf st3 → arrOf st4 = arrOf st3 → (pendingOf st4).toList.map kk = (pendingOf st3).toList.map kk ++ [(lo, n)] → SI lt κ a0 st4 (runs' ++ [run]) rest2 := by
        intro st3 runs' S3 e3 st4 g1 g2 g3 g4
        refine ⟨g1.trans S3.kind, g2.trans S3.failed, by rw [g3, S3.arr]; simp, by rw [g3]; exact S3.perm, ?_⟩
        rw [g4]
        refine S3.pend.append ⟨by omega, hrl.symm, by omega, hrs, trivial⟩
      refine wpS_bind (wpS_get ?_)
      split
      · refine wpS_bind (wpS_mono (wpS_forRange (I := fun x c st' => c = (none, ()) ∧ ∃ runs', SI lt κ a0 st' runs' (run ++ rest2) ∧ runs'.flatten.length = lo) (Q := fun c st' => c = (none, ()) ∧ ∃ runs', SI lt κ a0 st' runs' (run ++ rest2) ∧ runs'.flatten.length = lo) ?_ ?_ ⟨rfl, runs, S2, hlo⟩) ?_)
        · rintro y c st3 _ _ ⟨rfl, runs', S3, e3⟩
          refine wpS_bind (wpS_get ?_)
          try dsimp only
          split
          · next hh =>
            split
            · exact wpS_pure ⟨rfl, runs', S3, e3⟩
            · have h1 : 1 < (pendingOf st3).size := by
                by_cases g : (pendingOf st3).size > 1
                · exact g
                · rw [if_neg g] at hh; cases hh
              refine wpS_bind (mg_step hL G hU S3 (by simp only [pendingOf] at h1 ⊢; omega) ?_)
              intro st4 runs4 S4 e4 _
              exact wpS_pure ⟨rfl, runs4, S4, e4.trans e3⟩
          · exact wpS_pure ⟨rfl, runs', S3, e3⟩
        · rintro c st3 h; exact h
        rintro c st3 ⟨rfl, runs', S3, e3⟩
        try dsimp only
        refine wpS_bind (wpS_modify ?_)
        refine wpS_bind (wpS_modify ?_)
        refine wpS_pure ⟨lo + n, runs' ++ [run], rest2, rfl, fin st3 runs' S3 e3 _ rfl rfl rfl ?_, by simp only [List.flatten_append, List.length_append, List.flatten_cons, List.flatten_nil, List.append_nil]; omega, by omega⟩
        exact pend_push _ _ _ _ _
      · refine wpS_bind (wpS_modify ?_)
        refine wpS_pure ⟨lo + n, runs ++ [run], rest2, rfl, fin st2 runs S2 hlo _ rfl rfl rfl ?_, by simp only [List.flatten_append, List.length_append, List.flatten_cons, List.flatten_nil, List.append_nil]; omega, by omega⟩
        exact pend_push0 _ _ _
  · rintro c st1 ⟨lo, runs, rest, rfl, S1, hlo, hxl⟩
    have hz1 := S1.size
    have hr : rest = [] := by
      have := congrArg List.length S1.arr
      rw [List.length_append, Array.length_toList] at this
      exact List.length_eq_zero_iff.mp (by omega)
    subst hr
    exact ⟨lo, runs, rfl, S1⟩
  rintro c st1 ⟨lo, runs, rfl, S1⟩
  try dsimp only
  refine wpS_bind (wpS_mono (wpS_forRange (I := fun x c st' => c = (none, ()) ∧ ∃ runs, SI lt κ a0 st' runs [] ∧ (runs.length ≤ 1 ∨ runs.length + x ≤ size)) (Q := fun c st' => c = (none, ()) ∧ ∃ runs, SI lt κ a0 st' runs [] ∧ runs.length ≤ 1) ?_ ?_ ⟨rfl, runs, S1, ?_⟩) ?_)
  · rintro y c st3 _ hy ⟨rfl, runs', S3, e3⟩
    have hpl := S3.pend.len
    rw [List.length_map, Array.length_toList] at hpl
    refine wpS_bind (wpS_get ?_)
    by_cases hp1 : (pendingOf st3).size ≤ 1
    · rw [if_pos hp1]
      exact wpS_pure ⟨rfl, runs', S3, by omega⟩
    · rw [if_neg hp1]
      refine wpS_bind (mg_step hL G hU S3 ?_ ?_)
      · refine ite_p ?_ ?_ <;> (simp only [pendingOf] at hp1 ⊢; omega)
      · intro st4 runs4 S4 e4 e5
        exact wpS_pure ⟨rfl, runs4, S4, by omega⟩
  · rintro c st3 ⟨rfl, runs', S3, e3⟩
    exact ⟨rfl, runs', S3, by omega⟩
  · have := S1.pend.count
    have h2 := congrArg List.length S1.arr
    rw [List.length_append, Array.length_toList, S1.size] at h2
    right
    simp only [List.length_nil] at h2
    omega
  rintro c st3 ⟨rfl, runs', S3, e3⟩
  try dsimp only
  refine wpS_pure (h _ S3.failed S3.perm ?_)
  rw [S3.arr, List.append_nil]
  match runs', S3, e3 with
  | [], _, _ => exact List.Pairwise.nil
  | [r], S3, _ =>
    have := S3.pend
    match hq : (pendingOf st3).toList.map kk, this with
    | (_, _) :: _, d => simpa using d.2.2.2.1
end
end Mine
namespace Mine
section
variable {prog : Program} {w : World} {A : Around} {E : Value → Shared → Prop} {s : Shared} {lt : Keyed → Keyed → Bool} {U : Keyed → Prop} {κ : SortKind}
theorem dup_list : ∀ (l : List Keyed), (∀ x ∈ l, x.1 = x.2) → l = (l.map (·.2)).map fun v => (v, v)
  | [], _ => rfl
  | (a, b) :: l, h => by
    have e : a = b := h _ (.head _)
    subst e
    simp only [List.map_cons]
    congr 1
    exact dup_list l fun x hx => h x (.tail _ hx)
theorem zip_dup (vs : List Value) : (vs.toArray.zip vs.toArray).toList = vs.map fun v => (v, v) := by
  rw [Array.toList_zip]
  induction vs with
  | nil => rfl
  | cons v vs ih => simpa using ih
theorem list_sort_any {a : Addr} {vs : List Value} {n : Nat} {P : PySem.Fin → Shared → Prop} (G : Good lt) (ho : s.heap.get? a = some (seqObj "list" vs.toArray n)) (hz : vs.length ≤ 16384)
    (hU : ∀ v ∈ vs, U (v, v))
    (hK : 2 ≤ vs.length → ∀ h' : Heap, (∀ b o, b ≠ a → s.heap.get? b = some o → h'.get? b = some o) → (∀ Q : SortKind → Shared → Prop, Q κ { s with heap := h' } → wpAny (model prog w) A (keyKind' vs.toArray) Q E { s with heap := h' }) ∧ LtOk prog w A E { s with heap := h' } κ U lt)
    (h : ∀ out : List Value, out.Perm vs → out.Pairwise (fun x y => lt (y, y) (x, x) = false) → P (.done (.ret .none)) { s with heap := sortedHeap s.heap a vs out.toArray }) :
    wpAny (model prog w) A (Builtin.«list.sort» ⟨[.ref a], []⟩) P E s := by
  rw [list_sort_plain]
  have ha : a < s.heap.objs.size := Heap.lt_size ho
  have hzz : vs.length ≤ sizeLine := by rw [sizeLine_eq]; omega
  refine wpAny_bind (listItems_at ho rfl ?_)
  refine wpAny_bind (listUpdate_at ho rfl ?_ (by rw [List.size_toArray]; exact hzz) (Nat.zero_le _))
  obtain ⟨e1, ho1⟩ : ∃ e1, (s.heap.update a (Obj.mapSeq fun _ => #[])).get? a = some (seqObj "list" #[] e1) := ⟨_, get?_update_seq ho (fun _ => #[])⟩
  refine wpAny_bind (seqEpoch_at ho1 rfl ?_)
  refine wpAny_bind (wpAny_newTuple ?_ hzz)
  refine wpAny_bind (wpAny_newList ?_ (Nat.zero_le _))
  refine wpAny_holding ?_
  have ho6 : (((s.heap.update a (Obj.mapSeq fun _ => #[])).push (seqObj "tuple" vs.toArray 0)).push (seqObj "list" #[] 0)).get? a = some (seqObj "list" #[] e1) := by
    rw [Heap.get?_push_ne _ _ _ (by rw [size_push', Heap.size_update]; exact Nat.ne_of_lt (Nat.lt_succ_of_lt ha)), Heap.get?_push_ne _ _ _ (by rw [Heap.size_update]; exact Nat.ne_of_lt ha)]
    exact ho1
  have hold : ∀ b o, b ≠ a → s.heap.get? b = some o → (((s.heap.update a (Obj.mapSeq fun _ => #[])).push (seqObj "tuple" vs.toArray 0)).push (seqObj "list" #[] 0)).get? b = some o := fun b o hb ho' =>
    Heap.get?_push_of_some _ (Heap.get?_push_of_some _ (((Heap.SameBut.update s.heap a (Obj.mapSeq fun _ => #[])).2 b hb).trans ho'))
  show wpAny (model prog w) A _ P E { s with heap := ((s.heap.update a (Obj.mapSeq fun _ => #[])).push (seqObj "tuple" vs.toArray 0)).push (seqObj "list" #[] 0) }
  dsimp only
  by_cases h2 : vs.toArray.size < 2
  · rw [if_pos h2, if_pos h2]
    refine wpAny_bind (wpAny_pure ?_)
    rw [StateT.run_pure]
    refine wpAny_bind (wpAny_pure ?_)
    dsimp only
    have eo : (arrOf (SortSt.mk' general' (vs.toArray.zip vs.toArray) #[] 7 none)).map (·.2) = vs.toArray := by
      apply Array.toList_inj.mp
      rw [Array.toList_map]
      show (vs.toArray.zip vs.toArray).toList.map (·.2) = vs
      rw [zip_dup, List.map_map]
      exact List.map_id vs
    refine wpAny_bind (seqEpoch_at ho6 rfl ?_)
    rw [eo]
    refine wpAny_bind (listUpdate_at ho6 rfl ?_ (Nat.zero_le _) (by rw [List.size_toArray]; omega))
    simp only [bne_self_eq_false, Bool.false_eq_true, if_false]
    refine wpAny_pure (h vs (.refl _) ?_)
    rw [List.size_toArray] at h2
    match vs, h2 with
    | [], _ => exact .nil
    | [_], _ => exact .cons (fun _ h => nomatch h) .nil
  · rw [if_neg h2, if_neg h2]
    rw [List.size_toArray] at h2
    obtain ⟨hk, hl⟩ := hK (by omega) _ hold
    refine wpAny_bind (hk _ ?_)
    refine wpAny_bind (wpAny_mono (wpS_sortAll (st := SortSt.mk' κ (vs.toArray.zip vs.toArray) #[] 7 none) (U := U)
      (Q := fun _ st' => failedOf st' = none ∧ (arrOf st').toList.Perm (vs.map fun v => (v, v)) ∧ Srt lt (arrOf st').toList) hl G rfl rfl rfl ?_ ?_) ?_ fun _ _ e => e)
    · intro x hx
      have hx' : x ∈ vs.map fun v => (v, v) := by rw [← zip_dup]; exact hx
      obtain ⟨v, hv, rfl⟩ := List.mem_map.mp hx'
      exact hU v hv
    · intro st' a1 a2 a3
      refine ⟨a1, ?_, a3⟩
      rw [← zip_dup]; exact a2
    rintro ⟨⟨⟩, st'⟩ s' ⟨rfl, hf, hp, hs⟩
    dsimp only
    have hd : (arrOf st').toList = ((arrOf st').toList.map (·.2)).map fun v => (v, v) := dup_list _ fun x hx => by
      obtain ⟨v, hv, rfl⟩ := List.mem_map.mp (hp.mem_iff.mp hx)
      rfl
    have hm : (arrOf st').map (·.2) = ((arrOf st').toList.map (·.2)).toArray := by
      apply Array.toList_inj.mp
      rw [Array.toList_map]
    rw [hm]
    rw [hd] at hs
    generalize ho' : (arrOf st').toList.map (·.2) = out at *
    have hpo : out.Perm vs := by
      rw [← ho']
      have := hp.map (·.2)
      rw [List.map_map] at this
      refine this.trans (.of_eq ?_)
      exact List.map_id vs
    refine wpAny_bind (seqEpoch_at ho6 rfl ?_)
    refine wpAny_bind (listUpdate_at ho6 rfl ?_ (Nat.zero_le _) (by rw [List.size_toArray, hpo.length_eq]; omega))
    rw [hf]
    simp only [bne_self_eq_false, Bool.false_eq_true, if_false]
    refine wpAny_pure (h out hpo ?_)
    unfold Srt at hs
    rw [List.pairwise_map] at hs
    exact hs
theorem sorted_any {l : Addr} {vs : List Value} {Q : Value → Shared → Prop} (G : Good lt) (hl : s.heap.IsList l vs.toArray) (hz : vs.length ≤ 16384) (hU : ∀ v ∈ vs, U (v, v))
    (hK : 2 ≤ vs.length → ∀ (A' : Around) (E' : Value → Shared → Prop) (h' : Heap), (∀ b o, s.heap.get? b = some o → h'.get? b = some o) → (∀ Q : SortKind → Shared → Prop, Q κ { s with heap := h' } → wpAny (model prog w) A' (keyKind' vs.toArray) Q E' { s with heap := h' }) ∧ LtOk prog w A' E' { s with heap := h' } κ U lt)
    (h : ∀ out : List Value, out.Perm vs → out.Pairwise (fun x y => lt (y, y) (x, x) = false) → Q (.ref (s.heap.objs.size + 1)) { s with heap := sortedAll s.heap vs out.toArray }) :
    wpAny (model prog w) A (call (.builtin "sorted") [.ref l]) Q E s := by
  have hzz : vs.length ≤ sizeLine := by rw [sizeLine_eq]; omega
  refine Calls.call_function_entry kind_sorted plain_sorted entry_sorted (args_sorted1 _) ?_
  unfold Builtin.«sorted»
  refine wpAny_bind (m := checkCount "sorted" 1 1 _) (wpAny_pure ?_)
  refine wpAny_bind (collect_list hl ?_ hzz)
  refine wpAny_bind (wpAny_newList ?_ hzz)
  have hsz : ((s.heap.push (seqObj "list" #[] 0)).update s.heap.objs.size (Obj.mapSeq (· ++ vs.toArray))).objs.size = s.heap.objs.size + 1 := by
    rw [Heap.size_update, size_push']
  have hoL : (((s.heap.push (seqObj "list" #[] 0)).update s.heap.objs.size (Obj.mapSeq (· ++ vs.toArray))).push (seqObj "list" vs.toArray 0)).get? (s.heap.objs.size + 1) = some (seqObj "list" vs.toArray 0) := by
    rw [← hsz]; exact Heap.get?_push_size _ rfl
  show wpAny _ _ _ _ _ { s with heap := ((s.heap.push (seqObj "list" #[] 0)).update s.heap.objs.size (Obj.mapSeq (· ++ vs.toArray))).push (seqObj "list" vs.toArray 0) }
  rw [hsz]
  have hold : ∀ b o, s.heap.get? b = some o → (((s.heap.push (seqObj "list" #[] 0)).update s.heap.objs.size (Obj.mapSeq (· ++ vs.toArray))).push (seqObj "list" vs.toArray 0)).get? b = some o ∧ b ≠ s.heap.objs.size + 1 := fun b o hb => by
    have hlt := Heap.lt_size hb
    refine ⟨Heap.get?_push_of_some _ ?_, Nat.ne_of_lt (Nat.lt_succ_of_lt hlt)⟩
    rw [(Heap.SameBut.update (s.heap.push (seqObj "list" #[] 0)) s.heap.objs.size (Obj.mapSeq (· ++ vs.toArray))).2 b (Nat.ne_of_lt hlt)]
    exact Heap.get?_push_of_some _ hb
  refine wpAny_bind (wpAny_holding (wpAny_call_entry slot_list_sort ⟨_, hoL, rfl⟩ entry_list_sort (list_sort_any (U := U) (κ := κ) (lt := lt) G hoL hz hU (fun h2 h' hh => ?_) fun out a1 a2 => ⟨_, rfl, ?_⟩) (args_list_sort _)))
  · exact hK h2 _ _ h' fun b o hb => hh b o (hold b o hb).2 (hold b o hb).1
  · exact wpAny_pure ⟨_, rfl, h out a1 a2⟩
end
end Mine
namespace Mine
open PySem.Calls
abbrev tup (p : Int × Int) (t u : Tok) : Obj := { cls := .type "tuple", data := .seq [Value.int p.1 t, Value.int p.2 u].toArray }
def llt (p q : Int × Int) : Bool := if p.1 = q.1 then decide (p.2 < q.2) else decide (p.1 < q.1)
theorem llt_false {p q : Int × Int} : llt p q = false ↔ q.1 < p.1 ∨ (p.1 = q.1 ∧ q.2 ≤ p.2) := by
  unfold llt
  split <;> rw [decide_eq_false_iff_not] <;> omega
theorem llt_true {p q : Int × Int} : llt p q = true ↔ p.1 < q.1 ∨ (p.1 = q.1 ∧ p.2 < q.2) := by
  unfold llt
  split <;> rw [decide_eq_true_iff] <;> omega
theorem llt_good : Good llt where
  asymm a b h := by rw [llt_true] at h; rw [llt_false]; omega
  ntrans a b c h k := by rw [llt_false] at *; omega
theorem Good.comap {α β : Type} {lt : β → β → Bool} (G : Good lt) (f : α → β) : Good fun a b => lt (f a) (f b) where
  asymm _ _ h := G.asymm _ _ h
  ntrans _ _ _ h k := G.ntrans _ _ _ h k
def TupAt (news : List (Addr × Obj)) (v : Value) (p : Int × Int) : Prop := ∃ a t u, v = .ref a ∧ (a, tup p t u) ∈ news
theorem rc_lt {prog : Program} {w : World} {A : Around} {E : Value → Shared → Prop} {s : Shared} {a b : Int} {t u : Tok} {Q : Value → Shared → Prop} (h : Q (.bool (decide (a < b))) s) : wpAny (model prog w) A (richCompare .Lt (.int a t) (.int b u)) Q E s := lt_int h
set_option maxHeartbeats 4000000 in
theorem tuple_lt2 (l b : Addr) (p q : Int × Int) (t u t' u' : Tok) :
    Meets (Builtin.«tuple.__lt__» ⟨[.ref l, .ref b], []⟩)
      (fun A R s => s.heap.get? l = some (tup p t u) ∧ s.heap.get? b = some (tup q t' u') ∧ R (.ok (.ret (.bool (llt p q)))) s) :=
  .of_wp fun prog w A R s h => by
    obtain ⟨hp, g, d, tk, os⟩ := s; obtain ⟨hl, hb, h⟩ := h
    have f2 := AutoSeq1.sub_tuple_tuple
    by_cases e1 : p.1 = q.1
    · by_cases e2 : p.2 = q.2
      · have b1 : (p.1 == q.1) = true := by simpa using e1
        have b2 : (p.2 == q.2) = true := by simpa using e2
        have hv : llt p q = false := llt_false.mpr (by omega)
        rw [hv] at h
        wp_walk using wpAny_loadPart' hl, wpAny_loadPart' hb, wpAny_eqBool_int, rc_lt
        exact ⟨_, rfl, h⟩
      · have b1 : (p.1 == q.1) = true := by simpa using e1
        have b2 : (p.2 == q.2) = false := by simpa using e2
        have hv : llt p q = decide (p.2 < q.2) := if_pos e1
        rw [hv] at h
        wp_walk using wpAny_loadPart' hl, wpAny_loadPart' hb, wpAny_eqBool_int, rc_lt
        exact ⟨_, rfl, h⟩
    · have hv : llt p q = decide (p.1 < q.1) := if_neg e1
      rw [hv] at h
      have b1 : (p.1 == q.1) = false := by simpa using e1
      wp_walk using wpAny_loadPart' hl, wpAny_loadPart' hb, wpAny_eqBool_int, rc_lt
      exact ⟨_, rfl, h⟩
end Mine
namespace Mine
open PySem.Calls
section
variable {prog : Program} {w : World} {A : Around} {E : Value → Shared → Prop} {s : Shared} {h : Heap} {tk : Nat} {L l : Addr} {h₀ : Heap} {m : Str → Option Value} {Q : Value → Shared → Prop} {vs : List Value} {news : List (Addr × Obj)} {n : Nat}
theorem cmp_tup {a b : Addr} {p q : Int × Int} {t u t' u' : Tok} (ha : s.heap.get? a = some (tup p t u)) (hb : s.heap.get? b = some (tup q t' u')) (hu : A.units < cLine) (hq : Q (.bool (llt p q)) s) : wpAny (model prog w) A (compareOp .Lt (.ref a) (.ref b)) Q E s :=
  richCompare_meets_room (op := .Lt) ⟨_, ha, rfl⟩ ⟨_, hb, rfl⟩ F.slot_tuple_lt F.entry_tuple_lt (F.args_tuple_lt_2 _ _) (tuple_lt2 a b p q t u t' u') ⟨ha, hb, nofun, hq⟩ hu
/-- the key of a reference, told by a map -/
def kv (f : Addr → Int × Int) : Value → Int × Int
  | .ref a => f a
  | _ => (0, 0)
def tlt (f : Addr → Int × Int) (x y : Value) : Bool := llt (kv f x) (kv f y)
theorem tlt_good (f : Addr → Int × Int) : Good (tlt f) := llt_good.comap (kv f)
def TU (news : List (Addr × Obj)) (f : Addr → Int × Int) (v : Value) : Prop := TupAt news v (kv f v)
theorem tcmp (prog : Program) (w : World) {u : Nat} {rest : List (Addr × Obj)} {f : Addr → Int × Int} (hu : u < cLine) : CmpOk prog w u rest (TU rest f) (tlt f) := by
  rintro x y ⟨a, t, u, rfl, ha⟩ ⟨b, t', u', rfl, hb⟩ A s h tk Q E hA hh hq
  exact cmp_tup (s := St s h tk) (hh _ ha) (hh _ hb) (by omega) hq
def iltK (x y : Keyed) : Bool := decide (numOf x.1 < numOf y.1)
theorem ilt_goodK : Good iltK where
  asymm a b h := by unfold iltK at *; rw [decide_eq_true_iff] at h; rw [decide_eq_false_iff_not]; omega
  ntrans a b c h k := by unfold iltK at *; rw [decide_eq_false_iff_not] at *; omega
theorem ltok_int : LtOk prog w A E s oneType' (fun x : Keyed => ∃ i t, x.1 = Value.int i t) iltK := by
  rintro ⟨x, x2⟩ ⟨y, y2⟩ st Q ⟨i, t, rfl⟩ ⟨j, u, rfl⟩ hk hq
  rw [lt'_eq]
  refine wpS_bind (wpS_get ?_)
  rw [hk, keyLt'_oneType]
  refine wpS_bind (wpS_lift (wpAny_attempt (oneLt_int ⟨rfl, ?_⟩)))
  exact wpS_pure hq
def tltK (f : Addr → Int × Int) (x y : Keyed) : Bool := tlt f x.1 y.1
theorem tlt_goodK (f : Addr → Int × Int) : Good (tltK f) := (tlt_good f).comap (fun x : Keyed => x.1)
theorem ltok_tup {f : Addr → Int × Int} (hN : ∀ p ∈ news, s.heap.get? p.1 = some p.2) : LtOk prog w A E s (tuples' true) (fun x : Keyed => TU news f x.1) (tltK f) := by
  rintro ⟨x, x2⟩ ⟨y, y2⟩ st Q ⟨a, t, u, hx, ha⟩ ⟨b, t', u', hy, hb⟩ hk hq
  dsimp only at hx hy ha hb
  subst hx hy
  rw [lt'_eq]
  refine wpS_bind (wpS_get ?_)
  rw [hk]
  refine wpS_bind (wpS_lift (wpAny_attempt (kat_lt (hN _ ha) rfl (hN _ hb) rfl ?_)))
  have hq' : Q (some (llt (kv f (.ref a)) (kv f (.ref b)))) st := hq
  refine kat_cons (wpAny_eqBool_int (kat_go (fun e1 => kat_yes (kat_cons (wpAny_eqBool_int (kat_go (fun e2 => kat_yes (kat_nil ⟨rfl, ?_⟩)) fun e2 => kat_no (kat_one _ _ (lt_int (s := s) ?_)))))) fun e1 => kat_no (oneLt_int ⟨rfl, ?_⟩)))
  · rw [llt_false.mpr (by have := eq_of_beq e1; have := eq_of_beq e2; omega)] at hq'
    exact wpS_pure hq'
  · refine ⟨rfl, wpS_pure ?_⟩
    unfold llt at hq'
    rw [if_pos (eq_of_beq e1)] at hq'
    exact hq'
  · refine wpS_pure ?_
    unfold llt at hq'
    rw [if_neg (by simpa using e1)] at hq'
    exact hq'
def fst0 (f : Addr → Int × Int) (v : Value) : Value := .int (kv f v).1 0
theorem kat_tups {f : Addr → Int × Int} {hp : Heap} (hN : ∀ p ∈ news, hp.get? p.1 = some p.2) : ∀ (vs : List Value), (∀ v ∈ vs, TU news f v) → ∃ fs : List Value, fs.length = vs.length ∧ KatTups hp vs fs ∧ ∀ v ∈ fs, ∃ i t, v = .int i t
  | [], _ => ⟨[], rfl, .nil, fun _ h => nomatch h⟩
  | v :: vs, hv => by
    obtain ⟨a, t, u, rfl, ha⟩ := hv v (.head _)
    obtain ⟨fs, h1, h2, h3⟩ := kat_tups hN vs fun x hx => hv x (.tail _ hx)
    refine ⟨.int (kv f (.ref a)).1 t :: fs, by simp [h1], .cons (hN _ ha) rfl rfl rfl h2, ?_⟩
    intro y hy
    rcases List.mem_cons.mp hy with rfl | hy
    · exact ⟨_, _, rfl⟩
    · exact h3 y hy
theorem qsortI {oa : Obj} {ns : List Int} (F : Fr h₀ L h m) (N : News h₀ L h news) (hm : (l, oa) ∈ news) (ea : oa = W.listOf vs.toArray n) (hI : IntsAre vs ns) (hz : vs.length ≤ 16384)
    (hq : ∀ D h' vs' ns' e, Fr h₀ L h' m → News h₀ L h' ((D, W.listOf (List.toArray vs') e) :: news) → (∀ p ∈ news, p.1 < D) → IntsAre vs' ns' → ns'.Perm ns → ns'.Pairwise (· ≤ ·) → Q (.ref D) (St s h' tk)) :
    wpAny (model prog w) A (call (.builtin "sorted") [.ref l]) Q E (St s h tk) := by
  subst ea
  have hall : ∀ v ∈ vs, ∃ i t, v = Value.int i t := hI.all
  refine sorted_any (s := St s h tk) (vs := vs) (κ := oneType') (U := fun x : Keyed => ∃ i t, x.1 = Value.int i t) (lt := iltK) ilt_goodK (PySem.IsL.isList (n := n) (N _ hm).1) hz (fun v hv => hall v hv) (fun h2 A' E' h' _ => ⟨fun Q hq => ?_, ltok_int⟩) fun out hp hs => ?_
  · match vs, hI, h2 with
    | v1 :: v2 :: vs, hI, _ => rw [keyKind_ints hI]; exact wpAny_pure hq
  · obtain ⟨e, he⟩ := sortedAll_at h vs out.toArray
    refine hq _ _ out (out.map numOf) e (F.kept fun _ _ => sortedAll_old) (N.kept_cons F (fun _ _ => sortedAll_old) (Nat.le_succ _) he) (fun p hp => Nat.lt_succ_of_lt (Heap.lt_size (N p hp).1)) (intsAre_map _ fun v hv => hall v (hp.mem_iff.mp hv)) ?_ ?_
    · rw [← hI.nums]; exact hp.map _
    · rw [List.pairwise_map]
      refine hs.imp ?_
      intro a b hab
      unfold iltK at hab
      rw [decide_eq_false_iff_not] at hab
      dsimp only at hab
      omega
theorem qsortT {oa : Obj} {f : Addr → Int × Int} (F : Fr h₀ L h m) (N : News h₀ L h news) (hm : (l, oa) ∈ news) (ea : oa = W.listOf vs.toArray n) (hT : ∀ v ∈ vs, TU news f v) (hz : vs.length ≤ 16384)
    (hq : ∀ D h' vs' e, Fr h₀ L h' m → News h₀ L h' ((D, W.listOf (List.toArray vs') e) :: news) → (∀ p ∈ news, p.1 < D) → vs'.Perm vs → vs'.Pairwise (fun x y => tlt f y x = false) → Q (.ref D) (St s h' tk)) :
    wpAny (model prog w) A (call (.builtin "sorted") [.ref l]) Q E (St s h tk) := by
  subst ea
  refine sorted_any (s := St s h tk) (vs := vs) (κ := tuples' true) (U := fun x : Keyed => TU news f x.1) (lt := tltK f) (tlt_goodK f) (PySem.IsL.isList (n := n) (N _ hm).1) hz (fun v hv => hT v hv) (fun h2 A' E' h' hh => ⟨fun Q hq => ?_, ltok_tup fun p hp => hh _ _ (N p hp).1⟩) fun out hp hs => ?_
  · obtain ⟨fs, g1, g2, g3⟩ := kat_tups (hp := h') (fun p hp => hh _ _ (N p hp).1) vs hT
    refine kat_kind (T := .type "int") g2 (by omega) (fun v hv => ?_) rfl hq
    obtain ⟨i, t, rfl⟩ := g3 v hv
    exact Looks.of_pure rfl
  · obtain ⟨e, he⟩ := sortedAll_at h vs out.toArray
    exact hq _ _ out e (F.kept fun _ _ => sortedAll_old) (N.kept_cons F (fun _ _ => sortedAll_old) (Nat.le_succ _) he) (fun p hp => Nat.lt_succ_of_lt (Heap.lt_size (N p hp).1)) hp hs
theorem dats {f : Addr → Int × Int} : ∀ {vs : List Value}, (∀ v ∈ vs, TU news f v) → DatAll news vs ((vs.map (kv f)).map fun p => Dat.tuple [.int p.1, .int p.2])
  | [], _ => .nil
  | v :: vs, hv => by
    obtain ⟨a, t, u, rfl, ha⟩ := hv v (.head _)
    exact .cons (.tuple ha (.cons (.int _ _) (.cons (.int _ _) .nil))) (dats fun x hx => hv x (.tail _ hx))
theorem qeqT {a b : Addr} {oa ob : Obj} {us : List Value} {k : Nat} {f : Addr → Int × Int} (N : News h₀ L h news) (ma : (a, oa) ∈ news) (ea : oa = W.listOf vs.toArray n) (mb : (b, ob) ∈ news) (eb : ob = W.listOf us.toArray k)
    (hT : ∀ v ∈ vs, TU news f v) (hT2 : ∀ v ∈ us, TU news f v) (he : vs.map (kv f) = us.map (kv f)) (hu : A.units + 64 < cLine) (hq : Q (.bool true) (St s h tk)) : wpAny (model prog w) A (compareOp .Eq (.ref a) (.ref b)) Q E (St s h tk) := by
  subst ea eb
  refine kqd_eq (s := St s h tk) N ma rfl rfl (dats hT) (fun _ h => h) mb rfl rfl (dats hT2) (fun _ h => h) ?_ ?_ hu ?_
  · intro d hd
    obtain ⟨p, _, rfl⟩ := List.mem_map.mp hd
    rfl
  · intro d hd
    obtain ⟨p, _, rfl⟩ := List.mem_map.mp hd
    rfl
  · rw [he]
    simpa using hq
theorem qneT {a : Addr} {p : Int × Int} {t u : Tok} (N : News h₀ L h news) (ma : (a, tup p t u) ∈ news) (hu : A.units < cLine) (hq : Q (.bool false) (St s h tk)) : wpAny (model prog w) A (compareOp .NotEq (.ref a) (.ref a)) Q E (St s h tk) := by
  have ht : (St s h tk).heap.IsTuple a #[Value.int p.1 t, Value.int p.2 u] := ⟨_, (N _ ma).1, rfl, 0, rfl⟩
  refine PySem.SeqAt.RcNeAt.tuples (s := St s h tk) (e := fun _ => true) ht ht hu (fun j h1 h2 => ?_) prog w E Q hq
  match j, h1 with
  | 0, _ => exact fun prog w E Q hq => wpAny_eqBool_int (by simpa using hq)
  | 1, _ => exact fun prog w E Q hq => wpAny_eqBool_int (by simpa using hq)
end
end Mine
namespace Mine
open PySem.Calls
def left (p : Int) : Nat → Int
  | 0 => p
  | k + 1 => left p k - (left p k).fdiv 2
section
variable {prog : Program} {w : World} {A : Around} {E : Value → Shared → Prop} {s : Shared} {h : Heap} {tk : Nat} {L l : Addr} {h₀ : Heap} {m : Str → Option Value} {env : Env} {Q : Value → Shared → Prop} {vs : List Value} {news : List (Addr × Obj)} {n : Nat}
theorem qisub {a b : Int} {t u : Tok} (hq : ∀ t tk', Q (.int (a - b) t) (St s h tk')) : wpAny (model prog w) A (inplaceOp .Sub (.int a t) (.int b u)) Q E (St s h tk) := PyProof.Rows.isub_int (hq _ _)
set_option maxHeartbeats 1000000 in
theorem ll_call {p : Int} {k : Nat} {t1 t2 : Tok} (C : Cx (KK w) A env L h₀) (F : Fr h₀ L h m) (N : News h₀ L h news) (hroom : A.depth < recursionLimit) (hk : k < 2 ^ 20)
    (hq : ∀ h' tk' t, Fr h₀ L h' m → News h₀ L h' news → Q (.int (left p k) t) (St s h' tk')) :
    wpAny (model prog w) A (call (.ref 49) [.int p t1, .int k t2]) Q E (St s h tk) := by
  refine enter (binds := [("pile", .int p t1), ("times", .int k t2)]) C F N rfl rfl hroom (BindsTo.of_eq rfl) (locs rfl) ?_ rfl rfl rfl (by decide)
  intro g L' h₁ tk1 m' C' F' N' hm
  have x1 : m' "pile" = some (.int p t1) := (hm _).trans rfl
  have x2 : m' "times" = some (.int k t2) := (hm _).trans rfl
  clear hm
  refine wpAny_execs_cons (wpAny_For (Call_ (C'.blt F' rfl boot_range (by decide) (callWith_type1 (args_cons (qld F' x2 (args_nil (qrange F' N' ?_))))))))
  intro r h5 tk5 t u v F5 N5 hr5
  refine qiter_rng (b := k) F5 N5 (.head _) hk ?_
  intro I h6 F6 N6 hI
  refine qfor_range k 0 1 (fun i m₁ nw => (∃ t, m₁ "pile" = some (.int (left p i) t)) ∧ nw = news) C'.hh F6 (news := news) (news_sub N6 (by simp only [List.mem_cons]; grind)) ?_ ⟨⟨t1, x1⟩, rfl⟩ ?_ ?_
  · intro q hq'
    exact Nat.ne_of_lt (hI q (.tail _ hq'))
  · rintro i ti h7 tk7 m7 m8 nw o₁ hi ⟨⟨tp, z1⟩, rfl⟩ ho₁ hnI F8 N8 y1 y2
    refine wpAny_execs_cons (wpAny_AugAssign_Name (wpAny_loadName_local (s := St s h7 tk7) rfl rfl F8.ns ((y2 _ rfl).trans z1) ?_))
    refine wpAny_BinOp (qld F8 ((y2 _ rfl).trans z1) (qint fun _ _ => (qfdiv (by decide) (noPy2 _) fun _ _ => ?_)))
    refine qisub fun tn _ => (qst F8 N8 ?_)
    intro h9 m9 tk9 F9 N9 a1 a2
    exact wpAny_execs_nil ⟨h9, tk9, m9, nw, o₁, rfl, ho₁, F9, N9, hnI, ⟨tn, a1⟩, rfl⟩
  · rintro h7 tk7 m7 nw ⟨⟨tp, z1⟩, rfl⟩ F8 N8
    refine wpAny_execs_cons (wpAny_Return_some (qld F8 z1 ?_))
    exact ⟨_, _, _, _, nw, rfl, F8, N8, fun Fh Nh => hq _ _ _ Fh Nh⟩
end
end Mine
namespace Mine
open PySem.Calls
section
variable {prog : Program} {w : World} {A : Around} {E : Value → Shared → Prop} {s : Shared} {h : Heap} {tk : Nat} {K : Frag} {L l : Addr} {h₀ : Heap} {m : Str → Option Value} {news rest : List (Addr × Obj)} {env : Env} {Q : Value → Shared → Prop} {vs : List Value} {n : Nat} {o : Obj} {ns : List Int} {x : Value}
theorem qgm {name : Str} {id : String} {pl : Sem Bool} {Q : Value × List Value → Shared → Prop} (N : News h₀ L h news) (hm : (l, o) ∈ news) (ho : o = W.listOf vs.toArray n) (slot : Slot "list" name id) (hty : typeOf (.builtin id) = pure (.type "method_descriptor"))
    (hq : Q (.builtin id, [.ref l]) (St s h tk)) : wpAny (model prog w) A (getMethod (.ref l) name pl) Q E (St s h tk) := by
  subst ho
  exact listMethod_K (s := St s h tk) N hm slot hty hq
theorem qappend (F : Fr h₀ L h m) (N : News h₀ L h ((l, W.listOf vs.toArray n) :: rest)) (hr : ∀ p ∈ rest, p.1 ≠ l) (hz : vs.length ≤ 16384)
    (hq : ∀ h', Fr h₀ L h' m → News h₀ L h' ((l, W.listOf (vs ++ [x]).toArray (n + 1)) :: rest) → Q .none (St s h' tk)) :
    wpAny (model prog w) A (call (.builtin "list.append") [.ref l, x]) Q E (St s h tk) := by
  refine append_K (s := St s h tk) F N (.head hr) (fun h' F' N' => hq h' F' ?_) (by rw [List.size_toArray, sizeLine_eq]; omega)
  have e : vs.toArray.push x = (vs ++ [x]).toArray := by simp
  rw [← e]
  exact N'
theorem qcount {k : Int} {t : Tok} (N : News h₀ L h news) (hm : (l, o) ∈ news) (ho : o = W.listOf vs.toArray n) (hi : IntsAre vs ns) (hq : ∀ t tk', Q (.int (ns.count k : Nat) t) (St s h tk')) :
    wpAny (model prog w) A (call (.builtin "list.count") [.ref l, .int k t]) Q E (St s h tk) := by
  subst ho
  exact count_list_ints (s := St s h tk) (PySem.IsL.isList (n := n) (N _ hm).1) hi (hq _ _)
theorem qsum (hh : A.handled = none) (F : Fr h₀ L h m) (N : News h₀ L h news) (hm : (l, o) ∈ news) (ho : o = W.listOf vs.toArray n) (hi : IntsAre vs ns) (hq : ∀ h' tk' t, Fr h₀ L h' m → News h₀ L h' news → Q (.int ns.sum t) (St s h' tk')) :
    wpAny (model prog w) A (call (.builtin "sum") [.ref l]) Q E (St s h tk) := by
  subst ho
  exact LSm.sum_ints (s := St s h tk) F N hh (PySem.IsL.isList (n := n) (N _ hm).1) hi hq
theorem qslRev {value e : PySem.Expr} {p : Pos} (F : Fr h₀ L h m) (N : News h₀ L h news) (hm : (l, o) ∈ news) (ho : o = W.listOf vs.toArray n) (hi : IntsAre vs ns) (hz : vs.length ≤ 16384)
    (he : ∀ Q' : Value → Shared → Prop, (∀ t tk', Q' (.int (-1) t) (St s h tk')) → wpAny (model prog w) A (eval e env) Q' E (St s h tk))
    (hq : ∀ D ws h' tk', Fr h₀ L h' m → News h₀ L h' ((D, W.listOf (List.toArray ws) 0) :: news) → (∀ p ∈ news, p.1 < D) → IntsAre ws ns.reverse → Q (.ref D) (St s h' tk')) :
    wpAny (model prog w) A (eval (.Slice none none (some e) p) env) (fun i s₂ => wpAny (model prog w) A (subscriptTail value (.Slice none none (some e) p) (.ref l) i) Q E s₂) E (St s h tk) := by
  subst ho
  refine wpAny_Slice (wpAny_pure (wpAny_pure ?_))
  refine he _ fun t tk' => ?_
  refine kba_turn (value' := PySem.Expr.Name (PySem.Str.ofString "_") ⟨0, 0, 0, 0⟩) (fun _ => rfl) ?_
  exact krv_ints (s := St s h tk') F N (PySem.IsL.isList (n := n) (N _ hm).1) (.int _ _) hi (fun D ws h' F' N' l1 hI _ => hq D ws h' tk' F' N' l1 hI) (by with_unfolding_all rfl) (fun _ => rfl) (by rw [List.size_toArray, sizeLine_eq]; omega)
theorem qslUp {value e : PySem.Expr} {p : Pos} {y : Nat} (F : Fr h₀ L h m) (N : News h₀ L h news) (hm : (l, o) ∈ news) (ho : o = W.listOf vs.toArray n) (hi : IntsAre vs ns) (hz : vs.length ≤ 16384)
    (he : ∀ Q' : Value → Shared → Prop, (∀ t tk', Q' (.int y t) (St s h tk')) → wpAny (model prog w) A (eval e env) Q' E (St s h tk))
    (hq : ∀ D ws h' tk', Fr h₀ L h' m → News h₀ L h' ((D, W.listOf (List.toArray ws) 0) :: news) → (∀ p ∈ news, p.1 < D) → IntsAre ws (ns.take y) → Q (.ref D) (St s h' tk')) :
    wpAny (model prog w) A (eval (.Slice none (some e) none p) env) (fun i s₂ => wpAny (model prog w) A (subscriptTail value (.Slice none (some e) none p) (.ref l) i) Q E s₂) E (St s h tk) := by
  subst ho
  refine wpAny_Slice (wpAny_pure ?_)
  refine he _ fun t tk' => ?_
  refine wpAny_pure ?_
  refine kba_turn (value' := PySem.Expr.Name (PySem.Str.ofString "_") ⟨0, 0, 0, 0⟩) (fun _ => rfl) ?_
  have hm' := slice_ints_uptoW hi (y := (y : Int)) (by omega)
  rw [Int.toNat_natCast] at hm'
  exact kmk_slice_ints (s := St s h tk') (c := (ns.take y).length) F N (PySem.IsL.isList (n := n) (N _ hm).1) .none (.int _ _) hi hm' rfl (fun D ws h' F' N' l1 hI _ _ => hq D ws h' tk' F' N' l1 hI) (by with_unfolding_all rfl) (fun _ => rfl) (by rw [List.size_toArray, sizeLine_eq]; omega)
end
end Mine
namespace Mine
open PySem.Calls
def halvesOf (ns : List Int) (times : Nat) : List Int := ns.flatMap fun p => (List.range times).map fun j => (left p j).fdiv 2
theorem halvesOf_snoc (ns : List Int) (p : Int) (times : Nat) : halvesOf (ns ++ [p]) times = halvesOf ns times ++ (List.range times).map fun j => (left p j).fdiv 2 := by
  unfold halvesOf
  rw [List.flatMap_append]
  simp
theorem halvesOf_len (ns : List Int) (times : Nat) : (halvesOf ns times).length = ns.length * times := by
  induction ns with
  | nil => simp [halvesOf]
  | cons p ns ih =>
    have : halvesOf (p :: ns) times = ((List.range times).map fun j => (left p j).fdiv 2) ++ halvesOf ns times := rfl
    rw [this, List.length_append, ih]
    simp only [List.length_map, List.length_range, List.length_cons]
    rw [Nat.add_mul, Nat.one_mul, Nat.add_comm]
section
variable {prog : Program} {w : World} {A : Around} {E : Value → Shared → Prop} {s : Shared} {h : Heap} {tk : Nat} {L l : Addr} {h₀ : Heap} {m : Str → Option Value} {env : Env} {Q : Value → Shared → Prop} {vs : List Value} {news : List (Addr × Obj)} {n : Nat}
set_option maxHeartbeats 2000000 in
theorem ls_call {times : Nat} {tt : Tok} {ns : List Int} (C : Cx (KK w) A env L h₀) (F : Fr h₀ L h m) (N : News h₀ L h news) (hm : (l, W.listOf vs.toArray n) ∈ news) (hroom : A.depth + 10 < recursionLimit)
    (hU : IntsAre vs ns) (hsz : ns.length ≤ 100) (ht : times ≤ 100)
    (hq : ∀ h' tk' t (srt : List Int), Fr h₀ L h' m → News h₀ L h' news → srt.Perm (halvesOf ns times) → srt.Pairwise (· ≤ ·) → Q (.int (ns.sum - (srt.reverse.take times).sum) t) (St s h' tk')) :
    wpAny (model prog w) A (call (.ref 61) [.ref l, .int times tt]) Q E (St s h tk) := by
  have hul := hU.length
  refine enter (binds := [("piles", .ref l), ("times", .int times tt)]) C F N rfl rfl (by omega) (BindsTo.of_eq rfl) (locs rfl) ?_ rfl rfl rfl (by decide)
  intro g L' h₁ tk1 m' C' F' N' hm'
  have x1 : m' "piles" = some (.ref l) := (hm' _).trans rfl
  have x2 : m' "times" = some (.int times tt) := (hm' _).trans rfl
  clear hm'
  refine wpAny_execs_cons (wpAny_Assign_Name (List_ (args_nil (qlist F' N' (by simp) ?_))))
  intro H h2 F2 N2 hH
  refine qst F2 N2 ?_
  intro h3 m3 tk3 F3 N3 e1 e2
  refine wpAny_execs_cons (wpAny_For (qld F3 ((e2 _ rfl).trans x1) ?_))
  refine qfor_list (n := n) (vs := vs) (fun i m₁ nw => m₁ "piles" = some (.ref l) ∧ m₁ "times" = some (.int times tt) ∧ m₁ "halves" = some (.ref H) ∧ ∃ vsH nH, nw = (H, W.listOf (List.toArray vsH) nH) :: news ∧ IntsAre vsH (halvesOf (ns.take i) times)) C'.hh F3 N3 ?_ ?_ ?_ ?_
  · exact ⟨(e2 _ rfl).trans x1, (e2 _ rfl).trans x2, e1, [], 0, rfl, .nil⟩
  · rintro i m₁ nw ⟨_, _, _, vsH, nH, rfl, _⟩
    exact .tail _ hm
  · rintro i v I h4 tk4 m4 nw oI hv ⟨z1, z2, z3, vsH, nH, rfl, hI⟩ hlit hnI F4 N4
    obtain ⟨tv, rfl, hil⟩ := ints_item hU hv
    generalize hp : ns.getD i 0 = p
    refine qst F4 N4 ?_
    intro h5 m5 tk5 F5 N5 a1 a2
    have w1 := (a2 _ rfl).trans z1
    have w2 := (a2 _ rfl).trans z2
    have w3 := (a2 _ rfl).trans z3
    refine wpAny_execs_cons (wpAny_For (Call_ (C'.blt F5 rfl boot_range (by decide) (callWith_type1 (args_cons (qld F5 w2 (args_nil (qrange F5 N5 ?_))))))))
    intro r h6 tk6 t u v F6 N6 hr6
    refine qiter_rng (b := times) F6 N6 (.head _) (by omega) ?_
    intro J h7 F7 N7 hJ
    have hHI : @Ne Nat H I := hnI _ (.head _)
    have hHJ : @LT.lt Nat _ H J := hJ (H, _) (.tail _ (.tail _ (.head _)))
    have hIJ : @LT.lt Nat _ I J := hJ (I, _) (.tail _ (.head _))
    refine qfor_range times 0 1 (fun j m₁ nw => m₁ "piles" = some (.ref l) ∧ m₁ "times" = some (.int times tt) ∧ m₁ "halves" = some (.ref H) ∧ m₁ "pile" = some (.int p tv) ∧ ∃ vsH nH, nw = (H, W.listOf (List.toArray vsH) nH) :: (I, oI) :: news ∧ IntsAre vsH (halvesOf (ns.take i) times ++ (List.range j).map fun j => (left p j).fdiv 2)) C'.hh F7
      (news := (H, W.listOf (List.toArray vsH) nH) :: (I, oI) :: news) (news_sub N7 (by simp only [List.mem_cons]; grind)) ?_ ?_ ?_ ?_
    · intro q hq'
      exact Nat.ne_of_lt (hJ q (by simp only [List.mem_cons] at hq' ⊢; grind))
    · exact ⟨w1, w2, w3, a1, vsH, nH, rfl, by simpa using hI⟩
    · rintro j tj h8 tk8 m8 m9 nw oJ hj ⟨b1, b2, b3, b4, vsH, nH, rfl, hIH⟩ hoJ hnJ F8 N8 y1 y2
      have hHl := hIH.length
      rw [List.length_append, halvesOf_len, List.length_map, List.length_range, List.length_take] at hHl
      have hmul : min i ns.length * times ≤ 100 * 100 := Nat.mul_le_mul (by omega) ht
      refine wpAny_execs_cons (wpAny_Expr (MethodCall_ (qld F8 ((y2 _ rfl).trans b3) (qgm (vs := vsH) (n := nH) N8 (.tail _ (.head _)) rfl PySem.F.slot_list_append PySem.F.type_list_append (callWith_method1 (args_cons (wpAny_BinOp (Call_ (C'.glob F8 rfl (callWith_K C'.X rfl (args_cons (qld F8 ((y2 _ rfl).trans b4) (args_cons (qld F8 y1 (args_nil ⟨C'.X.keeps F8.keep, ?_⟩)))))))))))))))
      rw [show (0 : Int) + (j : Int) * 1 = (j : Int) by omega]
      refine ll_call C' F8 N8 (by show A.depth + 1 < _; omega) (by omega) ?_
      intro h9 tk9 t9 F9 N9
      refine qint fun _ _ => (qfdiv (by decide) (noPy2 _) fun tf _ => (args_nil ?_))
      have N9' : News g L' h9 ((H, W.listOf vsH.toArray nH) :: (J, oJ) :: (I, oI) :: news) := news_sub N9 (by simp only [List.mem_cons]; grind)
      refine qappend F9 N9' ?_ (by omega) ?_
      · intro q hq'
        simp only [List.mem_cons] at hq'
        rcases hq' with rfl | rfl | hq'
        · exact Nat.ne_of_gt hHJ
        · exact hHI.symm
        · exact Nat.ne_of_lt (hH q hq')
      · intro h10 F10 N10
        refine wpAny_execs_nil ⟨h10, _, m9, (H, W.listOf (vsH ++ [Value.int ((left p j).fdiv 2) tf]).toArray (nH + 1)) :: (I, oI) :: news, oJ, rfl, hoJ, F10, news_sub N10 (by simp only [List.mem_cons]; grind), ?_, (y2 _ rfl).trans b1, (y2 _ rfl).trans b2, (y2 _ rfl).trans b3, (y2 _ rfl).trans b4, _, _, rfl, ?_⟩
        · intro q hq'
          simp only [List.mem_cons] at hq'
          rcases hq' with rfl | rfl | hq'
          · exact Nat.ne_of_lt hHJ
          · exact Nat.ne_of_lt hIJ
          · exact hnJ q (.tail _ (.tail _ hq'))
        · rw [List.range_succ, List.map_append, ← List.append_assoc]
          exact ints_snoc hIH _ _
    · rintro h8 tk8 m8 nw ⟨b1, b2, b3, b4, vsH, nH, rfl, hIH⟩ F8 N8
      refine wpAny_execs_nil ⟨h8, tk8, m8, (H, W.listOf vsH.toArray nH) :: news, oI, rfl, hlit, F8, news_sub N8 (by simp only [List.mem_cons]; grind), ?_, b1, b2, b3, vsH, nH, rfl, ?_⟩
      · intro q hq'
        simp only [List.mem_cons] at hq'
        rcases hq' with rfl | hq'
        · exact hHI
        · exact hnI q (.tail _ hq')
      · rw [take_snoc _ hil, hp, halvesOf_snoc]
        exact hIH
  · rintro h4 tk4 m4 nw ⟨z1, z2, z3, vsH, nH, rfl, hI⟩ F4 N4
    rw [hul, List.take_length] at hI
    have hHl := hI.length
    rw [halvesOf_len] at hHl
    have hmul : ns.length * times ≤ 100 * 100 := Nat.mul_le_mul hsz ht
    refine wpAny_execs_cons (wpAny_Return_some (wpAny_BinOp (Call_ (C'.blt F4 rfl boot_sum (by decide) (PyProof.Rows.callWith_builtin1 (args_cons (qld F4 z1 (args_nil (qsum (vs := vs) (n := n) (ns := ns) C'.hh F4 N4 (.tail _ hm) rfl hU ?_)))))))))
    intro h5 tk5 t5 F5 N5
    refine Call_ (C'.blt F5 rfl boot_sum (by decide) (PyProof.Rows.callWith_builtin1 (args_cons (Subscript_ (Subscript_ (Call_ (C'.blt F5 rfl boot_sorted (by decide) (PyProof.Rows.callWith_builtin1 (args_cons (qld F5 z3 (args_nil (qsortI (vs := vsH) (n := nH) F5 N5 (.head _) rfl hI (by omega) ?_))))))))))))
    intro D h6 vs6 srt e6 F6 N6 hD6 hI6 hp6 hs6
    have hl6 := hI6.length
    have hl7 := hp6.length_eq
    rw [halvesOf_len] at hl7
    refine qslRev (vs := vs6) (n := e6) F6 N6 (.head _) rfl hI6 (by omega) (fun Q' hQ' => wpAny_UnaryOp (qint fun _ _ => (qneg fun _ _ => hQ' _ _))) ?_
    intro D2 ws h7 tk7 F7 N7 hD7 hI7
    have hl8 := hI7.length
    rw [List.length_reverse] at hl8
    refine qslUp (vs := ws) (n := 0) (y := times) F7 N7 (.head _) rfl hI7 (by omega) (fun Q' hQ' => qld F7 z2 (hQ' _ _)) ?_
    intro D3 ws3 h8 tk8 F8 N8 hD8 hI8
    refine args_nil (qsum (vs := ws3) (n := 0) C'.hh F8 N8 (.head _) rfl hI8 ?_)
    intro h9 tk9 t9 F9 N9
    refine qsub fun t10 tk10 => ?_
    exact ⟨_, _, _, _, news, rfl, F9, news_sub N9 (by simp only [List.mem_cons]; grind), fun Fh Nh => hq _ _ _ _ Fh Nh hp6 hs6⟩
end
end Mine
namespace Mine
def dueF (ns : List Int) (tops : List Int) : List (Int × Int) := (List.range ns.length).map fun k => (-(left (ns.getD k 0) (tops.count (k : Int))), (k : Int))
inductive Greedy (ns : List Int) : List Int → Prop
  | nil : Greedy ns []
  | snoc {tops : List Int} {k : Nat} : Greedy ns tops → k < ns.length → (∀ k', k' < ns.length → left (ns.getD k' 0) (tops.count (k' : Int)) ≤ left (ns.getD k 0) (tops.count (k : Int))) → Greedy ns (tops ++ [(k : Int)])
theorem left_one (v : Int) : left v 1 = v - v.fdiv 2 := rfl
theorem left_step (p : Int) (c : Nat) : left (left p c) 1 = left p (c + 1) := rfl
theorem perm_swap_head {α : Type} {l : List α} {k : Nat} {x y : α} {tl : List α} (hk : l[k]? = some x) (h : (x :: tl).Perm l) : (y :: tl).Perm (l.set k y) := by
  obtain ⟨hlt, he⟩ := List.getElem?_eq_some_iff.mp hk
  have e1 : l = l.take k ++ x :: l.drop (k + 1) := by rw [← he, ← List.drop_eq_getElem_cons hlt, List.take_append_drop]
  have e2 : l.set k y = l.take k ++ y :: l.drop (k + 1) := by rw [List.set_eq_take_append_cons_drop, if_pos hlt]
  rw [e2]
  rw [e1] at h
  have h2 : tl.Perm (l.take k ++ l.drop (k + 1)) := (List.perm_cons x).mp (h.trans List.perm_middle)
  exact ((List.perm_cons y).mpr h2).trans List.perm_middle.symm
theorem dueF_snoc (ns tops : List Int) (k : Nat) (hk : k < ns.length) : dueF ns (tops ++ [(k : Int)]) = (dueF ns tops).set k (-(left (ns.getD k 0) (tops.count (k : Int) + 1)), (k : Int)) := by
  apply List.ext_getElem?
  intro i
  rw [List.getElem?_set]
  unfold dueF
  by_cases hi : i < ns.length
  · rw [List.getElem?_map, List.getElem?_range hi]
    by_cases e : k = i
    · subst e
      rw [if_pos rfl, if_pos (by simpa using hk)]
      simp [List.count_append]
    · rw [if_neg e]
      rw [List.getElem?_map, List.getElem?_range hi]
      have : (k : Int) ≠ (i : Int) := by omega
      simp [List.count_append, List.count_singleton, this]
  · rw [List.getElem?_eq_none (by simp; omega), if_neg (by omega), List.getElem?_eq_none (by simp; omega)]
theorem dueF_get {ns tops : List Int} {k : Nat} (hk : k < ns.length) : (dueF ns tops)[k]? = some (-(left (ns.getD k 0) (tops.count (k : Int))), (k : Int)) := by
  unfold dueF
  rw [List.getElem?_map, List.getElem?_range hk]
  rfl
theorem mem_dueF {ns tops : List Int} {p : Int × Int} (h : p ∈ dueF ns tops) : ∃ k, k < ns.length ∧ p = (-(left (ns.getD k 0) (tops.count (k : Int))), (k : Int)) := by
  unfold dueF at h
  obtain ⟨k, hk, rfl⟩ := List.mem_map.mp h
  exact ⟨k, List.mem_range.mp hk, rfl⟩
/-! the map of keys -/
def upd (f : Addr → Int × Int) (D : Addr) (p : Int × Int) : Addr → Int × Int := fun a => if (a : Nat) = D then p else f a
section
variable {R R' news : List (Addr × Obj)} {f : Addr → Int × Int} {vs : List Value}
theorem TU.mono {v : Value} (h : TU R f v) (hs : ∀ p ∈ R, p ∈ R') : TU R' f v := by
  obtain ⟨a, t, u, e, hm⟩ := h
  exact ⟨a, t, u, e, hs _ hm⟩
theorem TU.upd {v : Value} {D : Addr} {p : Int × Int} {o : Obj} (h : TU R f v) (hD : ∀ p ∈ R, p.1 < D) : TU ((D, o) :: R) (upd f D p) v ∧ kv (Mine.upd f D p) v = kv f v := by
  obtain ⟨a, t, u, rfl, hm⟩ := h
  have hne : ¬ (a : Nat) = D := Nat.ne_of_lt (hD _ hm)
  have e : kv (Mine.upd f D p) (.ref a) = kv f (.ref a) := if_neg hne
  exact ⟨⟨a, t, u, rfl, by rw [e]; exact .tail _ hm⟩, e⟩
theorem TU.new {D : Addr} {p : Int × Int} {t u : Tok} : TU ((D, tup p t u) :: R) (Mine.upd f D p) (.ref D) ∧ kv (Mine.upd f D p) (.ref D) = p := by
  have e : kv (Mine.upd f D p) (.ref D) = p := if_pos rfl
  exact ⟨⟨D, t, u, rfl, by rw [e]; exact .head _⟩, e⟩
theorem TU.all {D : Addr} {p : Int × Int} {o : Obj} (h : ∀ v ∈ vs, TU R f v) (hD : ∀ p ∈ R, p.1 < D) : (∀ v ∈ vs, TU ((D, o) :: R) (Mine.upd f D p) v) ∧ vs.map (kv (Mine.upd f D p)) = vs.map (kv f) :=
  ⟨fun v hv => ((h v hv).upd hD).1, List.map_congr_left fun v hv => ((h v hv).upd (o := o) hD).2⟩
theorem HP.congr {α : Type} {lt lt' : α → α → Bool} {p : Nat} {vs : List α} (h : HP lt p vs) (hc : ∀ a ∈ vs, ∀ b ∈ vs, lt' a b = lt a b) : HP lt' p vs := by
  intro i a b h1 h2 h3 h4
  rw [hc a (List.mem_of_getElem? h3) b (List.mem_of_getElem? h4)]
  exact h i a b h1 h2 h3 h4
/-- one turn of the heap -/
theorem heap_turn {ns tops : List Int} {D : Addr} {t u : Tok} {r : Value} (hU : ∀ v ∈ vs, TU R f v) (hH : HP (tlt f) 0 vs) (hp : (vs.map (kv f)).Perm (dueF ns tops)) (hr : vs[0]? = some r) (hD : ∀ p ∈ R, p.1 < D) (hG : Greedy ns tops) :
    ∃ k : Nat, k < ns.length ∧ (kv f r).2 = (k : Int) ∧ Greedy ns (tops ++ [(k : Int)]) ∧
      ∀ q, q = (-(left (-(kv f r).1) 1), (kv f r).2) → 
      (∀ v ∈ siftup (tlt (upd f D q)) 0 (vs.set 0 (.ref D)), TU ((D, tup q t u) :: R) (upd f D q) v) ∧ (∀ v ∈ vs, TU ((D, tup q t u) :: R) (upd f D q) v) ∧ HP (tlt (upd f D q)) 0 (siftup (tlt (upd f D q)) 0 (vs.set 0 (.ref D))) ∧
      ((siftup (tlt (upd f D q)) 0 (vs.set 0 (.ref D))).map (kv (upd f D q))).Perm (dueF ns (tops ++ [(k : Int)])) := by
  have hrm : r ∈ vs := List.mem_of_getElem? hr
  obtain ⟨k, hk, hkk⟩ := mem_dueF (hp.mem_iff.mp (List.mem_map_of_mem hrm))
  refine ⟨k, hk, by rw [hkk], hG.snoc hk fun k' hk' => ?_, ?_⟩
  · have hm : (-(left (ns.getD k' 0) (tops.count (k' : Int))), (k' : Int)) ∈ vs.map (kv f) := hp.mem_iff.mpr (List.mem_of_getElem? (dueF_get hk'))
    obtain ⟨v, hv, e⟩ := List.mem_map.mp hm
    have := HP_root (tlt_good f) hH hr v hv
    unfold tlt at this
    rw [e, hkk, llt_false] at this
    dsimp only at this
    omega
  intro q hq
  have hD' := TU.all (vs := vs) (p := q) (o := tup q t u) hU hD
  have hset : ∀ v ∈ vs.set 0 (Value.ref D), TU ((D, tup q t u) :: R) (upd f D q) v := by
    intro v hv
    rcases List.mem_or_eq_of_mem_set hv with hv | rfl
    · exact hD'.1 v hv
    · exact TU.new.1
  match vs, hr with
  | x :: tl, hr =>
    have hx : x = r := by simpa using hr
    subst hx
    refine ⟨fun v hv => hset v ((siftup_perm _ _).mem_iff.mp hv), hD'.1, siftup_HP (tlt_good _) 0 _ (by simp) ?_, ?_⟩
    · intro i a b k0 k1 h2 h3
      rw [List.getElem?_set, if_neg (by omega)] at h2 h3
      have e1 := ((hU a (List.mem_of_getElem? h2)).upd (p := q) (o := tup q t u) hD).2
      have e2 := ((hU b (List.mem_of_getElem? h3)).upd (p := q) (o := tup q t u) hD).2
      unfold tlt
      rw [e1, e2]
      exact hH i a b k0 (by omega) h2 h3
    · refine ((siftup_perm _ _).map _).trans ?_
      have e0 : (x :: tl).set 0 (Value.ref D) = Value.ref D :: tl := rfl
      have e1 : tl.map (kv (upd f D q)) = tl.map (kv f) := by
        have := hD'.2
        rw [List.map_cons, List.map_cons] at this
        exact (List.cons.inj this).2
      rw [e0, List.map_cons, (TU.new (R := R) (t := t) (u := u)).2, e1, dueF_snoc ns tops k hk]
      rw [List.map_cons] at hp
      have hq' : q = (-(left (ns.getD k 0) (tops.count (k : Int) + 1)), (k : Int)) := by
        rw [hq, hkk]
        dsimp only
        rw [Int.neg_neg, left_step]
      rw [← hq']
      exact perm_swap_head (by rw [hkk]; exact dueF_get hk) hp
theorem eq_sorted {a b : List Value} (hp : (a.map (kv f)).Perm (b.map (kv f))) (ha : a.Pairwise fun x y => tlt f y x = false) (hb : b.Pairwise fun x y => tlt f y x = false) : a.map (kv f) = b.map (kv f) := by
  refine hp.eq_of_pairwise (le := fun x y => llt y x = false) ?_ (List.pairwise_map.mpr ha) (List.pairwise_map.mpr hb)
  intro x y _ _ h1 h2
  rw [llt_false] at h1 h2
  exact Prod.ext (by omega) (by omega)
end
end Mine
/-! the plain law: halving the greatest pile takes the greatest halves -/
namespace Mine
theorem perm_sumI {a b : List Int} (p : a.Perm b) : a.sum = b.sum := by
  induction p with
  | nil => rfl
  | cons x _ ih => simp only [List.sum_cons, ih]
  | swap x y l => simp only [List.sum_cons]; omega
  | trans _ _ h1 h2 => exact h1.trans h2
def half (p : Int) (j : Nat) : Int := (left p j).fdiv 2
theorem left_nonneg {p : Int} (hp : 0 ≤ p) : ∀ j, 0 ≤ left p j
  | 0 => hp
  | j + 1 => by
    have := left_nonneg hp j
    show 0 ≤ left p j - (left p j).fdiv 2
    rw [Int.fdiv_eq_ediv_of_nonneg _ (by decide)]
    omega
theorem half_step {p : Int} (hp : 0 ≤ p) (j : Nat) : half p (j + 1) ≤ half p j := by
  have := left_nonneg hp j
  unfold half
  show (left p j - (left p j).fdiv 2).fdiv 2 ≤ _
  rw [Int.fdiv_eq_ediv_of_nonneg _ (by decide), Int.fdiv_eq_ediv_of_nonneg _ (by decide)]
  omega
theorem half_mono {p : Int} (hp : 0 ≤ p) (i : Nat) : ∀ d, half p (i + d) ≤ half p i
  | 0 => Int.le_refl _
  | d + 1 => Int.le_trans (half_step hp (i + d)) (half_mono hp i d)
theorem half_le {a b : Int} {i j : Nat} (h : left a i ≤ left b j) : half a i ≤ half b j := by
  unfold half
  rw [Int.fdiv_eq_ediv_of_nonneg _ (by decide), Int.fdiv_eq_ediv_of_nonneg _ (by decide)]
  omega
theorem left_sum (p : Int) : ∀ c, ((List.range c).map (half p)).sum = p - left p c
  | 0 => by show (0 : Int) = p - p; omega
  | c + 1 => by
    rw [List.range_succ, List.map_append, List.sum_append_int, left_sum p c]
    show _ + (half p c + 0) = p - (left p c - (left p c).fdiv 2)
    unfold half
    omega
theorem flat_change {n k : Nat} (g g' : Nat → List Int) (x : Int) (h : ∀ i, i ≠ k → g' i = g i) (hx : g' k = g k ++ [x]) (hk : k < n) : ((List.range n).flatMap g').Perm ((List.range n).flatMap g ++ [x]) := by
  induction n with
  | zero => omega
  | succ n ih =>
    rw [List.range_succ, List.flatMap_append, List.flatMap_append]
    simp only [List.flatMap_cons, List.flatMap_nil, List.append_nil]
    by_cases e : k = n
    · subst e
      have e1 : (List.range k).flatMap g' = (List.range k).flatMap g := by
        rw [List.flatMap_def, List.flatMap_def]
        congr 1
        exact List.map_congr_left fun i hi => h i (by have := List.mem_range.mp hi; omega)
      rw [e1, hx, List.append_assoc]
    · rw [h n (fun h => e h.symm)]
      refine ((ih (by omega)).append_right (g n)).trans ?_
      rw [List.append_assoc, List.append_assoc]
      exact List.Perm.append_left _ List.perm_append_comm
theorem flat_app (n : Nat) (f g : Nat → List Int) : ((List.range n).flatMap f ++ (List.range n).flatMap g).Perm ((List.range n).flatMap fun i => f i ++ g i) := by
  induction n with
  | zero => simp
  | succ n ih =>
    rw [List.range_succ, List.flatMap_append, List.flatMap_append, List.flatMap_append]
    simp only [List.flatMap_cons, List.flatMap_nil, List.append_nil]
    refine List.Perm.trans ?_ (ih.append_right _)
    simp only [List.append_assoc]
    refine List.Perm.append_left _ ?_
    rw [← List.append_assoc, ← List.append_assoc]
    exact List.Perm.append_right _ List.perm_append_comm
def cnt (tops : List Int) (k : Nat) : Nat := tops.count (k : Int)
def taken (ns tops : List Int) : List Int := (List.range ns.length).flatMap fun k => (List.range (cnt tops k)).map (half (ns.getD k 0))
def stay (ns tops : List Int) (t : Nat) : List Int := (List.range ns.length).flatMap fun k => (List.range (t - cnt tops k)).map fun j => half (ns.getD k 0) (cnt tops k + j)
theorem cnt_snoc (tops : List Int) (k i : Nat) : cnt (tops ++ [(k : Int)]) i = cnt tops i + if i = k then 1 else 0 := by
  unfold cnt
  rw [List.count_append, List.count_singleton]
  by_cases e : i = k
  · subst e; simp
  · have : ¬ (k : Int) = (i : Int) := by omega
    simp [e, this]
theorem taken_snoc {ns tops : List Int} {k : Nat} (hk : k < ns.length) : (taken ns (tops ++ [(k : Int)])).Perm (taken ns tops ++ [half (ns.getD k 0) (cnt tops k)]) := by
  refine flat_change (k := k) _ _ _ ?_ ?_ hk
  · intro i hi
    rw [cnt_snoc, if_neg hi, Nat.add_zero]
  · rw [cnt_snoc, if_pos rfl, List.range_succ, List.map_append]
    rfl
theorem Greedy.len {ns tops : List Int} (h : Greedy ns tops) : (taken ns tops).length = tops.length := by
  induction h with
  | nil =>
    have e : taken ns [] = [] := by
      unfold taken
      rw [List.flatMap_eq_nil_iff]
      intro k _
      simp [cnt]
    rw [e]
  | snoc _ hk _ ih => rw [(taken_snoc hk).length_eq, List.length_append, List.length_append, ih]; rfl
theorem Greedy.most {ns tops : List Int} (hpos : ∀ p ∈ ns, 0 ≤ p) (h : Greedy ns tops) : ∀ k, k < ns.length → ∀ j, j < cnt tops k → ∀ k', k' < ns.length → half (ns.getD k' 0) (cnt tops k') ≤ half (ns.getD k 0) j := by
  have hp : ∀ k, 0 ≤ ns.getD k 0 := by
    intro k
    by_cases hk : k < ns.length
    · rw [List.getD_eq_getElem?_getD, List.getElem?_eq_getElem hk]
      exact hpos _ (List.getElem_mem hk)
    · rw [List.getD_eq_getElem?_getD, List.getElem?_eq_none (by omega)]
      exact Int.le_refl _
  induction h with
  | nil => intro k _ j hj; simp [cnt] at hj
  | @snoc tops k0 _ hk0 hmax ih =>
    intro k hk j hj k' hk'
    rw [cnt_snoc] at hj ⊢
    refine Int.le_trans (half_mono (hp k') _ _) ?_
    by_cases hjk : j < cnt tops k
    · exact ih k hk j hjk k' hk'
    · have e : k = k0 := by
        by_cases e : k = k0
        · exact e
        · rw [if_neg e] at hj; omega
      subst e
      rw [if_pos rfl] at hj
      have ej : j = cnt tops k := by omega
      subst ej
      exact half_le (hmax k' hk')
theorem range_getD (ns : List Int) : (List.range ns.length).map (fun k => ns.getD k 0) = ns := by
  apply List.ext_getElem?
  intro i
  by_cases hi : i < ns.length
  · rw [List.getElem?_map, List.getElem?_range hi, List.getElem?_eq_getElem hi]
    simp [hi]
  · rw [List.getElem?_eq_none (by simp; omega), List.getElem?_eq_none (by omega)]
theorem halves_perm {ns tops : List Int} {t : Nat} (ht : ∀ k, cnt tops k ≤ t) : (taken ns tops ++ stay ns tops t).Perm (halvesOf ns t) := by
  refine (flat_app _ _ _).trans (.of_eq ?_)
  have e : halvesOf ns t = (List.range ns.length).flatMap fun k => (List.range t).map (half (ns.getD k 0)) := by
    conv => lhs; rw [← range_getD ns]
    unfold halvesOf
    rw [List.flatMap_map]
    rfl
  rw [e, List.flatMap_def, List.flatMap_def]
  congr 1
  refine List.map_congr_left fun k _ => ?_
  have ek : t = cnt tops k + (t - cnt tops k) := by have := ht k; omega
  conv => rhs; rw [ek, List.range_add, List.map_append, List.map_map]
  rfl
theorem sum_flat (n : Nat) (g : Nat → List Int) : ((List.range n).flatMap g).sum = ((List.range n).map fun k => (g k).sum).sum := by
  induction n with
  | zero => rfl
  | succ n ih =>
    rw [List.range_succ, List.flatMap_append, List.map_append, List.sum_append_int, List.sum_append_int, ih]
    simp
theorem sum_sub (n : Nat) (a b : Nat → Int) : ((List.range n).map fun k => a k - b k).sum = ((List.range n).map a).sum - ((List.range n).map b).sum := by
  induction n with
  | zero => rfl
  | succ n ih =>
    rw [List.range_succ, List.map_append, List.map_append, List.map_append, List.sum_append_int, List.sum_append_int, List.sum_append_int, ih]
    simp only [List.map_cons, List.map_nil, List.sum_cons, List.sum_nil]
    omega
theorem taken_sum (ns tops : List Int) : ((List.range ns.length).map fun k => left (ns.getD k 0) (tops.count (k : Int))).sum = ns.sum - (taken ns tops).sum := by
  have e : (taken ns tops).sum = ((List.range ns.length).map fun k => ns.getD k 0 - left (ns.getD k 0) (tops.count (k : Int))).sum := by
    unfold taken
    rw [sum_flat]
    congr 1
    exact List.map_congr_left fun k _ => left_sum _ _
  rw [e, sum_sub, range_getD]
  omega
theorem top_sum {T R s : List Int} {t : Nat} (ht : T.length = t) (hp : s.Perm (T ++ R)) (hs : s.Pairwise (· ≤ ·)) (hm : ∀ x ∈ T, ∀ y ∈ R, y ≤ x) : (s.reverse.take t).sum = T.sum := by
  have tr : ∀ a b c : Int, decide (b ≤ a) = true → decide (c ≤ b) = true → decide (c ≤ a) = true := by
    intro a b c h1 h2
    rw [decide_eq_true_iff] at *
    omega
  have tt : ∀ a b : Int, (decide (b ≤ a) || decide (a ≤ b)) = true := by
    intro a b
    rw [Bool.or_eq_true, decide_eq_true_iff, decide_eq_true_iff]
    omega
  have pT := List.mergeSort_perm T (fun a b => decide (b ≤ a))
  have pR := List.mergeSort_perm R (fun a b => decide (b ≤ a))
  have sT := List.pairwise_mergeSort (le := fun a b : Int => decide (b ≤ a)) tr tt T
  have sR := List.pairwise_mergeSort (le := fun a b : Int => decide (b ≤ a)) tr tt R
  have e : s.reverse = T.mergeSort (fun a b => decide (b ≤ a)) ++ R.mergeSort (fun a b => decide (b ≤ a)) := by
    refine List.Perm.eq_of_pairwise (le := fun a b : Int => b ≤ a) (fun a b _ _ h1 h2 => Int.le_antisymm h2 h1) ?_ ?_ ?_
    · rw [List.pairwise_reverse]; exact hs
    · rw [List.pairwise_append]
      refine ⟨sT.imp fun h => by simpa using h, sR.imp fun h => by simpa using h, ?_⟩
      intro a ha b hb
      exact hm a (pT.mem_iff.mp ha) b (pR.mem_iff.mp hb)
    · exact (List.reverse_perm _).trans (hp.trans (pT.symm.append pR.symm))
  rw [e, List.take_left' (by rw [pT.length_eq]; exact ht)]
  exact perm_sumI pT
theorem law_least {ns tops srt : List Int} {t : Nat} (hpos : ∀ p ∈ ns, 0 ≤ p) (G : Greedy ns tops) (hl : tops.length = t) (hp : srt.Perm (halvesOf ns t)) (hs : srt.Pairwise (· ≤ ·)) :
    ((List.range ns.length).map fun k => left (ns.getD k 0) (tops.count (k : Int))).sum = ns.sum - (srt.reverse.take t).sum := by
  have hpg : ∀ k, k < ns.length → 0 ≤ ns.getD k 0 := by
    intro k hk
    rw [List.getD_eq_getElem?_getD, List.getElem?_eq_getElem hk]
    exact hpos _ (List.getElem_mem hk)
  have hc : ∀ k, cnt tops k ≤ t := fun k => by rw [← hl]; exact List.count_le_length
  rw [taken_sum, top_sum (T := taken ns tops) (R := stay ns tops t) (by rw [G.len]; exact hl) (hp.trans (halves_perm hc).symm) hs ?_]
  intro x hx y hy
  unfold taken at hx
  unfold stay at hy
  obtain ⟨k, hk, hx⟩ := List.mem_flatMap.mp hx
  obtain ⟨j, hj, rfl⟩ := List.mem_map.mp hx
  obtain ⟨k', hk', hy⟩ := List.mem_flatMap.mp hy
  obtain ⟨j', hj', rfl⟩ := List.mem_map.mp hy
  have hk'' := List.mem_range.mp hk'
  exact Int.le_trans (half_mono (hpg k' hk'') _ _) (G.most hpos k (List.mem_range.mp hk) j (List.mem_range.mp hj) k' hk'')
end Mine
namespace Mine
open PySem.Calls LCg LCt
section
variable {prog : Program} {w : World} {A : Around} {E : Value → Shared → Prop} {s : Shared} {h : Heap} {tk : Nat} {L l : Addr} {h₀ : Heap} {m : Str → Option Value} {env : Env} {Q : Value → Shared → Prop} {vs : List Value} {news : List (Addr × Obj)} {n : Nat}
theorem qtup2 {x k : Int} {t u : Tok} (F : Fr h₀ L h m) (N : News h₀ L h news) (hq : ∀ D h', Fr h₀ L h' m → News h₀ L h' ((D, tup (x, k) t u) :: news) → (∀ p ∈ news, p.1 < D) → Q (.ref D) (St s h' tk)) :
    wpAny (model prog w) A (newTuple [.int x t, .int k u]) Q E (St s h tk) :=
  newTuple_N (s := St s h tk) F N (fun h' F' N' => hq h.objs.size h' F' N' fun p hp => Heap.lt_size (N p hp).1) (by rw [sizeLine_eq]; exact (by decide : 2 ≤ 16777216))
theorem qt0 {value slice : PySem.Expr} {a : Addr} {p : Int × Int} {t u v : Tok} (N : News h₀ L h news) (hm : (a, tup p t u) ∈ news) (hq : Q (.int p.1 t) (St s h tk))
    (hs : subscripted slice false (.ref a) (.int 0 v) = operate [.ref a, .int 0 v] (getItem (.ref a) (.int 0 v)) := by with_unfolding_all rfl) (hg : ∀ r, letTemporaryGo value (.ref a) r = pure () := by intro _; with_unfolding_all rfl) :
    wpAny (model prog w) A (subscriptTail value slice (.ref a) (.int 0 v)) Q E (St s h tk) :=
  kim_tup (s := St s h tk) (j := 0) N hm rfl rfl (by decide) (by decide) rfl rfl hq hs hg
theorem qt1 {value slice : PySem.Expr} {a : Addr} {p : Int × Int} {t u v : Tok} (N : News h₀ L h news) (hm : (a, tup p t u) ∈ news) (hq : Q (.int p.2 u) (St s h tk))
    (hs : subscripted slice false (.ref a) (.int 1 v) = operate [.ref a, .int 1 v] (getItem (.ref a) (.int 1 v)) := by with_unfolding_all rfl) (hg : ∀ r, letTemporaryGo value (.ref a) r = pure () := by intro _; with_unfolding_all rfl) :
    wpAny (model prog w) A (subscriptTail value slice (.ref a) (.int 1 v)) Q E (St s h tk) :=
  kim_tup (s := St s h tk) (j := 1) N hm rfl rfl (by decide) (by decide) rfl rfl hq hs hg
theorem qforR {x : Str} {px : Pos} {body : List Stmt} {I : Addr} {Q : Flow → Shared → Prop} (cnt : Nat) (J : Nat → (Str → Option Value) → List (Addr × Obj) → Prop) (hh : A.handled = none)
    (F : Fr h₀ L h m) (N : News h₀ L h ((I, ritObj 0 cnt 1) :: news)) (hn : ∀ p ∈ news, p.1 ≠ I) (hJ : J 0 m news)
    (turn : ∀ i t h₁ tk₁ m₁ news₁ o₁, i < cnt → J i m₁ news₁ → o₁ = ritObj (0 + ((i + 1 : Nat) : Int) * 1) ((cnt : Int) - ((i + 1 : Nat) : Int)) 1 → (∀ p ∈ news₁, p.1 ≠ I) → Fr h₀ L h₁ m₁ → News h₀ L h₁ ((I, o₁) :: news₁) →
      wpAny (model prog w) A (storeName env x (.int i t)) (fun _ s₂ => wpAny (model prog w) A (execs body env) (FStep h₀ L I s (fun o => o = ritObj (0 + ((i + 1 : Nat) : Int) * 1) ((cnt : Int) - ((i + 1 : Nat) : Int)) 1) (J (i + 1)) Q) (fun _ _ => False) s₂) (fun _ _ => False) (St s h₁ tk₁))
    (done : ∀ h₁ tk₁ m₁ news₁, J cnt m₁ news₁ → Fr h₀ L h₁ m₁ → News h₀ L h₁ news₁ → Q .next (St s h₁ tk₁)) :
    codeAny (model prog w) A (.forLoop (.Name x px) (.ref I) body [] env) (fun r s' => match r with | .ok f => Q f s' | .error e => cameBackBy (model prog w) A env (fun _ _ => False) e s') (St s h tk) := by
  refine qforA cnt (fun i o => o = ritObj (0 + (i : Nat) * 1) ((cnt : Int) - (i : Nat)) 1) (fun i v => ∃ t, v = .int (i : Nat) t) J F N hn (by simp) hJ ?_ ?_ ?_ done
  · rintro i h₁ tk₁ o₁ news₁ m₁ Q hi ho rfl N₁ _ hQ
    refine wpAny_pyNext_range_item (s := St s h₁ tk₁) ho (by omega) fun h' hit' hs' => ?_
    refine hQ _ h' _ _ ?_ hit' ?_ hs'
    · exact ⟨_, by rw [show (0 : Int) + (i : Int) * 1 = (i : Int) by omega]⟩
    · have e1 : (0 : Int) + ((i + 1 : Nat) : Int) * 1 = 0 + (i : Int) * 1 + 1 := by push_cast; omega
      have e2 : (cnt : Int) - ((i + 1 : Nat) : Int) = (cnt : Int) - (i : Int) - 1 := by push_cast; omega
      rw [e1, e2]
  · rintro h₁ tk₁ o₁ news₁ m₁ Q ho rfl N₁ _ hQ
    exact wpAny_pyNext_range_end (s := St s h₁ tk₁) hh ho (by omega) fun h' he' => hQ h' _ he'
  · rintro i v h₁ tk₁ m₁ news₁ o₁ hi ⟨t, rfl⟩ hJ rfl hn1 F1 N1
    exact turn i t h₁ tk₁ m₁ news₁ _ hi hJ rfl hn1 F1 N1
theorem sum_neg (n : Nat) (a : Nat → Int) : -((List.range n).map (fun k => -(a k))).sum = ((List.range n).map a).sum := by
  induction n with
  | zero => rfl
  | succ n ih =>
    rw [List.range_succ, List.map_append, List.map_append, List.sum_append_int, List.sum_append_int]
    simp only [List.map_cons, List.map_nil, List.sum_cons, List.sum_nil]
    omega
set_option maxHeartbeats 4000000 in
theorem bh_call {times : Nat} {tt : Tok} {ns : List Int} (C : Cx (KK w) A env L h₀) (F : Fr h₀ L h m) (N : News h₀ L h news) (hm : (l, W.listOf vs.toArray n) ∈ news) (hroom : A.depth + 10 < recursionLimit) (hu : A.units + 200 < cLine)
    (hU : IntsAre vs ns) (h1 : 1 ≤ ns.length) (hsz : ns.length ≤ 100) (ht : times ≤ 100)
    (hq : ∀ h' tk' t (tops : List Int), Fr h₀ L h' m → News h₀ L h' news → Greedy ns tops → tops.length = times → Q (.int ((List.range ns.length).map fun k => left (ns.getD k 0) (tops.count (k : Int))).sum t) (St s h' tk')) :
    wpAny (model prog w) A (call (.ref 54) [.ref l, .int times tt]) Q E (St s h tk) := by
  have hul := hU.length
  refine enterC (binds := [("piles", .ref l), ("times", .int times tt)]) C F N rfl rfl (by omega) (BindsTo.of_eq rfl) rfl (by decide +kernel) ?_ rfl rfl rfl
  intro g L' h₁ tk1 cells m' C' F' N' hlt hm' Y
  have x2 : m' "times" = some (.int times tt) := (hm' _).trans rfl
  clear hm'
  obtain ⟨oT, oP, rfl, dT, dP⟩ := Y.two
  clear Y
  have dP' : oP.data = .cell (some (.ref l)) := dP.trans rfl
  have dT' : oT.data = .cell none := dT.trans rfl
  clear dT dP
  simp only [List.cons_append, List.nil_append] at N'
  -- heap
  refine wpAny_execs_cons (Assign_ListComp_U F' rfl rfl rfl (by decide) rfl (by decide) rfl rfl rfl (Call_ (C'.bltX F' rfl boot_range (by decide) (PyProof.Rows.callWith_type1 (args_cons (Call_ (C'.bltX F' rfl boot_len (by decide) (PyProof.Rows.callWith_builtin1 (args_cons (qldC N' rfl (.tail _ (.head _)) dP' (args_nil (qlen (vs := vs) (n := n) N' (.tail _ (.tail _ hm)) (by omega) fun t2 _ => ?_))))))))))))
  refine args_nil (qrange F' N' ?_)
  intro r h2 tk2 u1 u2 u3 F2 N2 hr2
  have N2' : News g L' h2 ((L' + 1 + 1, oT) :: (r, rngObj ((0 : Nat) : Int) (vs.length : Int) 1 u1 u2 u3) :: (L' + 1, oP) :: news) := news_sub N2 (by simp only [List.mem_cons]; grind)
  have hcr : @LT.lt Nat _ (L' + 1 + 1) r := hr2 _ (.head _)
  have hnc : ∀ p ∈ news, @Ne Nat p.1 (L' + 1 + 1) := fun p hp => by have : @LT.lt Nat _ p.1 L' := hlt p hp; omega
  clear N2 N'
  refine src_range (a := 0) (b := vs.length) (t := u1) (u := u2) (v := u3) (fun j ys nw => ∃ R f, nw = (L' + 1 + 1, oT) :: R ∧ (∀ p ∈ R, @Ne Nat p.1 (L' + 1 + 1)) ∧ (L' + 1, oP) ∈ R ∧ (∀ p ∈ news, p ∈ R) ∧ (∀ v ∈ ys, TU R f v) ∧ ys.map (kv f) = (List.range j).map fun k => (-(ns.getD k 0), (k : Int))) C'.hh F2 N2' (.tail _ (.head _)) (by omega) (by omega) ?_ ?_ ?_
  · refine ⟨_, fun _ => (0, 0), rfl, ?_, .tail _ (.head _), fun p hp => .tail _ (.tail _ hp), (fun _ h => nomatch h), rfl⟩
    intro p hp
    simp only [List.mem_cons] at hp
    rcases hp with rfl | rfl | hp
    · exact Nat.ne_of_gt hcr
    · show @Ne Nat (L' + 1) (L' + 1 + 1)
      omega
    · exact hnc p hp
  · rintro j t I oI Cc oC D ys nw m₂ h3 tk3 hj ⟨R, f, rfl, r1, r2, r3, r4, r5⟩ hC hx F3 N3 off ne
    obtain ⟨ta, ea⟩ := ints_at hU (i := 0 + j) (by omega)
    refine Tuple_ (args_cons (wpAny_UnaryOp (Subscript_ (qceC N3 rfl (.tail _ (.tail _ (.tail _ (.tail _ r2)))) dP' (qce N3 (.tail _ (.head _)) hC hx (qitemO (lo := W.listOf vs.toArray n) (l := vs) (n := n) N3 (.tail _ (.tail _ (.tail _ (.tail _ (r3 _ hm))))) rfl (by omega) (by omega) (by omega) (by rw [Int.toNat_natCast]; exact ea) (qneg fun tn _ => ?_)))))))
    refine args_cons (qce N3 (.tail _ (.head _)) hC hx (args_nil (qtup2 F3 N3 ?_)))
    intro D2 h4 F4 N4 hD2
    have hDR : ∀ p ∈ R, p.1 < D2 := fun p hp => hD2 p (.tail _ (.tail _ (.tail _ (.tail _ hp))))
    refine ⟨h4, _, (L' + 1 + 1, oT) :: (D2, tup (-(ns.getD (0 + j) 0), ((0 + j : Nat) : Int)) tn t) :: R, rfl, F4, news_sub N4 (by simp only [List.mem_cons, List.cons_append, List.nil_append]; grind), Off3.of ?_, _, upd f D2 (-(ns.getD (0 + j) 0), ((0 + j : Nat) : Int)), rfl, ?_, .tail _ r2, fun p hp => .tail _ (r3 p hp), ?_, ?_⟩
    · have o := off.mem
      intro p hp
      simp only [List.mem_cons] at hp
      rcases hp with rfl | rfl | hp
      · exact o _ (.head _)
      · exact ⟨Nat.ne_of_gt (hD2 _ (.head _)), Nat.ne_of_gt (hD2 _ (.tail _ (.head _))), Nat.ne_of_gt (hD2 _ (.tail _ (.tail _ (.head _))))⟩
      · exact o p (.tail _ hp)
    · intro p hp
      rcases List.mem_cons.mp hp with rfl | hp
      · exact Nat.ne_of_gt (hD2 _ (.tail _ (.tail _ (.tail _ (.head _)))))
      · exact r1 p hp
    · intro v hv
      rcases List.mem_append.mp hv with hv | hv
      · exact ((r4 v hv).upd hDR).1
      · rw [List.mem_singleton.mp hv]
        exact TU.new.1
    · rw [List.map_append, (TU.all (o := oT) r4 hDR).2, r5, List.range_succ, List.map_append]
      simp only [List.map_cons, List.map_nil]
      rw [(TU.new (R := R) (t := tn) (u := t)).2, Nat.zero_add]
  rintro g1 ys nw ⟨R, f, rfl, r1, r2, r3, r4, r5⟩ H h3 tk3 F3 N3 off3
  rw [Nat.sub_zero, hul] at r5
  have hyl : ys.length = ns.length := by have := congrArg List.length r5; simpa using this
  have hRH : ∀ p ∈ R, p.1 ≠ H := by
    have o3 : ∀ {l : List (Addr × Obj)}, Off1 H l → ∀ p ∈ l, p.1 ≠ H := by
      intro l
      induction l with
      | nil => intro _ p hp; cases hp
      | cons q l ih =>
        intro hO p hp
        rcases List.mem_cons.mp hp with rfl | hp
        · exact hO.1
        · exact ih hO.2 p hp
    exact o3 off3.2
  have hcH : @Ne Nat (L' + 1 + 1) H := off3.1
  -- tops
  refine wpAny_execs_cons (wpAny_Assign_Name (List_ (args_nil (qlist (s := s) (h := h3) (tk := tk3) F3 N3 (by simp) ?_))))
  intro T h4 F4 N4 hT4
  have hHT : @LT.lt Nat _ H T := hT4 _ (.head _)
  have hcT : @LT.lt Nat _ (L' + 1 + 1) T := hT4 _ (.tail _ (.head _))
  have hRT : ∀ p ∈ R, p.1 ≠ T := fun p hp => Nat.ne_of_lt (hT4 p (.tail _ (.tail _ hp)))
  refine qstC (x := "tops") F4 N4 rfl (.tail _ (.tail _ (.head _))) dT' ?_
  intro h5 oT5 F5 dT5 N5
  have N5' := N5 ((H, lst ys) :: (T, W.listOf [].toArray 0) :: R) (by
    intro p hp
    simp only [List.mem_cons] at hp ⊢
    rcases hp with rfl | rfl | hp
    · exact ⟨.inr (.inl rfl), hcH.symm⟩
    · exact ⟨.inl rfl, Nat.ne_of_gt hcT⟩
    · exact ⟨.inr (.inr (.inr hp)), r1 p hp⟩)
  clear N5 N4 N3
  obtain ⟨R0, hR0⟩ : ∃ R0, (L' + 1 + 1, oT5) :: R = R0 := ⟨_, rfl⟩
  have q1 : (L' + 1 + 1, oT5) ∈ R0 := by rw [← hR0]; exact .head _
  have q2 : (L' + 1, oP) ∈ R0 := by rw [← hR0]; exact .tail _ r2
  have q3 : ∀ p ∈ news, p ∈ R0 := fun p hp => by rw [← hR0]; exact .tail _ (r3 p hp)
  have q4 : ∀ p ∈ R0, p.1 ≠ H ∧ p.1 ≠ T := by
    intro p hp
    rw [← hR0] at hp
    rcases List.mem_cons.mp hp with rfl | hp
    · exact ⟨hcH, Nat.ne_of_lt hcT⟩
    · exact ⟨hRH p hp, hRT p hp⟩
  have q5 : ∀ v ∈ ys, TU R0 f v := fun v hv => (r4 v hv).mono fun p hp => by rw [← hR0]; exact .tail _ hp
  have N6 : News g L' h5 ((H, W.listOf ys.toArray ys.length) :: (T, W.listOf [].toArray 0) :: R0) := news_sub N5' (by rw [← hR0]; simp only [List.mem_cons]; grind)
  clear N5' hR0
  have z1 : (fun z : Str => if z = "heap" then some (Value.ref H) else m' z) "heap" = some (.ref H) := if_pos rfl
  have z2 : (fun z : Str => if z = "heap" then some (Value.ref H) else m' z) "times" = some (.int times tt) := (if_neg (by decide)).trans x2
  generalize (fun z : Str => if z = "heap" then some (Value.ref H) else m' z) = m5 at F5 z1 z2
  -- heapify
  refine wpAny_execs_cons (wpAny_If (wpAny_isTrue_Compare1 (Call_ (C'.globX F5 rfl (callWith_K C'.X rfl (args_cons (qldX F5 z1 (args_nil ⟨C'.X.keeps F5.keep, ?_⟩))))))))
  refine hf_call (n := ys.length) (vs := ys) (rest := (T, W.listOf [].toArray 0) :: R0) (lt := tlt f) (U := TU ((T, W.listOf [].toArray 0) :: R0) f) C' F5 N6 ?_ ?_ (Nat.le_refl _) (by omega) (fun v hv => (q5 v hv).mono fun p hp => .tail _ hp) (tcmp _ _ ?_) ?_
  · intro p hp
    rcases List.mem_cons.mp hp with rfl | hp
    · exact Nat.ne_of_gt hHT
    · exact (q4 p hp).1
  · show A.depth + 1 + 2 < _
    omega
  · show A.units + 3 + 9 < cLine
    omega
  intro h7 tk7 F7 N7
  refine wpAny_Constant_none (wpAny_isNot_plain rfl (wpAny_truthy_bool ?_))
  rw [if_neg (by decide)]
  refine wpAny_execs_nil ?_
  -- the loop
  refine wpAny_execs_cons (wpAny_For (Call_ (C'.bltX F7 rfl boot_range (by decide) (PyProof.Rows.callWith_type1 (args_cons (qldX F7 z2 (args_nil (qrange F7 N7 ?_))))))))
  intro r2' h8 tk8 v1 v2 v3 F8 N8 hr8
  refine qiter_rng (b := times) F8 N8 (.head _) (by omega) ?_
  intro I h9 F9 N9 hI9
  refine qforR times (fun i m₁ nw => m₁ "heap" = some (.ref H) ∧ ∃ (vs' : List Value) (f : Addr → Int × Int) (tops : List Int) (vsT : List Value) (nT : Nat) (R2 : List (Addr × Obj)), nw = (H, W.listOf vs'.toArray ys.length) :: (T, W.listOf vsT.toArray nT) :: R2 ∧ (∀ p ∈ R2, p.1 ≠ H ∧ p.1 ≠ T) ∧ (∀ p ∈ R0, p ∈ R2) ∧ vs'.length = ns.length ∧
      (∀ v ∈ vs', TU R2 f v) ∧ HP (tlt f) 0 vs' ∧ (vs'.map (kv f)).Perm (dueF ns tops) ∧ IntsAre vsT tops ∧ tops.length = i ∧ Greedy ns tops) C'.hh F9 (news := (H, W.listOf (heapF (tlt f) ys).toArray ys.length) :: (T, W.listOf [].toArray 0) :: R0) (news_sub N9 (by simp only [List.mem_cons]; grind)) ?_ ?_ ?_ ?_
  · intro p hp
    exact Nat.ne_of_lt (hI9 p (.tail _ hp))
  · refine ⟨z1, _, f, [], [], 0, R0, rfl, q4, fun p hp => hp, by rw [(heapF_perm _).length_eq, hyl], fun v hv => q5 v ((heapF_perm _).mem_iff.mp hv), heapF_HP (tlt_good f) _, ?_, .nil, rfl, .nil⟩
    refine ((heapF_perm _).map _).trans (.of_eq ?_)
    rw [r5]
    rfl
  · rintro i ti h10 tk10 m10 nw oI hi ⟨y1, vs', f, tops, vsT, nT, R2, rfl, p1, p2, p3, p4, p5, p6, p7, p8, p9⟩ hoI hnI F10 N10
    refine qstX F10 N10 ?_
    intro h11 m11 tk11 F11 N11 a1 a2
    have w1 := (a2 "heap" (by decide)).trans y1
    obtain ⟨rt, hrt⟩ : ∃ rt, vs'[0]? = some rt := ⟨vs'[0]'(by omega), by simp [(by omega : 0 < vs'.length)]⟩
    obtain ⟨a, ta, ua, rfl, hta⟩ := p4 rt (List.mem_of_getElem? hrt)
    refine wpAny_execs_cons (wpAny_Assign_Name (Subscript_ (qldX F11 w1 (qint fun _ _ => (qitem (vs := vs') (n := ys.length) N11 (.tail _ (.head _)) (by omega) (by omega) (by omega) hrt (qstX F11 N11 ?_))))))
    intro h12 m12 tk12 F12 N12 b1 b2
    have w2 := (b2 "heap" (by decide)).trans w1
    have hta' : (a, tup (kv f (.ref a)) ta ua) ∈ (I, oI) :: (H, W.listOf vs'.toArray ys.length) :: (T, W.listOf vsT.toArray nT) :: R2 := .tail _ (.tail _ (.tail _ hta))
    refine wpAny_execs_cons (wpAny_If (wpAny_isTrue_Compare1 (Call_ (C'.globX F12 rfl (callWith_K C'.X rfl (args_cons (qldX F12 w2 ?_)))))))
    refine args_cons (Tuple_ (args_cons (wpAny_UnaryOp (Call_ (C'.globX F12 rfl (callWith_K C'.X rfl (args_cons (wpAny_UnaryOp (Subscript_ (qldX F12 b1 (qint fun _ _ => (qt0 N12 hta' (qneg fun _ _ => (args_cons (qint fun _ _ => (args_nil ⟨C'.X.keeps F12.keep, ?_⟩))))))))))))))))
    refine ll_call (k := 1) C' F12 N12 (by show A.depth + 1 < _; omega) (by omega) ?_
    intro h13 tk13 t13 F13 N13
    refine qneg fun tn _ => (args_cons (Subscript_ (qldX F13 b1 (qint fun _ _ => (qt1 N13 hta' (args_nil (qtup2 F13 N13 ?_)))))))
    intro D h14 F14 N14 hD14
    refine args_nil ⟨C'.X.keeps F14.keep, ?_⟩
    have hDR : ∀ p ∈ R2, p.1 < D := fun p hp => hD14 p (.tail _ (.tail _ (.tail _ hp)))
    obtain ⟨k, k1, k2, k3, k4⟩ := heap_turn (t := tn) (u := ua) (D := D) p4 p5 p6 hrt hDR p9
    obtain ⟨c1, c2, c3, c4⟩ := k4 _ rfl
    generalize hqq : (-(left (-(kv f (.ref a)).1) 1), (kv f (.ref a)).2) = qq at *
    have hHD : @LT.lt Nat _ H D := hD14 _ (.tail _ (.head _))
    have hTD : @LT.lt Nat _ T D := hD14 _ (.tail _ (.tail _ (.head _)))
    have hID : @LT.lt Nat _ I D := hD14 _ (.head _)
    refine hr_call (n := ys.length) (vs := vs') (x := .ref D) (r0 := .ref a) (rest := (D, tup qq tn ua) :: (I, oI) :: (T, W.listOf vsT.toArray nT) :: R2) (lt := tlt (upd f D qq)) (U := TU ((D, tup qq tn ua) :: (I, oI) :: (T, W.listOf vsT.toArray nT) :: R2) (upd f D qq)) C' F14 (news_sub N14 (by simp only [List.mem_cons]; grind)) ?_ ?_ (Nat.le_refl _) (by omega) hrt ?_ ?_ (tcmp _ _ ?_) ?_
    · intro p hp
      simp only [List.mem_cons] at hp
      rcases hp with rfl | rfl | rfl | hp
      · exact Nat.ne_of_gt hHD
      · exact (hnI _ (.head _)).symm
      · exact Nat.ne_of_gt hHT
      · exact (p1 p hp).1
    · show A.depth + 1 + 2 < _
      omega
    · exact fun v hv => (c2 v hv).mono (by simp only [List.mem_cons]; grind)
    · exact (TU.new (R := R2) (t := tn) (u := ua)).1.mono (by simp only [List.mem_cons]; grind)
    · show A.units + 3 + 9 < cLine
      omega
    intro h15 tk15 F15 N15
    refine qldX F15 b1 (qneT (t := ta) (u := ua) (p := kv f (.ref a)) N15 ?_ ?_ (wpAny_truthy_bool ?_))
    · exact .tail _ (.tail _ (.tail _ (.tail _ hta)))
    · show A.units + 3 < cLine
      omega
    rw [if_neg (by decide)]
    refine wpAny_execs_nil ?_
    refine wpAny_execs_cons (wpAny_Expr (MethodCall_ (qldC N15 rfl (.tail _ (.tail _ (.tail _ (.tail _ (p2 _ q1))))) dT5 (qgm (vs := vsT) (n := nT) N15 (.tail _ (.tail _ (.tail _ (.head _)))) rfl PySem.F.slot_list_append PySem.F.type_list_append (callWith_method1 (args_cons (Subscript_ (qldX F15 b1 (qint fun _ _ => (qt1 (p := kv f (.ref a)) (t := ta) (u := ua) N15 (.tail _ (.tail _ (.tail _ (.tail _ hta)))) (args_nil ?_)))))))))))
    have hl8 := p7.length
    refine qappend (l := T) (vs := vsT) (n := nT) (x := Value.int (kv f (.ref a)).2 ua) (rest := (H, W.listOf (siftup (tlt (upd f D qq)) 0 (vs'.set 0 (.ref D))).toArray ys.length) :: (I, oI) :: (D, tup qq tn ua) :: R2) F15 (news_sub N15 (by simp only [List.mem_cons]; grind)) ?_ (by omega) ?_
    · intro p hp
      simp only [List.mem_cons] at hp
      rcases hp with rfl | rfl | rfl | hp
      · exact Nat.ne_of_lt hHT
      · exact (hnI _ (.tail _ (.head _))).symm
      · exact Nat.ne_of_gt hTD
      · exact (p1 p hp).2
    intro h16 F16 N16
    rw [k2] at N16
    refine wpAny_execs_nil ⟨h16, _, m12, (H, W.listOf (siftup (tlt (upd f D qq)) 0 (vs'.set 0 (.ref D))).toArray ys.length) :: (T, W.listOf (vsT ++ [Value.int (k : Int) ua]).toArray (nT + 1)) :: (D, tup qq tn ua) :: R2, oI, rfl, hoI, F16, news_sub N16 (by simp only [List.mem_cons]; grind), ?_, w2, _, upd f D qq, tops ++ [(k : Int)], _, _, (D, tup qq tn ua) :: R2, rfl, ?_, ?_, ?_, c1, c3, c4, ?_, ?_, k3⟩
    · intro p hp
      simp only [List.mem_cons] at hp
      rcases hp with rfl | rfl | rfl | hp
      · exact hnI (H, W.listOf vs'.toArray ys.length) (.head _)
      · exact hnI (T, W.listOf vsT.toArray nT) (.tail _ (.head _))
      · exact Nat.ne_of_gt hID
      · exact hnI p (.tail _ (.tail _ hp))
    · intro p hp
      rcases List.mem_cons.mp hp with rfl | hp
      · exact ⟨Nat.ne_of_gt hHD, Nat.ne_of_gt hTD⟩
      · exact p1 p hp
    · exact fun p hp => .tail _ (p2 p hp)
    · rw [(siftup_perm _ _).length_eq, List.length_set, p3]
    · exact ints_snoc p7 _ _
    · rw [List.length_append, p8]
      rfl
  rintro h10 tk10 m10 nw ⟨y1, vs', f, tops, vsT, nT, R2, rfl, p1, p2, p3, p4, p5, p6, p7, p8, p9⟩ F10 N10
  have hR : ∀ p ∈ R2, p ∈ (H, W.listOf vs'.toArray ys.length) :: (T, W.listOf vsT.toArray nT) :: R2 := fun p hp => .tail _ (.tail _ hp)
  refine wpAny_execs_cons (Assign_ListComp_U F10 rfl rfl rfl (by decide) rfl (by decide) rfl rfl rfl (Call_ (C'.bltX F10 rfl boot_range (by decide) (PyProof.Rows.callWith_type1 (args_cons (Call_ (C'.bltX F10 rfl boot_len (by decide) (PyProof.Rows.callWith_builtin1 (args_cons (qldC N10 rfl (hR _ (p2 _ q2)) dP' (args_nil (qlen (vs := vs) (n := n) N10 (hR _ (p2 _ (q3 _ hm))) (by omega) fun t2 _ => ?_))))))))))))
  refine args_nil (qrange F10 N10 ?_)
  intro r3' h11 tk11 v4 v5 v6 F11 N11 hr11
  have N11' : News g L' h11 ((H, W.listOf vs'.toArray ys.length) :: (T, W.listOf vsT.toArray nT) :: (r3', rngObj ((0 : Nat) : Int) (vs.length : Int) 1 v4 v5 v6) :: R2) := news_sub N11 (by simp only [List.mem_cons]; grind)
  clear N11
  refine src_range (a := 0) (b := vs.length) (t := v4) (u := v5) (v := v6) (fun j zs nw => ∃ R3 f3, nw = (H, W.listOf vs'.toArray ys.length) :: (T, W.listOf vsT.toArray nT) :: R3 ∧ (∀ p ∈ R2, p ∈ R3) ∧ (∀ v ∈ vs', TU R3 f3 v) ∧ vs'.map (kv f3) = vs'.map (kv f) ∧ (∀ v ∈ zs, TU R3 f3 v) ∧ zs.map (kv f3) = (List.range j).map fun k => (-(left (ns.getD k 0) (tops.count (k : Int))), (k : Int))) C'.hh F11 N11' (.tail _ (.tail _ (.head _))) (by omega) (by omega) ?_ ?_ ?_
  · exact ⟨_, f, rfl, fun p hp => .tail _ hp, fun v hv => (p4 v hv).mono fun p hp => .tail _ hp, rfl, (fun _ h => nomatch h), rfl⟩
  · rintro j t I' oI' Cc oC D zs nw m₂ h12 tk12 hj ⟨R3, f3, rfl, s1, s2, s3, s4, s5⟩ hC hx F12 N12 off ne
    obtain ⟨ta, ea⟩ := ints_at hU (i := 0 + j) (by omega)
    refine Tuple_ (args_cons (wpAny_UnaryOp (Call_ (qceG C' F12 rfl (callWith_K C'.X rfl (args_cons (Subscript_ (qceC N12 rfl (.tail _ (.tail _ (.tail _ (.tail _ (.tail _ (s1 _ (p2 _ q2))))))) dP' (qce N12 (.tail _ (.head _)) hC hx (qitemO (lo := W.listOf vs.toArray n) (l := vs) (n := n) N12 (.tail _ (.tail _ (.tail _ (.tail _ (.tail _ (s1 _ (p2 _ (q3 _ hm)))))))) rfl (by omega) (by omega) (by omega) (by rw [Int.toNat_natCast]; exact ea) ?_))))))))))
    refine args_cons (MethodCall_ (qceC N12 rfl (.tail _ (.tail _ (.tail _ (.tail _ (.tail _ (s1 _ (p2 _ q1))))))) dT5 (qgm (vs := vsT) (n := nT) N12 (.tail _ (.tail _ (.tail _ (.tail _ (.head _))))) rfl PySem.F.slot_list_count PySem.F.type_list_count (callWith_method1 (args_cons (qce N12 (.tail _ (.head _)) hC hx (args_nil (qcount (vs := vsT) (n := nT) (ns := tops) N12 (.tail _ (.tail _ (.tail _ (.tail _ (.head _))))) rfl p7 fun tc _ => ?_))))))))
    refine args_nil ⟨C'.X.keeps F12.keep, ?_⟩
    have hcl : tops.count ((0 + j : Nat) : Int) ≤ tops.length := List.count_le_length
    refine ll_call C' F12 N12 (by show A.depth + 1 < _; omega) (by omega) ?_
    intro h13 tk13 t13 F13 N13
    refine qneg fun tn _ => (args_cons (qce N13 (.tail _ (.head _)) hC hx (args_nil (qtup2 F13 N13 ?_))))
    intro D2 h14 F14 N14 hD2
    have hDR : ∀ p ∈ R3, p.1 < D2 := fun p hp => hD2 p (.tail _ (.tail _ (.tail _ (.tail _ (.tail _ hp)))))
    obtain ⟨g1, g2⟩ := TU.all (p := (-(left (ns.getD (0 + j) 0) (tops.count ((0 + j : Nat) : Int))), ((0 + j : Nat) : Int))) (o := tup (-(left (ns.getD (0 + j) 0) (tops.count ((0 + j : Nat) : Int))), ((0 + j : Nat) : Int)) tn t) s2 hDR
    refine ⟨h14, _, (H, W.listOf vs'.toArray ys.length) :: (T, W.listOf vsT.toArray nT) :: (D2, tup (-(left (ns.getD (0 + j) 0) (tops.count ((0 + j : Nat) : Int))), ((0 + j : Nat) : Int)) tn t) :: R3, rfl, F14, news_sub N14 (by simp only [List.mem_cons, List.cons_append, List.nil_append]; grind), Off3.of ?_, _, upd f3 D2 (-(left (ns.getD (0 + j) 0) (tops.count ((0 + j : Nat) : Int))), ((0 + j : Nat) : Int)), rfl, fun p hp => .tail _ (s1 p hp), g1, g2.trans s3, ?_, ?_⟩
    · have o := off.mem
      intro p hp
      simp only [List.mem_cons] at hp
      rcases hp with rfl | rfl | rfl | hp
      · exact o _ (.head _)
      · exact o _ (.tail _ (.head _))
      · exact ⟨Nat.ne_of_gt (hD2 _ (.head _)), Nat.ne_of_gt (hD2 _ (.tail _ (.head _))), Nat.ne_of_gt (hD2 _ (.tail _ (.tail _ (.head _))))⟩
      · exact o p (.tail _ (.tail _ hp))
    · intro v hv
      rcases List.mem_append.mp hv with hv | hv
      · exact ((s4 v hv).upd hDR).1
      · rw [List.mem_singleton.mp hv]
        exact TU.new.1
    · rw [List.map_append, (TU.all (o := oT) s4 hDR).2, s5, List.range_succ, List.map_append]
      simp only [List.map_cons, List.map_nil]
      rw [(TU.new (R := R3) (t := tn) (u := t)).2, Nat.zero_add]
  rintro g2 zs nw ⟨R3, f3, rfl, s1, s2, s3, s4, s5⟩ DU h12 tk12 F12 N12 off12
  rw [Nat.sub_zero, hul] at s5
  have hzl : zs.length = ns.length := by have := congrArg List.length s5; simpa using this
  have y3 : (fun z : Str => if z = "due" then some (Value.ref DU) else m10 z) "due" = some (.ref DU) := if_pos rfl
  have y4 : (fun z : Str => if z = "due" then some (Value.ref DU) else m10 z) "heap" = some (.ref H) := (if_neg (by decide)).trans y1
  generalize (fun z : Str => if z = "due" then some (Value.ref DU) else m10 z) = m12 at F12 y3 y4
  have hR3 : ∀ p ∈ R3, p ∈ (DU, lst zs) :: (H, W.listOf vs'.toArray ys.length) :: (T, W.listOf vsT.toArray nT) :: R3 := fun p hp => .tail _ (.tail _ (.tail _ hp))
  refine wpAny_execs_cons (wpAny_Return_some (wpAny_IfExp (wpAny_isTrue_Compare1 (Call_ (C'.bltX F12 rfl boot_sorted (by decide) (PyProof.Rows.callWith_builtin1 (args_cons (qldX F12 y4 (args_nil (qsortT (s := s) (h := h12) (tk := tk12) (vs := vs') (n := ys.length) (f := f3) F12 N12 (.tail _ (.head _)) rfl (fun v hv => (s2 v hv).mono hR3) (by omega) ?_))))))))))
  intro S1 h13 us1 e1 F13 N13 hS1 hp1 hs1
  refine Call_ (C'.bltX F13 rfl boot_sorted (by decide) (PyProof.Rows.callWith_builtin1 (args_cons (qldX F13 y3 (args_nil (qsortT (vs := zs) (n := zs.length) (f := f3) F13 N13 (.tail _ (.head _)) rfl (fun v hv => (s4 v hv).mono fun p hp => .tail _ (hR3 p hp)) (by omega) ?_))))))
  intro S2 h14 us2 e2 F14 N14 hS2 hp2 hs2
  have hR4 : ∀ p ∈ R3, p ∈ (S2, W.listOf us2.toArray e2) :: (S1, W.listOf us1.toArray e1) :: (DU, lst zs) :: (H, W.listOf vs'.toArray ys.length) :: (T, W.listOf vsT.toArray nT) :: R3 := fun p hp => .tail _ (.tail _ (hR3 p hp))
  have hkeys : (vs'.map (kv f3)).Perm (zs.map (kv f3)) := by rw [s3, s5]; exact p6
  refine qeqT (vs := us1) (n := e1) (us := us2) (k := e2) (f := f3) N14 (.tail _ (.head _)) rfl (.head _) rfl (fun v hv => (s2 v (hp1.mem_iff.mp hv)).mono hR4) (fun v hv => (s4 v (hp2.mem_iff.mp hv)).mono hR4) (eq_sorted (((hp1.map _).trans hkeys).trans (hp2.map _).symm) hs1 hs2) ?_ (wpAny_truthy_bool ?_)
  · show A.units + 3 + 64 < cLine
    omega
  rw [if_pos rfl]
  refine wpAny_UnaryOp (Call_ (C'.bltX F14 rfl boot_sum (by decide) (PyProof.Rows.callWith_builtin1 (args_cons (ListComp_U F14 rfl (by decide) rfl (by decide) rfl (qldX F14 y4 ?_))))))
  refine src_list (its := vs') (k := ys.length) (fun j ws nw => nw = (S2, W.listOf us2.toArray e2) :: (S1, W.listOf us1.toArray e1) :: (DU, lst zs) :: (H, W.listOf vs'.toArray ys.length) :: (T, W.listOf vsT.toArray nT) :: R3 ∧ IntsAre ws ((vs'.take j).map fun v => (kv f3 v).1)) C'.hh F14 N14 (.tail _ (.tail _ (.tail _ (.head _)))) (by omega) ⟨rfl, .nil⟩ ?_ ?_ ?_
  · rintro j ws nw ⟨rfl, _⟩
    exact .tail _ (.tail _ (.tail _ (.head _)))
  · rintro j v I' oI' Cc oC D ws nw m₂ h15 tk15 hj hv ⟨rfl, hws⟩ hC hx F15 N15 off ne
    obtain ⟨a, ta, ua, rfl, hta⟩ := s2 v (List.mem_of_getElem? hv)
    refine Subscript_ (qce N15 (.tail _ (.head _)) hC hx (qint fun _ _ => (qt0 (p := kv f3 (.ref a)) (t := ta) (u := ua) N15 (.tail _ (.tail _ (.tail _ (hR4 _ hta)))) ?_)))
    refine ⟨h15, _, _, rfl, F15, N15, off, rfl, ?_⟩
    rw [List.take_add_one, hv, List.map_append]
    exact ints_snoc hws _ _
  rintro g3 ws nw ⟨rfl, hws⟩ D4 h15 tk15 F15 N15 off15
  rw [List.take_length] at hws
  refine args_nil (qsum (s := s) (h := h15) (tk := tk15) (vs := ws) (n := ws.length) C'.hh F15 N15 (.head _) rfl hws ?_)
  intro h16 tk16 t16 F16 N16
  refine qneg fun t17 tk17 => ?_
  have hval : -((vs'.map fun v => (kv f3 v).1).sum) = ((List.range ns.length).map fun k => left (ns.getD k 0) (tops.count (k : Int))).sum := by
    have e1 : (vs'.map fun v => (kv f3 v).1) = (vs'.map (kv f)).map (·.1) := by rw [← s3, List.map_map]; rfl
    rw [e1, perm_sumI (p6.map _)]
    unfold dueF
    rw [List.map_map]
    exact sum_neg _ _
  rw [hval]
  exact ⟨_, _, _, _, news, rfl, F16, news_sub N16 (fun p hp => .tail _ (hR4 _ (s1 _ (p2 _ (q3 p hp))))), fun Fh Nh => hq _ _ _ _ Fh Nh p9 p8⟩
end
end Mine
namespace Mine
open PySem.Calls
def ByHeap (ns : List Int) (t : Nat) (V : Int) : Prop := ∃ tops : List Int, Greedy ns tops ∧ tops.length = t ∧ V = ((List.range ns.length).map fun k => left (ns.getD k 0) (tops.count (k : Int))).sum
section
variable {prog : Program} {w : World} {A A₀ : Around} {E : Value → Shared → Prop} {S : Shared} {L l : Addr} {h₀ base : Heap} {m mg mb : Str → Option Value} {env : Env} {outer : List Env} {p : Program} {loose : List Str} {mean : ExcName → Option Value} {Q : Value → Shared → Prop} {vs : List Value} {news : List (Addr × Obj)} {n : Nat}
theorem bh_callK {k : Int} {tt : Tok} {ns : List Int} (B : Below A₀ base outer h₀) (F : Fr h₀ L S.heap m) (X : (KK w).In h₀) (N : News h₀ L S.heap news) (T : Top p loose mean mg mb h₀) (hA : A.frames = some (env :: outer)) (hf : env.frame = some L) (hke : env.scope.kind = .function) (hh : A.handled = none)
    (hd : A.depth + 10 < recursionLimit) (hu : A.units + 200 < cLine) (hm : (l, W.listOf vs.toArray n) ∈ news) (hU : IntsAre vs ns) (hlen : 1 ≤ ns.length ∧ ns.length ≤ 100) (hk : 0 ≤ k ∧ k < 100)
    (hq : ∀ V h' tk' t, Fr h₀ L h' m → News h₀ L h' news → ByHeap ns k.toNat V → Q (.int V t) { S with heap := h', toks := tk' }) :
    wpAny (model prog w) A (call (.ref 54) [.ref l, .int k tt]) Q E S := by
  have C : Cx (KK w) A env L h₀ := ⟨⟨A₀, base, outer, p, loose, mean, mg, mb, B, T, hA⟩, X, hf, hke, hh⟩
  obtain ⟨t, rfl⟩ := Int.eq_ofNat_of_zero_le hk.1
  exact bh_call (s := S) (h := S.heap) (tk := S.toks) (times := t) C F N hm hd hu hU hlen.1 hlen.2 (by omega) fun h' tk' t' tops F' N' G hl => hq _ h' tk' t' F' N' ⟨tops, G, hl, rfl⟩
theorem ls_callK {k : Int} {tt : Tok} {ns : List Int} {V : Int} (B : Below A₀ base outer h₀) (F : Fr h₀ L S.heap m) (X : (KK w).In h₀) (N : News h₀ L S.heap news) (T : Top p loose mean mg mb h₀) (hA : A.frames = some (env :: outer)) (hf : env.frame = some L) (hke : env.scope.kind = .function) (hh : A.handled = none)
    (hd : A.depth + 10 < recursionLimit) (hm : (l, W.listOf vs.toArray n) ∈ news) (hU : IntsAre vs ns) (hlen : 1 ≤ ns.length ∧ ns.length ≤ 100) (hk : 0 ≤ k ∧ k < 100) (hV : ByHeap ns k.toNat V) (hpos : ∀ p ∈ ns, 0 ≤ p)
    (hq : ∀ h' tk' t, Fr h₀ L h' m → News h₀ L h' news → Q (.int V t) { S with heap := h', toks := tk' }) :
    wpAny (model prog w) A (call (.ref 61) [.ref l, .int k tt]) Q E S := by
  have C : Cx (KK w) A env L h₀ := ⟨⟨A₀, base, outer, p, loose, mean, mg, mb, B, T, hA⟩, X, hf, hke, hh⟩
  obtain ⟨t, rfl⟩ := Int.eq_ofNat_of_zero_le hk.1
  obtain ⟨tops, G, hl, rfl⟩ := hV
  exact ls_call (s := S) (h := S.heap) (tk := S.toks) (times := t) C F N hm hd hU hlen.2 (by omega) fun h' tk' t' srt F' N' h1 h2 => by
    rw [Int.toNat_natCast] at hl
    rw [← law_least hpos G hl h1 h2]
    exact hq h' tk' t' F' N'
end
theorem pos_abs (l : List Int) : ∀ p ∈ l.map (fun k' => if k' < 0 then -k' else k') ++ [9, 6, 20], (0 : Int) ≤ p := by
  intro p hp
  rcases List.mem_append.mp hp with hp | hp
  · obtain ⟨k, _, rfl⟩ := List.mem_map.mp hp
    split <;> omega
  · simp only [List.mem_cons, List.not_mem_nil, or_false] at hp
    omega
local macro_rules | `(tactic| walk_at "call ref") => `(tactic| (k_here; (with_reducible show wpAny _ _ (call (Value.ref 61) _) _ _ _); k_dflt (refine' ls_callK ?k1 ?k2 ?k3 ?k4 ?k5 ?kA ?kF ?kK ?kH ?k6 ?k7 ?k8 ?k9 ?k10 ?k11 ?k12 ?_; (case kA => exact rfl); (case kF => exact rfl); (case kK => exact rfl); (case kH => exact rfl); (case k1 => k_asm); (case k2 => k_asm); (case k3 => k_asm); (case k4 => k_asm); (case k5 => k_asm); (case k6 => (simp only [depth_deeper, depth_caller]; decide)); (case k7 => k_mem); (case k8 => l_ints); (case k9 => (simp only [List.length_map, List.length_append, List.length_cons, List.length_nil, List.length_take, List.length_drop]; omega)); (case k10 => l_fact); (case k11 => assumption); (case k12 => exact pos_abs _); k_whole); intro h' tk' t' F' N'; (try k_sweep)))
local macro_rules | `(tactic| walk_at "call ref") => `(tactic| (k_here; (with_reducible show wpAny _ _ (call (Value.ref 54) _) _ _ _); k_dflt (refine' bh_callK ?k1 ?k2 ?k3 ?k4 ?k5 ?kA ?kF ?kK ?kH ?k6 ?kU ?k7 ?k8 ?k9 ?k10 ?_; (case kA => exact rfl); (case kF => exact rfl); (case kK => exact rfl); (case kH => exact rfl); (case k1 => k_asm); (case k2 => k_asm); (case k3 => k_asm); (case k4 => k_asm); (case k5 => k_asm); (case k6 => (simp only [depth_deeper, depth_caller]; decide)); (case kU => first | k_units | cb_units); (case k7 => k_mem); (case k8 => l_ints); (case k9 => (simp only [List.length_map, List.length_append, List.length_cons, List.length_nil, List.length_take, List.length_drop]; omega)); (case k10 => l_fact); k_whole); intro V' h' tk' t' F' N' hV'; (try k_sweep)))
set_option maxHeartbeats 8000000 in
theorem law_holds : PySem.Challenge.rw_mj0019_02.Holds := hd (by w_strict k_go)
end Mine
theorem PySem.Challenge.cw_mj0019_02_holds : PySem.Challenge.rw_mj0019_02.Holds := by
  exact Mine.law_holds
