import PyProof.Rows.All
import Wide.All
import OpenK.AllK
import Wide.FinOn
import Lean
import PySem.Challenge.RW_gd0004_01
set_option Elab.async false
set_option maxRecDepth 100000
set_option maxHeartbeats 8000000
set_option linter.unusedVariables false
open PySem PySem.W PyProof.Rows PySem.Calls PySem.Spec
namespace Mine
open_top hd for PySem.Challenge.rw_gd0004_01
end Mine
open PySem PySem.W PyProof.Rows PySem.Calls PySem.Spec
namespace Mine
/-- a goal at which the walk is to stop -/
def Parked (P : Prop) : Prop := P
theorem park {P : Prop} (h : Parked P) : P := h
theorem parked {P : Prop} (h : P) : Parked P := h

section
variable {prog : Program} {w : World} {A : Around} {E : Value → Shared → Prop} {Q : Flow → Shared → Prop} {s : Shared} {env : Env} {h₀ : Heap} {L : Addr}
/-- the end of a turn of a while that turns one int -/
def W1Post (h₀ : Heap) (L : Addr) (s : Shared) (x : Str) (m₀ : Str → Option Value) (news : List (Addr × Obj)) (P : Int → Prop) (μ : Int → Nat) (k : Int) (f : Flow) (s₃ : Shared) : Prop :=
  f = .next ∧ ∃ h' tk' k' t', s₃ = { s with heap := h', toks := tk' } ∧ Fr h₀ L h' (fun y => if y = x then some (.int k' t') else m₀ y) ∧ News h₀ L h' news ∧ P k' ∧ μ k' < μ k

theorem map_over {x : Str} {v v' : Option Value} {m : Str → Option Value} : (fun y => if y = x then v else if y = x then v' else m y) = fun y => if y = x then v else m y := by
  funext y; by_cases h : y = x <;> simp [h]
theorem fr_over {h : Heap} {x : Str} {v v' : Option Value} {m : Str → Option Value} (F : Fr h₀ L h (fun y => if y = x then v else if y = x then v' else m y)) : Fr h₀ L h (fun y => if y = x then v else m y) := by
  rw [← map_over (v' := v')]; exact F
theorem fr_same {h : Heap} {x : Str} {v : Value} {m : Str → Option Value} (hx : m x = some v) (F : Fr h₀ L h m) : Fr h₀ L h (fun y => if y = x then some v else m y) := by
  have e : (fun y => if y = x then some v else m y) = m := by
    funext y; by_cases h : y = x <;> simp [h, hx]
  rw [e]; exact F

def W1Out (h₀ : Heap) (L : Addr) (s : Shared) (x : Str) (m₀ : Str → Option Value) (news : List (Addr × Obj)) (X : Int → Prop) (k : Int) (s₂ : Shared) : Prop :=
  ∃ h' tk' t', s₂ = { s with heap := h', toks := tk' } ∧ Fr h₀ L h' (fun y => if y = x then some (.int k t') else m₀ y) ∧ News h₀ L h' news ∧ X k
theorem w1_out {x : Str} {m₀ : Str → Option Value} {news : List (Addr × Obj)} {X : Int → Prop} {k : Int} {h' : Heap} {tk' : Nat} {t' : Tok} (F : Fr h₀ L h' (fun y => if y = x then some (.int k t') else m₀ y)) (N : News h₀ L h' news) (hX : X k) :
    W1Out h₀ L s x m₀ news X k { s with heap := h', toks := tk' } := ⟨h', tk', t', rfl, F, N, hX⟩
theorem w1_post {x : Str} {m₀ : Str → Option Value} {news : List (Addr × Obj)} {P : Int → Prop} {μ : Int → Nat} {k k' : Int} {h' : Heap} {tk' : Nat} {t' : Tok} {v : Option Value} (F : Fr h₀ L h' (fun y => if y = x then some (.int k' t') else if y = x then v else m₀ y)) (N : News h₀ L h' news) (hP : P k') (hm : μ k' < μ k) :
    W1Post h₀ L s x m₀ news P μ k .next { s with heap := h', toks := tk' } := ⟨rfl, h', tk', k', t', rfl, fr_over F, N, hP, hm⟩

theorem w1_postF {x : Str} {m₀ : Str → Option Value} {news : List (Addr × Obj)} {P : Int → Prop} {μ : Int → Nat} {k k' : Int} {h' : Heap} {tk' : Nat} {t' : Tok} (F : Fr h₀ L h' (fun y => if y = x then some (.int k' t') else m₀ y)) (N : News h₀ L h' news) (hP : P k') (hm : μ k' < μ k) :
    W1Post h₀ L s x m₀ news P μ k .next { s with heap := h', toks := tk' } := ⟨rfl, h', tk', k', t', rfl, F, N, hP, hm⟩

theorem while1 {test : Expr} {body : List Stmt} {pos : Pos} {x : Str} {k₀ : Int} {t₀ : Tok} {m₀ : Str → Option Value} {news : List (Addr × Obj)} (P X : Int → Prop) (μ : Int → Nat) (F : Fr h₀ L s.heap m₀) (N : News h₀ L s.heap news)
    (hx : m₀ x = some (.int k₀ t₀)) (hp : P k₀)
    (turn : ∀ k t h tk, P k → Fr h₀ L h (fun y => if y = x then some (.int k t) else m₀ y) → News h₀ L h news →
      wpAny (model prog w) A (isTrue test env (eval test env)) (fun b s₂ =>
        if b = true then wpAny (model prog w) A (execs body env) (W1Post h₀ L s x m₀ news P μ k) E s₂ else W1Out h₀ L s x m₀ news X k s₂) E { s with heap := h, toks := tk })
    (done : ∀ k t h tk, X k → Fr h₀ L h (fun y => if y = x then some (.int k t) else m₀ y) → News h₀ L h news → Q .next { s with heap := h, toks := tk })
    (hE : PassesOwn (model prog w) A env E := by passes_own) :
    wpAny (model prog w) A (exec (.While test body [] pos) env) Q E s := by
  refine While_inv (h₀ := h₀) (L := L) (news := news) (n₀ := μ k₀) (fun n m nx => nx = news ∧ ∃ k t, m = (fun y => if y = x then some (.int k t) else m₀ y) ∧ P k ∧ μ k = n) (fr_same hx F) N ⟨rfl, k₀, t₀, rfl, hp, rfl⟩ ?_ hE
  rintro n m₁ nx h₁ tk₁ F₁ N₁ ⟨rfl, k, t, rfl, hP, rfl⟩
  refine wpAny_mono (turn k t h₁ tk₁ hP F₁ N₁) (fun b s₂ h₂ => ?_) fun _ _ e => e
  cases b with
  | false =>
    simp only [Bool.false_eq_true, if_false] at h₂ ⊢
    obtain ⟨h', tk', t', rfl, F', N', hX⟩ := h₂
    exact done k t' h' tk' hX F' N'
  | true =>
    simp only [if_true] at h₂ ⊢
    refine wpAny_mono h₂ (fun f s₃ h₃ => ?_) fun _ _ e => e
    obtain ⟨rfl, h', tk', k', t', rfl, F', N', hP', hlt⟩ := h₃
    exact ⟨rfl, h', tk', _, nx, μ k', rfl, F', N', hlt, rfl, k', t', rfl, hP', rfl⟩
end

/-- what a call of a def gives back: old objects stay, nothing but the heap and the tokens turns -/
def Ret (s : Shared) (R : Heap → Value → Heap → Prop) (v : Value) (s' : Shared) : Prop :=
  ∃ h' tk', s' = { s with heap := h', toks := tk' } ∧ (∀ b o, s.heap.get? b = some o → h'.get? b = some o) ∧ R s.heap v h'

/-- the contract of a def: from any state that holds the top -/
def PureC (prog : Program) (w : World) (K : Frag) (d u : Nat) (f : Addr) (vs : List Value) (R : Heap → Value → Heap → Prop) : Prop :=
  ∀ (s : Shared) (dp un : Nat) (fr : Option (List Env)) (gd : Option (List Code)) (p : Program) (loose : List Str) (mean : ExcName → Option Value) (mg mb : Str → Option Value),
    K.In s.heap → Top p loose mean mg mb s.heap → dp + d < recursionLimit → un + u < cLine →
    wpAny (model prog w) { handled := none, depth := dp, frames := fr, guards := gd, units := un } (call (.ref f) vs) (Ret s R) (fun _ _ => False) s

section
variable {prog : Program} {w : World} {A : Around} {E : Value → Shared → Prop} {s : Shared} {K : Frag} {h₀ : Heap} {L : Addr} {m : Str → Option Value} {news : List (Addr × Obj)} {f : Addr} {vs : List Value} {R : Heap → Value → Heap → Prop}
  {p : Program} {loose : List Str} {mean : ExcName → Option Value} {mg mb : Str → Option Value}
theorem fr_grown {h h' : Heap} (F : Fr h₀ L h m) (hk : ∀ b o, h.get? b = some o → h'.get? b = some o) : Fr h₀ L h' m :=
  ⟨F.ns.keeps hk, fun b o e => hk _ _ (F.keep b o e), F.above⟩
theorem news_grown {h h' : Heap} (N : News h₀ L h news) (hk : ∀ b o, h.get? b = some o → h'.get? b = some o) : News h₀ L h' news :=
  fun p hp => ⟨hk _ _ (N p hp).1, (N p hp).2⟩

theorem use_pure {d u : Nat} {Q : Value → Shared → Prop} (C : PureC prog w K d u f vs R) (F : Fr h₀ L s.heap m) (N : News h₀ L s.heap news) (X : K.In h₀) (T : Top p loose mean mg mb h₀)
    (hh : A.handled = none) (hd : A.depth + d < recursionLimit) (hu : A.units + u < cLine)
    (h : ∀ v h' tk', R s.heap v h' → (∀ b o, s.heap.get? b = some o → h'.get? b = some o) → Fr h₀ L h' m → News h₀ L h' news → Q v { s with heap := h', toks := tk' }) : wpAny (model prog w) A (call (.ref f) vs) Q E s := by
  obtain ⟨hd0, dp, fr, gd, un⟩ := A
  obtain rfl : hd0 = none := hh
  refine wpAny_mono (C s dp un fr gd p loose mean mg mb (X.keeps F.keep) (T.keeps F.keep) hd hu) ?_ (fun _ _ x => x.elim)
  rintro v _ ⟨h', tk', rfl, hk, hr⟩
  exact h v h' tk' hr hk (fr_grown F hk) (news_grown N hk)

theorem enterP {name qual : Str} {params : Arguments} {body : List Stmt} {scope : Scope} {dV kV doc pm cdv ct oc : Value} {an od : Option Addr} {osl : Array (Option Value)} {args : List Value} {binds : List (Str × Value)}
    (X : K.In s.heap) (T : Top p loose mean mg mb s.heap) (hroom : A.depth < recursionLimit)
    (ho : K.lookup f = some ⟨oc, od, .func (fnOf name qual params body scope dV kV doc pm an cdv ct), osl⟩) (hcd : codeIn K cdv qual = true)
    (hbind : BindsTo s (fnOf name qual params body scope dV kV doc pm an cdv ct) ⟨args, []⟩ binds) (hloc : ∀ y ∈ binds, scope.names.lookup y.1 = some .local)
    (h : ∀ g L' h₁ tk, g = s.heap → K.In g → Top p loose mean mg mb g → Fr g L' h₁ (fun y => binds.reverse.lookup y) → News g L' h₁ [] →
      wpAny (model prog w) (A.deeper (envOf qual scope L' f cdv)) (execs body (envOf qual scope L' f cdv)) (fun fl s' => Ret s R (match fl with | .ret v => v | _ => .none) s') (fun _ _ => False) { s with heap := h₁, toks := tk })
    (hco : scope.isCoroutine = false) (hgen : scope.isGenerator = false) (hk : scope.kind = .function) (hcell : ∀ x ∈ scope.names, x.2 ≠ .cell) :
    wpAny (model prog w) A (call (.ref f) args) (Ret s R) (fun _ _ => False) s := by
  refine wpAny_call ?_
  refine codeAny_call_def (fd := fnOf name qual params body scope dV kV doc pm an cdv ct) (body := body) (binds := binds) hroom (X _ _ ho) rfl T.nolimit (codeRec_of X hcd) rfl hbind hcell hloc (fun h₁ hns hk₁ => ?_) hco hgen hk
  exact wpAny_mono (h s.heap s.heap.objs.size h₁ _ rfl X T ⟨hns, hk₁, Nat.le_refl _⟩ News.nil) (fun _ _ x => x) fun _ _ x => x.elim

theorem ret_of {v : Value} {h' : Heap} {tk' : Nat} {g : Heap} {L' : Addr} {m' : Str → Option Value} (e : g = s.heap) (F : Fr g L' h' m') (hr : R s.heap v h') : Ret s R v { s with heap := h', toks := tk' } :=
  ⟨h', tk', rfl, fun b o q => F.keep b o (e ▸ q), hr⟩
end
theorem is_int {x y : Int} {t : Tok} (e : x = y) : ∃ t', Value.int x t = .int y t' := ⟨t, by rw [e]⟩
theorem is_str {x y : Str} {t : Tok} (e : x = y) : ∃ t', Value.str x t = .str y t' := ⟨t, by rw [e]⟩

section
variable {M : Model} {A : Around} {E : Value → Shared → Prop} {Q : Flow → Shared → Prop} {env : Env}
/-- behind some statements: the word, or the way out -/
def CutPost (J : Shared → Prop) (Q : Flow → Shared → Prop) (f : Flow) (s' : Shared) : Prop :=
  match f with
  | .next => J s'
  | f => Q f s'
theorem cut_next {J : Shared → Prop} {s : Shared} (h : J s) : CutPost J Q .next s := h
theorem cut_ret {J : Shared → Prop} {v : Value} {s : Shared} (h : Q (.ret v) s) : CutPost J Q (.ret v) s := h
theorem cut_wp (J : Shared → Prop) {Γ : PySem.Ctx} (hΓ : Γ.In A) : ∀ (n : Nat) (l : List Stmt) (p : Pos) (s : Shared), Sem.wp M Γ (execs (l.take n) env) (fun f _ s' => CutPost J Q f s') (fun e _ s' => E e s') p s →
    (∀ s', J s' → wpAny M A (execs (l.drop n) env) Q E s') → Sem.wp M Γ (execs l env) (fun f _ s' => Q f s') (fun e _ s' => E e s') p s
  | 0, l, p, s, h1, h2 => h2 s h1 Γ p hΓ
  | n + 1, [], p, s, h1, h2 => h2 s h1 Γ p hΓ
  | n + 1, st :: l, p, s, h1, h2 => by
    rw [List.take_succ_cons, execs_cons, Sem.wp_bind'] at h1
    rw [execs_cons, Sem.wp_bind']
    refine Sem.wp_mono M Γ _ (fun f p' s' h' => ?_) (fun _ _ _ h' => h') _ _ h1
    cases f with
    | next => exact cut_wp J hΓ n l p' s' h' h2
    | cont => exact h'
    | brk => exact h'
    | ret v => exact h'
theorem execs_cut (n : Nat) (J : Shared → Prop) {l : List Stmt} {s : Shared} (h1 : wpAny M A (execs (l.take n) env) (CutPost J Q) E s) (h2 : ∀ s', J s' → wpAny M A (execs (l.drop n) env) Q E s') : wpAny M A (execs l env) Q E s :=
  fun Γ p hΓ => cut_wp J hΓ n l p s (h1 Γ p hΓ) h2
end
/-- the frame by what it says of some names -/
theorem fr_says {h₀ h : Heap} {L : Addr} {m : Str → Option Value} (ps : List (Str × Value)) (F : Fr h₀ L h m) (hk : ∀ p ∈ ps, m p.1 = some p.2) : Fr h₀ L h (kstB m ps) := by
  have e : kstB m ps = m := funext fun z => kstB_eq hk fun _ => rfl
  rw [e]; exact F

section
variable {prog : Program} {w : World} {A : Around} {E : Value → Shared → Prop} {s : Shared} {h₀ : Heap} {L : Addr} {m : Str → Option Value} {news : List (Addr × Obj)}
/-- list(range(a, b, c)) as an object of the ledger -/
theorem list_range_led {r : Addr} {a b c : Int} {t u v : Tok} {n : Nat} {Q : Value → Shared → Prop} (hh : A.handled = none) (F : Fr h₀ L s.heap m) (N : News h₀ L s.heap news)
    (hr : IsRange s.heap r a b c t u v) (hsmall : Builtin.Range.small a b c = true) (hn : Builtin.Range.rangeSize a b c = (n : Int)) (hlen : n ≤ 2 ^ 24)
    (h : ∀ D h' tk vals ep, Fr h₀ L h' m → News h₀ L h' ((D, listOf vals.toArray ep) :: news) → IntsAre vals (rangeInts a c n) → Q (.ref D) { s with heap := h', toks := tk }) :
    wpAny (model prog w) A (call (.type "list") [.ref r]) Q E s := by
  refine list_rangeD hh F N hr hsmall hn hlen fun h' tk ys F' N' hk hnone hl hp hc => ?_
  obtain ⟨ep, N₂⟩ := made_enters hp F' N' hnone
  exact h _ h' tk ys ep F' N₂ (by simpa using CarriedAll.intsOf (f := fun x : Int => x) (by simpa using hc))
end

/-- the made tuple of two ints -/
def IsPair (a b : Int) (h : Heap) (v : Value) (h' : Heap) : Prop := ∃ D t1 t2, v = .ref D ∧ h.get? D = none ∧ h'.get? D = some { cls := .type "tuple", data := .seq #[.int a t1, .int b t2] }
/-- the made list of texts -/
def IsTexts (ws : List Str) (h : Heap) (v : Value) (h' : Heap) : Prop := ∃ D vals n, v = .ref D ∧ h.get? D = none ∧ h'.get? D = some (listOf vals.toArray n) ∧ StrsAre vals ws
end Mine
open PySem PyProof.Rows
namespace Mine
/-- the common head struck off both -/
def trim : List Nat → List Nat → List Nat × List Nat
  | x :: xs, y :: ys => if x = y then trim xs ys else (x :: xs, y :: ys)
  | xs, ys => (xs, ys)
def cst (c d : Nat) : Int := if c = d then 0 else 2
/-- one row of the table -/
def inn (c : Nat) : List Nat → List Int → Int → Int → Int → List Int × Int × Int
  | d :: ds, r :: rs, dist, res, mn =>
    let res' := min (min res r + 2) (dist + cst c d)
    let t := inn c ds rs r res' (if res' < mn then res' else mn)
    (res' :: t.1, t.2)
  | _, _, _, res, mn => ([], res, mn)
/-- the rows -/
def out (mc : Int) (a : List Nat) : List Nat → Int → List Int → Int → Int
  | [], _, _, res => res
  | c :: cs, i, row, _ =>
    let t := inn c a row (i * 2) (i * 2) 9223372036854775807
    if t.2.2 > mc then mc + 1 else out mc a cs (i + 1) t.1 t.2.1
def row0 (n : Nat) : List Int := (List.range n).map fun (i : Nat) => 2 * ((i : Int) + 1)
def levC (a b : List Nat) : Int := out 1000 a b 0 (row0 a.length) 0
def levL (a b : List Nat) : Int :=
  if a = b then 0 else
  let p := trim a b
  let q := trim p.1.reverse p.2.reverse
  let x := q.1.reverse
  let y := q.2.reverse
  if x = [] ∨ y = [] then 2 * ((x.length : Int) + y.length)
  else if y.length < x.length then levC y x else levC x y

abbrev lst (x : Str) : List Nat := x.cps.toList
theorem lst_len (x : Str) : (lst x).length = x.length := by simp [Str.length, lst]
theorem lst_inj {x y : Str} (h : lst x = lst y) : x = y := by
  cases x; cases y; simp [lst] at h; rw [h]
theorem lst_mk (l : List Nat) : lst ⟨l.toArray⟩ = l := by simp [lst]
/-- brackets alone -/
def Br (x : Str) : Prop := ∀ c ∈ lst x, c = 40 ∨ c = 41

theorem slice_from {x : Str} {k : Int} (h0 : 0 ≤ k) (h : k ≤ x.length) : lst (Txt.slice x (some k) none) = (lst x).drop k.toNat := by
  show lst (StrLaws.sliceText x (some k) none) = _
  have hl := lst_len x
  rw [StrLaws.sliceText_from ⟨h0, by show k ≤ ((lst x).length : Int); omega⟩, lst_mk]
  have e : ((x.cps.toList.length : Int) - k).toNat = ((lst x).drop k.toNat).length := by rw [List.length_drop]; show (((lst x).length : Int) - k).toNat = _; omega
  rw [e, List.take_length]
theorem slice_all (x : Str) : Txt.slice x none none = x := by
  show StrLaws.sliceText x none none = x
  have e : StrLaws.sliceText x none none = StrLaws.sliceText x (some (0 : Int)) none := by unfold StrLaws.sliceText; rw [StrLaws.sliceIdx_none_lo]
  rw [e]
  refine lst_inj ?_
  have h : lst (Txt.slice x (some 0) none) = _ := slice_from (x := x) (k := 0) (Int.le_refl 0) (Int.natCast_nonneg _)
  exact h
theorem slice_to {x : Str} {k : Int} (h0 : 0 ≤ k) (h : k ≤ x.length) : lst (Txt.slice x none (some k)) = (lst x).take k.toNat := by
  show lst (StrLaws.sliceText x none (some k)) = _
  have hl := lst_len x
  rw [StrLaws.sliceText_to ⟨h0, by show k ≤ ((lst x).length : Int); omega⟩, lst_mk]
  simp
theorem slice_neg {x : Str} {k : Int} (h0 : k < 0) (h : -(x.length : Int) ≤ k) : lst (Txt.slice x none (some k)) = (lst x).take ((x.length : Int) + k).toNat := by
  have e : Builtin.Str.strSliceIndices none (some k) 1 x.length = Builtin.Str.strSliceIndices none (some ((x.length : Int) + k)) 1 x.length := by
    have a : ¬ ((x.length : Int) + k < 0) := by omega
    have b : k + (x.length : Int) = (x.length : Int) + k := by omega
    simp [Builtin.Str.strSliceIndices, h0, a, b]
  have e' : Txt.slice x none (some k) = Txt.slice x none (some ((x.length : Int) + k)) := by unfold Txt.slice; rw [e]
  rw [e']
  exact slice_to (by omega) (by omega)

theorem char_pos {x : Str} {k : Int} (h0 : 0 ≤ k) (h : k < x.length) : Txt.item x k = ⟨#[(lst x)[k.toNat]'(by rw [lst_len]; omega)]⟩ := by
  have hs : k.toNat < x.cps.size := by show k.toNat < x.length; omega
  unfold Txt.item Txt.charAt
  rw [StrLaws.seqIndex_nonneg h0 h]
  simp [hs, lst]
theorem char_neg {x : Str} {k : Int} (h0 : k < 0) (h : -(x.length : Int) ≤ k) : Txt.item x k = ⟨#[(lst x)[((x.length : Int) + k).toNat]'(by rw [lst_len]; omega)]⟩ := by
  have hs : (k + (x.length : Int)).toNat < x.cps.size := by show _ < x.length; omega
  have e : ((x.length : Int) + k).toNat = (k + (x.length : Int)).toNat := by omega
  unfold Txt.item Txt.charAt
  rw [StrLaws.seqIndex_neg h0 h]
  simp [hs, lst, e]
theorem one_inj {c d : Nat} (h : (⟨#[c]⟩ : Str) = ⟨#[d]⟩) : c = d := by
  have := congrArg lst h
  simpa [lst] using this

theorem trim_step {la lb : List Nat} {k : Nat} (ha : k < la.length) (hb : k < lb.length) (e : la[k] = lb[k]) : trim (la.drop k) (lb.drop k) = trim (la.drop (k + 1)) (lb.drop (k + 1)) := by
  rw [List.drop_eq_getElem_cons ha, List.drop_eq_getElem_cons hb, trim, if_pos e]
theorem trim_stop {la lb : List Nat} {k : Nat} (h : k = la.length ∨ k = lb.length ∨ ∃ (ha : k < la.length) (hb : k < lb.length), la[k] ≠ lb[k]) : trim (la.drop k) (lb.drop k) = (la.drop k, lb.drop k) := by
  rcases h with rfl | rfl | ⟨ha, hb, e⟩
  · rw [List.drop_length]; unfold trim; rfl
  · rw [List.drop_length]
    cases la.drop lb.length <;> (unfold trim; rfl)
  · rw [List.drop_eq_getElem_cons ha, List.drop_eq_getElem_cons hb, trim, if_neg e]

/-- the first while's word -/
def Pre1 (a b : Str) (k : Int) : Prop := 0 ≤ k ∧ k ≤ a.length ∧ k ≤ b.length ∧ trim ((lst a).drop k.toNat) ((lst b).drop k.toNat) = trim (lst a) (lst b)
def Out1 (a b : Str) (k : Int) : Prop := 0 ≤ k ∧ k ≤ a.length ∧ k ≤ b.length ∧ lst (Txt.slice a (some k) none) = (trim (lst a) (lst b)).1 ∧ lst (Txt.slice b (some k) none) = (trim (lst a) (lst b)).2
theorem pre1_zero (a b : Str) : Pre1 a b 0 := ⟨Int.le_refl _, Int.natCast_nonneg _, Int.natCast_nonneg _, rfl⟩
theorem pre1_step {a b : Str} {k : Int} (P : Pre1 a b k) (ha : k < a.length) (hb : k < b.length) (e : Txt.item a k = Txt.item b k) : Pre1 a b (k + 1) := by
  obtain ⟨h0, h1, h2, h3⟩ := P
  refine ⟨by omega, by omega, by omega, ?_⟩
  rw [char_pos h0 ha, char_pos h0 hb] at e
  have s := trim_step (la := lst a) (lb := lst b) (k := k.toNat) (by rw [lst_len]; omega) (by rw [lst_len]; omega) (one_inj e)
  have ek : (k + 1).toNat = k.toNat + 1 := by omega
  rw [ek, ← s, h3]
theorem pre1_out {a b : Str} {k : Int} (P : Pre1 a b k) (h : k = a.length ∨ k = b.length ∨ (k < a.length ∧ k < b.length ∧ Txt.item a k ≠ Txt.item b k)) : Out1 a b k := by
  obtain ⟨h0, h1, h2, h3⟩ := P
  have hla := lst_len a
  have hlb := lst_len b
  have s := trim_stop (la := lst a) (lb := lst b) (k := k.toNat) (by
    rcases h with h | h | ⟨ha, hb, h⟩
    · left; omega
    · right; left; omega
    · right; right
      refine ⟨by omega, by omega, fun e => h ?_⟩
      rw [char_pos h0 ha, char_pos h0 hb, e])
  rw [h3] at s
  exact ⟨h0, h1, h2, by rw [s]; exact slice_from h0 h1, by rw [s]; exact slice_from h0 h2⟩

/-- the second while's word -/
def Pre2 (a b : Str) (k : Int) : Prop := k ≤ 0 ∧ -k ≤ a.length ∧ -k ≤ b.length ∧ trim ((lst a).reverse.drop (-k).toNat) ((lst b).reverse.drop (-k).toNat) = trim (lst a).reverse (lst b).reverse
def cutTo (a : Str) (k : Int) : List Nat := (lst a).take ((a.length : Int) + k).toNat
def Out2 (a b : Str) (k : Int) : Prop := k ≤ 0 ∧ -k ≤ a.length ∧ -k ≤ b.length ∧ cutTo a k = (trim (lst a).reverse (lst b).reverse).1.reverse ∧ cutTo b k = (trim (lst a).reverse (lst b).reverse).2.reverse
theorem pre2_zero (a b : Str) : Pre2 a b 0 := ⟨Int.le_refl _, Int.natCast_nonneg _, Int.natCast_nonneg _, rfl⟩
theorem char_rev {x : Str} {k : Int} (h0 : k ≤ 0) (h : -k < x.length) : Txt.item x (k - 1) = ⟨#[(lst x).reverse[(-k).toNat]'(by rw [List.length_reverse, lst_len]; omega)]⟩ := by
  rw [char_neg (by omega) (by omega)]
  have hl := lst_len x
  have e : ((x.length : Int) + (k - 1)).toNat = (lst x).length - 1 - (-k).toNat := by omega
  simp only [List.getElem_reverse, e]
theorem pre2_step {a b : Str} {k : Int} (P : Pre2 a b k) (ha : -k < a.length) (hb : -k < b.length) (e : Txt.item a (k - 1) = Txt.item b (k - 1)) : Pre2 a b (k - 1) := by
  obtain ⟨h0, h1, h2, h3⟩ := P
  refine ⟨by omega, by omega, by omega, ?_⟩
  rw [char_rev h0 ha, char_rev h0 hb] at e
  have s := trim_step (la := (lst a).reverse) (lb := (lst b).reverse) (k := (-k).toNat) (by rw [List.length_reverse, lst_len]; omega) (by rw [List.length_reverse, lst_len]; omega) (one_inj e)
  have ek : (-(k - 1)).toNat = (-k).toNat + 1 := by omega
  rw [ek, ← s, h3]
theorem pre2_out {a b : Str} {k : Int} (P : Pre2 a b k) (h : -k = a.length ∨ -k = b.length ∨ (-k < a.length ∧ -k < b.length ∧ Txt.item a (k - 1) ≠ Txt.item b (k - 1))) : Out2 a b k := by
  obtain ⟨h0, h1, h2, h3⟩ := P
  have hla := lst_len a
  have hlb := lst_len b
  have s := trim_stop (la := (lst a).reverse) (lb := (lst b).reverse) (k := (-k).toNat) (by
    simp only [List.length_reverse]
    rcases h with h | h | ⟨ha, hb, h⟩
    · left; omega
    · right; left; omega
    · right; right
      refine ⟨by omega, by omega, fun e => h ?_⟩
      rw [char_rev h0 ha, char_rev h0 hb, e])
  rw [h3] at s
  refine ⟨h0, h1, h2, ?_, ?_⟩
  · rw [s]; unfold cutTo; rw [List.reverse_drop, List.reverse_reverse]
    simp only [List.length_reverse]
    congr 1; omega
  · rw [s]; unfold cutTo; rw [List.reverse_drop, List.reverse_reverse]
    simp only [List.length_reverse]
    congr 1; omega
theorem slice_neg_len {x : Str} {k : Int} (h0 : k ≤ 0) (h : -k ≤ x.length) : k ≠ 0 → ((Txt.slice x none (some k)).length : Int) = x.length + k := fun hk => by
  have e := slice_neg (x := x) (k := k) (by omega) (by omega)
  have l := congrArg List.length e
  rw [lst_len, List.length_take, lst_len] at l
  omega
theorem slice_neg_cut {x : Str} {k : Int} (h0 : k ≤ 0) (h : -k ≤ x.length) (hk : k ≠ 0) : lst (Txt.slice x none (some k)) = cutTo x k := slice_neg (by omega) (by omega)
theorem cut_zero (x : Str) : cutTo x 0 = lst x := by
  unfold cutTo
  have := lst_len x
  rw [show ((x.length : Int) + 0).toNat = (lst x).length by omega, List.take_length]
theorem fits_small {i : Int} (h1 : -1000 ≤ i) (h2 : i ≤ 1000) : fitsSsize i = true := by
  unfold fitsSsize
  rw [decide_eq_false (by omega), decide_eq_false (by omega)]
  rfl
theorem range_two (n : Nat) : Builtin.Range.rangeSize 2 (2 * ((n : Int) + 1)) 2 = (n : Int) := by
  unfold Builtin.Range.rangeSize
  rw [if_pos (by decide)]
  split <;> omega
theorem range_two_small {n : Nat} (h : n ≤ 1000) : Builtin.Range.small 2 (2 * ((n : Int) + 1)) 2 = true := by
  unfold Builtin.Range.small
  rw [range_two]
  unfold Builtin.Range.rangeFitsLong
  simp only [Bool.and_eq_true, Bool.or_eq_true, decide_eq_true_eq, beq_iff_eq, show (2 : Int) > 0 by decide, if_true]
  refine ⟨⟨⟨⟨⟨by omega, by omega⟩, by omega, by omega⟩, by omega, by omega⟩, by omega, by omega⟩, .inr ⟨by omega, by omega⟩⟩
theorem row0_is (n : Nat) : rangeInts 2 2 n = row0 n := by
  unfold rangeInts row0
  refine List.map_congr_left fun i _ => ?_
  omega

/-- the inner loop's word -/
def InnAt (c : Nat) (lx : List Nat) (total : List Int × Int × Int) (j : Nat) (row : List Int) (dist res mn : Int) : Prop :=
  row.length = lx.length ∧ (let t := inn c (lx.drop j) (row.drop j) dist res mn; (row.take j ++ t.1, t.2)) = total
theorem inn_zero {c : Nat} {lx : List Nat} {row : List Int} {dist res mn : Int} (h : row.length = lx.length) : InnAt c lx (inn c lx row dist res mn) 0 row dist res mn := ⟨h, by simp⟩
theorem inn_step {c : Nat} {lx : List Nat} {total : List Int × Int × Int} {j : Nat} {row : List Int} {dist res mn res' mn' : Int} (I : InnAt c lx total j row dist res mn) (hj : j < lx.length) (hr : res' = min (min res (row.getD j 0) + 2) (dist + cst c (lx.getD j 0)))
    (hm : mn' = if res' < mn then res' else mn) : InnAt c lx total (j + 1) (row.set j res') (row.getD j 0) res' mn' := by
  obtain ⟨hl, e⟩ := I
  have hjr : j < row.length := by omega
  refine ⟨by simpa using hl, ?_⟩
  rw [← e, List.drop_eq_getElem_cons hj, List.drop_eq_getElem_cons hjr]
  have e1 : row.getD j 0 = row[j] := by simp [List.getD, hjr]
  have e2 : lx.getD j 0 = lx[j] := by simp [List.getD, hj]
  rw [e1, e2] at hr
  rw [e1]
  simp only [inn]
  rw [← hr, ← hm]
  have e3 : (row.set j res').drop (j + 1) = row.drop (j + 1) := by
    rw [List.drop_set]; simp
  have e4 : (row.set j res').take (j + 1) = row.take j ++ [res'] := by
    rw [List.take_succ_eq_append_getElem (by simpa using hjr), List.getElem_set_self, List.take_set, List.set_eq_of_length_le (by rw [List.length_take]; omega)]
  rw [e3, e4]
  simp
theorem inn_done {c : Nat} {lx : List Nat} {total : List Int × Int × Int} {row : List Int} {dist res mn : Int} (I : InnAt c lx total lx.length row dist res mn) : total = (row, res, mn) := by
  obtain ⟨hl, e⟩ := I
  rw [← e, List.drop_length]
  simp only [inn]
  rw [List.append_nil, ← hl, List.take_length]
theorem inn_length {c : Nat} : ∀ {lx : List Nat} {row : List Int} {dist res mn : Int}, row.length = lx.length → (inn c lx row dist res mn).1.length = lx.length
  | [], _, _, _, _, _ => rfl
  | d :: ds, r :: rs, _, _, _, h => by simp only [inn, List.length_cons]; rw [inn_length (by simpa using h)]
  | d :: ds, [], _, _, _, h => by simp at h
/-- the outer loop's word -/
def OutAt (lx ly : List Nat) (v : Int) (i : Nat) (row : List Int) (res : Int) : Prop := row.length = lx.length ∧ out 1000 lx (ly.drop i) i row res = v
theorem out_step {lx ly : List Nat} {v : Int} {i : Nat} {row : List Int} {res : Int} (O : OutAt lx ly v i row res) (hi : i < ly.length) {row' : List Int} {res' mn : Int}
    (ht : inn (ly.getD i 0) lx row ((i : Int) * 2) ((i : Int) * 2) 9223372036854775807 = (row', res', mn)) :
    row'.length = lx.length ∧ (mn > 1000 → v = 1001) ∧ (¬ mn > 1000 → OutAt lx ly v (i + 1) row' res') := by
  obtain ⟨hl, e⟩ := O
  have e2 : ly.getD i 0 = ly[i] := by simp [List.getD, hi]
  rw [e2] at ht
  have hl' : row'.length = lx.length := by
    have := inn_length (c := ly[i]) (dist := (i : Int) * 2) (res := (i : Int) * 2) (mn := 9223372036854775807) hl
    rw [ht] at this; exact this
  rw [List.drop_eq_getElem_cons hi] at e
  simp only [out, ht] at e
  refine ⟨hl', fun h => ?_, fun h => ⟨hl', ?_⟩⟩
  · rw [if_pos h] at e; omega
  · rw [if_neg h] at e
    exact e
theorem out_done {lx ly : List Nat} {v : Int} {row : List Int} {res : Int} (O : OutAt lx ly v ly.length row res) : v = res := by
  obtain ⟨_, e⟩ := O
  rw [List.drop_length] at e
  simp only [out] at e
  exact e.symm
theorem trim_mem : ∀ (a b : List Nat) (c : Nat), (c ∈ (trim a b).1 → c ∈ a) ∧ (c ∈ (trim a b).2 → c ∈ b)
  | [], b, c => by unfold trim; exact ⟨id, id⟩
  | x :: xs, [], c => by unfold trim; exact ⟨id, id⟩
  | x :: xs, y :: ys, c => by
    unfold trim
    split
    · exact ⟨fun h => List.mem_cons_of_mem _ ((trim_mem xs ys c).1 h), fun h => List.mem_cons_of_mem _ ((trim_mem xs ys c).2 h)⟩
    · exact ⟨id, id⟩
def BrL (l : List Nat) : Prop := ∀ c ∈ l, c = 40 ∨ c = 41
theorem cut_mem {x : Str} {k : Int} {c : Nat} (h : c ∈ cutTo x k) : c ∈ lst x := List.mem_of_mem_take h
theorem range_one (n : Nat) : Builtin.Range.rangeSize 0 (n : Int) 1 = (n : Int) := by rw [rangeSize_nat]; omega
theorem cost_br : ∀ c d : Nat, (c = 40 ∨ c = 41) → (d = 40 ∨ d = 41) → (if (⟨#[c]⟩ : Str) = ⟨#[d]⟩ then (0 : Int) else if Txt.lower ⟨#[c]⟩ = Txt.lower ⟨#[d]⟩ then 1 else 2) = cst c d := by
  rintro c d (rfl | rfl) (rfl | rfl) <;> decide +kernel
theorem char_getD {x : Str} {k : Int} (h0 : 0 ≤ k) (h : k < x.length) : Txt.item x k = ⟨#[(lst x).getD k.toNat 0]⟩ ∧ (lst x).getD k.toNat 0 ∈ lst x := by
  have hk : k.toNat < (lst x).length := by rw [lst_len]; omega
  have e : (lst x).getD k.toNat 0 = (lst x)[k.toNat] := by
    rw [List.getD_eq_getElem?_getD, List.getElem?_eq_getElem hk, Option.getD_some]
  rw [char_pos h0 h, e]
  exact ⟨rfl, List.getElem_mem hk⟩
theorem cost_item {x y : Str} {i j : Int} (hx : BrL (lst x)) (hy : BrL (lst y)) (h0 : 0 ≤ i) (h1 : i < x.length) (h2 : 0 ≤ j) (h3 : j < y.length) :
    (if Txt.item x i = Txt.item y j then (0 : Int) else if Txt.lower (Txt.item x i) = Txt.lower (Txt.item y j) then 1 else 2) = cst ((lst x).getD i.toNat 0) ((lst y).getD j.toNat 0) := by
  obtain ⟨e1, m1⟩ := char_getD h0 h1
  obtain ⟨e2, m2⟩ := char_getD h2 h3
  rw [e1, e2]
  exact cost_br _ _ (hx _ m1) (hy _ m2)
theorem min_if (a b : Int) : (if b < a then b else a) = min a b := by
  by_cases h : b < a
  · rw [if_pos h]; omega
  · rw [if_neg h]; omega
theorem inn_step' {c : Nat} {lx : List Nat} {total : List Int × Int × Int} {j kk : Nat} {row : List Int} {dist res mn res' mn' : Int} (hkk : kk = j) (I : InnAt c lx total j row dist res mn) (hj : j < lx.length)
    (hr : res' = if dist + cst c (lx.getD kk 0) < (if row.getD kk 0 < res then row.getD kk 0 else res) + 2 then dist + cst c (lx.getD kk 0) else (if row.getD kk 0 < res then row.getD kk 0 else res) + 2)
    (hm : (mn' = res' ∧ res' < mn) ∨ (mn' = mn ∧ ¬ res' < mn)) : InnAt c lx total (j + 1) (row.set kk res') (row.getD kk 0) res' mn' := by
  subst hkk
  refine inn_step I hj (by rw [hr, min_if, min_if]) ?_
  rcases hm with ⟨e, h⟩ | ⟨e, h⟩
  · rw [e, if_pos h]
  · rw [e, if_neg h]
end Mine
open PySem PySem.W PyProof.Rows PySem.Calls PySem.Spec
namespace Mine
local macro_rules | `(tactic| k_room) => `(tactic| ((try simp only [recursionLimit, cLine_is, depth_deeper, units_deeper, depth_in1, units_in1, Around.in1_depth, Around.in1_units, Around.deeper_units] at *); (try dsimp only at *); omega))
local macro_rules | `(tactic| k_enter) => `(tactic| (k_dflt (refine' enterP ?kX ?kT ?hroom ?ho ?hcd ?hbind ?hloc ?h ?hco ?hgen ?hk ?hcell; (case kX => assumption); (case kT => assumption); (case ho => k_is); (case hcd => k_is); (case hroom => k_room); (case hbind => exact BindsTo.of_eq rfl); (case hcell => decide); (case hloc => exact locs rfl); (case hco => exact rfl); (case hgen => exact rfl); (case hk => exact rfl); k_whole; intro g L' h₁ tk hg X' T' F' N'; (try dsimp only); (try k_fold))))
section
theorem compTurn_last {elt : Expr} {gens : List Comprehension} {scope : Scope} {pos : Pos} {d : Nat} {target iter : Expr} {ifs : List Expr} (hg : gens[d]? = some ⟨target, iter, ifs, 0⟩) (hn : gens[d + 1]? = none) (it acc : Value) (env : Env) :
    compTurn (.ListComp elt gens scope pos) d it acc env = (standAt iter.pos >>= fun _ => pyNext it >>= fun r => match r with
      | none => pure (.done .next)
      | some v => letOwnedTupleGo target it v >>= fun _ => assign target env v >>= fun _ =>
        (forIn ifs true fun c r => if r = true then do let ok ← isTrue c env (eval c env); pure (ForInStep.yield ok) else pure (ForInStep.yield r)) >>= fun ok =>
        if ok = true then
          ((eval elt env >>= fun x => call (.builtin "list.append") [acc, x] >>= fun _ => pure ()) >>= fun _ => again (.compLoop (.ListComp elt gens scope pos) d it acc env))
        else again (.compLoop (.ListComp elt gens scope pos) d it acc env)) := by
  unfold compTurn
  simp only [hg, hn]
  rfl
theorem compTurn_more {elt : Expr} {gens : List Comprehension} {scope : Scope} {pos : Pos} {d : Nat} {target iter target' iter' : Expr} {ifs ifs' : List Expr} (hg : gens[d]? = some ⟨target, iter, ifs, 0⟩) (hn : gens[d + 1]? = some ⟨target', iter', ifs', 0⟩) (it acc : Value) (env : Env) :
    compTurn (.ListComp elt gens scope pos) d it acc env = (standAt iter.pos >>= fun _ => pyNext it >>= fun r => match r with
      | none => pure (.done .next)
      | some v => letOwnedTupleGo target it v >>= fun _ => assign target env v >>= fun _ =>
        (forIn ifs true fun c r => if r = true then do let ok ← isTrue c env (eval c env); pure (ForInStep.yield ok) else pure (ForInStep.yield r)) >>= fun ok =>
        if ok = true then
          (eval iter' env >>= fun x => standAt iter'.pos >>= fun _ => foldedSetIterable iter' env x >>= fun x => holding [x] (pyIter x) >>= fun y =>
            runOwn (.compStart (.ListComp elt gens scope pos) (d + 1) y acc env) env >>= fun _ => again (.compLoop (.ListComp elt gens scope pos) d it acc env))
        else again (.compLoop (.ListComp elt gens scope pos) d it acc env)) := by
  unfold compTurn
  simp only [hg, hn]
  rfl

variable {prog : Program} {w : World} {A : Around} {R : Result → Shared → Prop}
/-- what the body of a clause does behind its tests -/
def TurnLast (prog : Program) (w : World) (A : Around) (elt : Expr) (acc : Value) (env : Env) (K : Shared → Prop) (s : Shared) : Prop :=
  wpAny (model prog w) A (eval elt env) (fun x s₁ => wpAny (model prog w) A (call (.builtin "list.append") [acc, x]) (fun _ s₂ => K s₂) (fun _ _ => False) s₁) (fun _ _ => False) s
def TurnMore (prog : Program) (w : World) (A : Around) (e : Expr) (d : Nat) (iter' : Expr) (acc : Value) (env : Env) (K : Shared → Prop) (s : Shared) : Prop :=
  wpAny (model prog w) A (eval iter' env) (fun x s₁ => wpAny (model prog w) A (pyIter x) (fun y s₂ =>
    codeAny (model prog w) (A.mark none) (.compStart e (d + 1) y acc env) (fun r s₃ => match r with | .ok _ => K s₃ | .error _ => False) s₂) (fun _ _ => False) s₁) (fun _ _ => False) s
def TurnAll (prog : Program) (w : World) (A : Around) (target : Expr) (ifs : List Expr) (env : Env) (B : (Shared → Prop) → Shared → Prop) (it : Value) (fin : Shared → Prop) (K : Shared → Prop) (s : Shared) : Prop :=
  wpAny (model prog w) A (pyNext it) (fun r s₁ => match r with
    | none => fin s₁
    | some v => wpAny (model prog w) A (assign target env v) (fun _ s₂ =>
        wpAny (model prog w) A (forIn ifs true fun c r => if r = true then do let ok ← isTrue c env (eval c env); pure (ForInStep.yield ok) else pure (ForInStep.yield r)) (fun ok s₃ =>
          if ok = true then B K s₃ else K s₃) (fun _ _ => False) s₂) (fun _ _ => False) s₁) (fun _ _ => False) s

theorem loop_last {elt : Expr} {gens : List Comprehension} {scope : Scope} {pos : Pos} {d : Nat} {target iter : Expr} {ifs : List Expr} {it acc : Value} {env : Env} (hg : gens[d]? = some ⟨target, iter, ifs, 0⟩) (hn : gens[d + 1]? = none) (I : Nat → Shared → Prop)
    (turn : ∀ n s, I n s → TurnAll prog w A target ifs env (TurnLast prog w A elt acc env) it (R (.ok .next)) (fun s' => ∃ m, m < n ∧ I m s') s)
    (n : Nat) {s : Shared} (h : I n s) (ht : ∀ v, letOwnedTupleGo target it v = pure () := by intro _; rfl) :
    codeAny (model prog w) A (.compLoop (.ListComp elt gens scope pos) d it acc env) R s := by
  refine codeAny_loop rfl I (fun n s hI => ?_) n h
  show wpAny _ A ((compTurn (.ListComp elt gens scope pos) d it acc env).onRaise (fun x => do noteFrame x env; theTreesLotGoes x)) _ _ s
  refine wpAny_noted ?_
  rw [compTurn_last hg hn]
  refine wpAny_bind (wpAny_standAt (wpAny_bind (wpAny_mono (turn n s hI) (fun r s₁ h₁ => ?_) fun _ _ x => x.elim)))
  cases r with
  | none => exact wpAny_pure h₁
  | some v =>
    refine wpAny_bind (wpAny_of_eq (ht v) ?_)
    refine wpAny_bind (wpAny_mono h₁ (fun _ s₂ h₂ => wpAny_bind (wpAny_mono h₂ (fun ok s₃ h₃ => ?_) fun _ _ x => x.elim)) fun _ _ x => x.elim)
    cases ok with
    | false => exact wpAny_pure ⟨rfl, h₃⟩
    | true =>
      exact wpAny_bind (wpAny_bind (wpAny_mono h₃ (fun x s₄ h₄ => wpAny_bind (wpAny_mono h₄ (fun _ s₅ h₅ => wpAny_pure (wpAny_pure ⟨rfl, h₅⟩)) fun _ _ x => x.elim)) fun _ _ x => x.elim))

theorem loop_more {elt : Expr} {gens : List Comprehension} {scope : Scope} {pos : Pos} {d : Nat} {target iter target' iter' : Expr} {ifs ifs' : List Expr} {it acc : Value} {env : Env} (hg : gens[d]? = some ⟨target, iter, ifs, 0⟩) (hn : gens[d + 1]? = some ⟨target', iter', ifs', 0⟩) (I : Nat → Shared → Prop)
    (turn : ∀ n s, I n s → TurnAll prog w A target ifs env (TurnMore prog w A (.ListComp elt gens scope pos) d iter' acc env) it (R (.ok .next)) (fun s' => ∃ m, m < n ∧ I m s') s)
    (n : Nat) {s : Shared} (h : I n s) (hs : ∀ x, foldedSetIterable iter' env x = pure x) (ht : ∀ v, letOwnedTupleGo target it v = pure () := by intro _; rfl) :
    codeAny (model prog w) A (.compLoop (.ListComp elt gens scope pos) d it acc env) R s := by
  refine codeAny_loop rfl I (fun n s hI => ?_) n h
  show wpAny _ A ((compTurn (.ListComp elt gens scope pos) d it acc env).onRaise (fun x => do noteFrame x env; theTreesLotGoes x)) _ _ s
  refine wpAny_noted ?_
  rw [compTurn_more hg hn]
  refine wpAny_bind (wpAny_standAt (wpAny_bind (wpAny_mono (turn n s hI) (fun r s₁ h₁ => ?_) fun _ _ x => x.elim)))
  cases r with
  | none => exact wpAny_pure h₁
  | some v =>
    refine wpAny_bind (wpAny_of_eq (ht v) ?_)
    refine wpAny_bind (wpAny_mono h₁ (fun _ s₂ h₂ => wpAny_bind (wpAny_mono h₂ (fun ok s₃ h₃ => ?_) fun _ _ x => x.elim)) fun _ _ x => x.elim)
    cases ok with
    | false => exact wpAny_pure ⟨rfl, h₃⟩
    | true =>
      refine wpAny_bind (wpAny_mono h₃ (fun x s₄ h₄ => wpAny_bind (wpAny_standAt (wpAny_bind (wpAny_of_eq (hs x) (wpAny_bind (wpAny_holding (wpAny_mono h₄ (fun y s₅ h₅ => ?_) fun _ _ x => x.elim))))))) fun _ _ x => x.elim)
      refine wpAny_bind (wpAny_runOwn (h := none) (codeAny_mono h₅ fun r s₆ h₆ => ?_))
      cases r with
      | error e => exact h₆.elim
      | ok f => exact wpAny_pure ⟨rfl, h₆⟩

theorem start_at {elt : Expr} {gens : List Comprehension} {scope : Scope} {pos : Pos} {d : Nat} {target iter : Expr} {ifs : List Expr} {it acc : Value} {env : Env} {s : Shared} (hg : gens[d]? = some ⟨target, iter, ifs, 0⟩)
    (h0 : codeAny (model prog w) A (.compLoop (.ListComp elt gens scope pos) d it acc env) R s)
    (h : wpAny (model prog w) A (pyIter it) (fun it' s' => codeAny (model prog w) A (.compLoop (.ListComp elt gens scope pos) d it' acc env) R s') (fun _ _ => False) s) :
    codeAny (model prog w) A (.compStart (.ListComp elt gens scope pos) d it acc env) R s := by
  refine codeAny_of_tree ?_
  show wpAny _ _ ((compStart (.ListComp elt gens scope pos) d it acc env).onRaise (fun x => do noteFrame x env; standAt theWindowsPlace)) _ _ s
  refine wpAny_notedAt ?_
  have e1 : (clausesOf (.ListComp elt gens scope pos))[d]? = some ⟨target, iter, ifs, 0⟩ := hg
  unfold compStart
  simp only [e1]
  refine wpAny_bind (wpAny_askSetting (wpAny_ite ?_))
  split
  · first
      | exact wpAny_bind (wpAny_pure (wpAny_pure (And.intro rfl h0)))
      | exact wpAny_pure (And.intro rfl h0)
  · first
      | exact wpAny_bind (wpAny_rule (wpAny_bind (wpAny_standAt (wpAny_bind (wpAny_mono h (fun it' s' h' => wpAny_pure (And.intro rfl h')) fun _ _ x => x.elim)))))
      | (refine wpAny_bind (wpAny_rule ?_); show wpAny _ _ (standAt iter.pos >>= _) _ _ s; exact wpAny_bind (wpAny_standAt (wpAny_bind (wpAny_mono h (fun it' s' h' => wpAny_pure (And.intro rfl h')) fun _ _ x => x.elim))))

/-- all old objects but two are kept -/
def Mv (C D : Addr) (h h' : Heap) : Prop := ∀ b o, b ≠ C → b ≠ D → h.get? b = some o → h'.get? b = some o
theorem Mv.trans {C D : Addr} {h₁ h₂ h₃ : Heap} (x : Mv C D h₁ h₂) (y : Mv C D h₂ h₃) : Mv C D h₁ h₃ := fun b o h1 h2 e => y b o h1 h2 (x b o h1 h2 e)
theorem Mv.refl {C D : Addr} {h : Heap} : Mv C D h h := fun _ _ _ _ e => e
theorem Mv.of {C D : Addr} {h h' : Heap} (x : ∀ b o, h.get? b = some o → h'.get? b = some o) : Mv C D h h' := fun b o _ _ e => x b o e

/-- inside a comprehension: the old heap stays, the frame C holds names in mc, the list D holds ws -/
def CS (GR : Array GenState → Array GenState → Prop) (s₀ : Shared) (C D : Addr) {α : Type} (Is : Value → α → Prop) (mc : (Str → Option Value) → Prop) (ws : List α) (s : Shared) : Prop :=
  ∃ h tk g m ys, s = { s₀ with heap := h, toks := tk, gens := g } ∧ GR s₀.gens g ∧ (∀ b o, s₀.heap.get? b = some o → h.get? b = some o) ∧ h.Ns C m ∧ mc m ∧ h.PlainList D ys ∧ Paired Is ys.toList ws

section
variable {GR : Array GenState → Array GenState → Prop} {s₀ s : Shared} {C D : Addr} {α : Type} {Is : Value → α → Prop} {mc : (Str → Option Value) → Prop} {ws : List α} {env : Env}
theorem CS.mono {mc' : (Str → Option Value) → Prop} (x : CS GR s₀ C D Is mc ws s) (h : ∀ m, mc m → mc' m) : CS GR s₀ C D Is mc' ws s := by
  obtain ⟨H, tk, g, m, ys, e, a, b, c, d, f⟩ := x
  exact ⟨H, tk, g, m, ys, e, a, b, c, h m d, f⟩
theorem CS.keep (x : CS GR s₀ C D Is mc ws s) : ∀ b o, s₀.heap.get? b = some o → s.heap.get? b = some o := by
  obtain ⟨H, tk, g, m, ys, rfl, a, b, c, d, f⟩ := x
  exact b
/-- a step that keeps all objects -/
theorem CS.step {h' : Heap} {tk' : Nat} {g' : Array GenState} (x : CS GR s₀ C D Is mc ws s) (hg : GR s₀.gens g') (hk : ∀ b o, s.heap.get? b = some o → h'.get? b = some o) : CS GR s₀ C D Is mc ws { s with heap := h', toks := tk', gens := g' } := by
  obtain ⟨H, tk, g, m, ys, rfl, a, b, c, d, f⟩ := x
  exact ⟨h', tk', g', m, ys, rfl, hg, fun b' o e => hk _ _ (b b' o e), c.keeps hk, d, f.1.at fun o e => hk _ _ e, f.2⟩
theorem CS.stepK {h' : Heap} {tk' : Nat} (x : CS GR s₀ C D Is mc ws s) (hk : ∀ b o, s.heap.get? b = some o → h'.get? b = some o) : CS GR s₀ C D Is mc ws { s with heap := h', toks := tk' } := by
  obtain ⟨H, tk, g, m, ys, rfl, a, b, c, d, f⟩ := x
  exact ⟨h', tk', g, m, ys, rfl, a, fun b' o e => hk _ _ (b b' o e), c.keeps hk, d, f.1.at fun o e => hk _ _ e, f.2⟩
/-- a step that keeps all objects but those of the iterators -/
theorem CS.stepW {h' : Heap} {tk' : Nat} {wr : List Addr} (x : CS GR s₀ C D Is mc ws s) (hw : ∀ b ∈ wr, s₀.heap.get? b = none) (hC : C ∉ wr) (hD : D ∉ wr) (hk : ∀ b o, b ∉ wr → s.heap.get? b = some o → h'.get? b = some o) : CS GR s₀ C D Is mc ws { s with heap := h', toks := tk' } := by
  obtain ⟨H, tk, g, m, ys, rfl, a, b, c, d, f⟩ := x
  refine ⟨h', tk', g, m, ys, rfl, a, fun b' o e => hk _ _ (fun hm => ?_) (b b' o e), c.at' fun o e => hk _ _ hC e, d, f.1.at fun o e => hk _ _ hD e, f.2⟩
  rw [hw b' hm] at e; cases e
theorem append_CS {E : Value → Shared → Prop} {x : Value} {a : α} {Q : Value → Shared → Prop} (c : CS GR s₀ C D Is mc ws s) (hD : s₀.heap.get? D = none) (hDC : D ≠ C) (hx : Is x a) (hsz : ws.length ≤ 1000)
    (h : ∀ s', CS GR s₀ C D Is mc (ws ++ [a]) s' → Mv C D s.heap s'.heap → Q .none s') : wpAny (model prog w) A (call (.builtin "list.append") [.ref D, x]) Q E s := by
  obtain ⟨H, tk, g, m, ys, rfl, ha, b, cc, d, f, fp⟩ := c
  have hl := fp.length
  have hys : ys.size ≤ sizeLine := by have e4 : ys.toList.length = ys.size := by simp
                                      rw [sizeLine_eq]; omega
  refine wpAny_list_append_plain f (fun h' hl' hs' => h _ ⟨h', tk, g, m, ys.push x, rfl, ha, fun b' o e => hs'.extBut b' o ?_ (b b' o e), cc.sameBut hs' (Ne.symm hDC), d, hl', ?_⟩ fun b' o _ hbD e => hs'.extBut b' o hbD e) hys
  · rintro rfl; rw [hD] at e; cases e
  · simpa using Paired.snoc fp hx
theorem assign_CS {E : Value → Shared → Prop} {x : Str} {px : Pos} {v : Value} {Q : Unit → Shared → Prop} (c : CS GR s₀ C D Is mc ws s) (hL : env.locals = C) (hC : s₀.heap.get? C = none) (hDC : D ≠ C) (hx : env.kindOf x = some .local)
    (hp : (env.scope.kind == .class || (env.scope.kind == .module && env.locals != env.globals)) = false) (hmc : ∀ m, mc m → mc (fun y => if y = x then some v else m y))
    (h : ∀ h' tk', CS GR s₀ C D Is (fun m => mc m ∧ m x = some v) ws { s with heap := h', toks := tk' } → (∀ b o, b ≠ C → s.heap.get? b = some o → h'.get? b = some o) → Q () { s with heap := h', toks := tk' }) :
    wpAny (model prog w) A (assign (.Name x px) env v) Q E s := by
  obtain ⟨H, tk, g, m, ys, rfl, ha, b, cc, d, f, fp⟩ := c
  subst hL
  refine wpAny_assign_Name (wpAny_storeName_local hx cc (fun h' hn hs => ?_) hp)
  refine h h' _ ⟨h', _, g, _, ys, rfl, ha, fun b' o e => hs.extBut b' o ?_ (b b' o e), hn, ⟨hmc _ d, by simp⟩, f.at fun o e => hs.extBut _ _ hDC e, fp⟩ fun b' o hb e => hs.extBut b' o hb e
  rintro rfl; rw [hC] at e; cases e

theorem TurnLast.mono {elt : Expr} {acc : Value} {K K' : Shared → Prop} (x : TurnLast prog w A elt acc env K s) (h : ∀ s', K s' → K' s') : TurnLast prog w A elt acc env K' s :=
  wpAny_mono x (fun _ _ h₁ => wpAny_mono h₁ (fun _ _ h₂ => h _ h₂) fun _ _ e => e) fun _ _ e => e
theorem TurnMore.mono {e : Expr} {d : Nat} {iter' : Expr} {acc : Value} {K K' : Shared → Prop} (x : TurnMore prog w A e d iter' acc env K s) (h : ∀ s', K s' → K' s') : TurnMore prog w A e d iter' acc env K' s :=
  wpAny_mono x (fun _ _ h₁ => wpAny_mono h₁ (fun _ _ h₂ => codeAny_mono h₂ fun r _ h₃ => by cases r with | ok f => exact h _ h₃ | error e => exact h₃.elim) fun _ _ e => e) fun _ _ e => e

/-- one clause over an iterator: its invariant and its turn -/
theorem turn_walk {B : (Shared → Prop) → Shared → Prop} (hB : ∀ K K' s, (∀ s', K s' → K' s') → B K s → B K' s) {x : Str} {px : Pos} {ifs : List Expr} {I : Addr} {fp wr : List Addr} {n : Nat} {P : Nat → Value → Prop} {St : Nat → Heap → Prop}
    (W : Walks prog w A I fp wr n P St) (hL : env.locals = C) (hx : env.kindOf x = some .local) (hp : (env.scope.kind == .class || (env.scope.kind == .module && env.locals != env.globals)) = false)
    (hC : s₀.heap.get? C = none) (hD : s₀.heap.get? D = none) (hDC : D ≠ C) (hCf : C ∉ fp) (hDf : D ∉ fp) (hwr : ∀ b ∈ wr, s₀.heap.get? b = none) (f : Nat → List α)
    (hmc : ∀ m v, mc m → mc (fun y => if y = x then some v else m y)) {hh : Heap}
    (turn : ∀ i v s, i < n → P i v → CS GR s₀ C D Is (fun m => mc m ∧ m x = some v) (ws ++ (List.range i).flatMap f) s → (∀ b o, b ≠ C → b ≠ D → b ∉ wr → hh.get? b = some o → s.heap.get? b = some o) →
      wpAny (model prog w) A (forIn ifs true fun c r => if r = true then do let ok ← isTrue c env (eval c env); pure (ForInStep.yield ok) else pure (ForInStep.yield r)) (fun ok s₃ =>
        if ok = true then B (fun s' => CS GR s₀ C D Is mc (ws ++ (List.range i).flatMap f ++ f i) s' ∧ Mv C D s.heap s'.heap) s₃ else (CS GR s₀ C D Is mc (ws ++ (List.range i).flatMap f ++ f i) s₃ ∧ Mv C D s.heap s₃.heap)) (fun _ _ => False) s)
    {F : Shared → Prop} (fin : ∀ s', CS GR s₀ C D Is mc (ws ++ (List.range n).flatMap f) s' → (∀ b o, b ≠ C → b ≠ D → b ∉ wr → hh.get? b = some o → s'.heap.get? b = some o) → F s')
    (k : Nat) (s : Shared) (hJ : ∃ i, i ≤ n ∧ k = n + 1 - i ∧ CS GR s₀ C D Is mc (ws ++ (List.range i).flatMap f) s ∧ St i s.heap ∧ (∀ b o, b ≠ C → b ≠ D → b ∉ wr → hh.get? b = some o → s.heap.get? b = some o)) :
    TurnAll prog w A (.Name x px) ifs env B (.ref I) F (fun s' => ∃ m, m < k ∧ ∃ i, i ≤ n ∧ m = n + 1 - i ∧ CS GR s₀ C D Is mc (ws ++ (List.range i).flatMap f) s' ∧ St i s'.heap ∧ (∀ b o, b ≠ C → b ≠ D → b ∉ wr → hh.get? b = some o → s'.heap.get? b = some o)) s := by
  obtain ⟨i, hi, rfl, hcs, hst, hkp⟩ := hJ
  have hCw : C ∉ wr := fun h => hCf (W.sub _ h)
  have hDw : D ∉ wr := fun h => hDf (W.sub _ h)
  by_cases hlt : i < n
  · refine W.item i _ _ _ hlt hst fun v h₁ tk₁ hPv hst₁ hk₁ => ?_
    refine assign_CS (hcs.stepW hwr hCw hDw hk₁) hL hC hDC hx hp (fun m hm => hmc m v hm) fun h₂ tk₂ hcs₂ hk₂ => ?_
    have hst₂ : St (i + 1) h₂ := W.frame _ _ _ hst₁ fun b hb o e => hk₂ b o (fun q => hCf (q ▸ hb)) e
    have hkp₂ : ∀ b o, b ≠ C → b ≠ D → b ∉ wr → hh.get? b = some o → h₂.get? b = some o := fun b o h1 h2 h3 e => hk₂ b o h1 (hk₁ b o h3 (hkp b o h1 h2 h3 e))
    have last : ∀ s', (CS GR s₀ C D Is mc (ws ++ (List.range i).flatMap f ++ f i) s' ∧ Mv C D h₂ s'.heap) →
        ∃ m, m < n + 1 - i ∧ ∃ i, i ≤ n ∧ m = n + 1 - i ∧ CS GR s₀ C D Is mc (ws ++ (List.range i).flatMap f) s' ∧ St i s'.heap ∧ (∀ b o, b ≠ C → b ≠ D → b ∉ wr → hh.get? b = some o → s'.heap.get? b = some o) := fun s' ⟨h1, h2⟩ => by
      refine ⟨n + 1 - (i + 1), by omega, i + 1, hlt, rfl, ?_, W.frame _ _ _ hst₂ fun b hb o e => h2 b o (fun q => hCf (q ▸ hb)) (fun q => hDf (q ▸ hb)) e, fun b o g1 g2 g3 e => h2 b o g1 g2 (hkp₂ b o g1 g2 g3 e)⟩
      have e1 : ws ++ (List.range (i + 1)).flatMap f = ws ++ (List.range i).flatMap f ++ f i := by rw [List.range_succ, List.flatMap_append]; simp
      rw [e1]; exact h1
    refine wpAny_mono (turn i v _ hlt hPv hcs₂ hkp₂) (fun ok s₃ h₃ => ?_) fun _ _ e => e
    cases ok with
    | false => exact last _ h₃
    | true => exact hB _ _ _ last h₃
  · obtain rfl : i = n := by omega
    refine W.done _ _ _ hst fun h₁ tk₁ hk₁ => ?_
    exact fin _ (hcs.stepW hwr hCw hDw hk₁) fun b o h1 h2 h3 e => hk₁ b o h3 (hkp b o h1 h2 h3 e)

section
variable {elt : Expr} {gens : List Comprehension} {scope : Scope} {pos : Pos} {d : Nat} {iter : Expr} {ifs : List Expr} {x : Str} {px : Pos} {I : Addr} {fp wr : List Addr} {n : Nat} {P : Nat → Value → Prop} {St : Nat → Heap → Prop} {hh : Heap}
theorem startLast (hg : gens[d]? = some ⟨.Name x px, iter, ifs, 0⟩) (hn : gens[d + 1]? = none) (W : Walks prog w A I fp wr n P St) (hst : St 0 s.heap) (cs : CS GR s₀ C D Is mc ws s) (hkp : ∀ b o, b ≠ C → b ≠ D → b ∉ wr → hh.get? b = some o → s.heap.get? b = some o)
    (hL : env.locals = C) (hx : env.kindOf x = some .local) (hp : (env.scope.kind == .class || (env.scope.kind == .module && env.locals != env.globals)) = false)
    (hC : s₀.heap.get? C = none) (hD : s₀.heap.get? D = none) (hDC : D ≠ C) (hCf : C ∉ fp) (hDf : D ∉ fp) (hwr : ∀ b ∈ wr, s₀.heap.get? b = none) (f : Nat → List α)
    (hmc : ∀ m v, mc m → mc (fun y => if y = x then some v else m y))
    (turn : ∀ i v s, i < n → P i v → CS GR s₀ C D Is (fun m => mc m ∧ m x = some v) (ws ++ (List.range i).flatMap f) s → (∀ b o, b ≠ C → b ≠ D → b ∉ wr → hh.get? b = some o → s.heap.get? b = some o) →
      wpAny (model prog w) A (forIn ifs true fun c r => if r = true then do let ok ← isTrue c env (eval c env); pure (ForInStep.yield ok) else pure (ForInStep.yield r)) (fun ok s₃ =>
        if ok = true then TurnLast prog w A elt (.ref D) env (fun s' => CS GR s₀ C D Is mc (ws ++ (List.range i).flatMap f ++ f i) s' ∧ Mv C D s.heap s'.heap) s₃ else (CS GR s₀ C D Is mc (ws ++ (List.range i).flatMap f ++ f i) s₃ ∧ Mv C D s.heap s₃.heap)) (fun _ _ => False) s)
    (fin : ∀ s', CS GR s₀ C D Is mc (ws ++ (List.range n).flatMap f) s' → (∀ b o, b ≠ C → b ≠ D → b ∉ wr → hh.get? b = some o → s'.heap.get? b = some o) → R (.ok .next) s') :
    codeAny (model prog w) A (.compStart (.ListComp elt gens scope pos) d (.ref I) (.ref D) env) R s := by
  have loop : codeAny (model prog w) A (.compLoop (.ListComp elt gens scope pos) d (.ref I) (.ref D) env) R s :=
    loop_last hg hn _ (turn_walk (B := TurnLast prog w A elt (.ref D) env) (fun K K' s h x => x.mono h) W hL hx hp hC hD hDC hCf hDf hwr f hmc turn fin) (n + 1) ⟨0, Nat.zero_le _, rfl, by simpa using cs, hst, hkp⟩
  exact start_at hg loop (W.self 0 _ _ _ hst loop)

theorem startMore {target' iter' : Expr} {ifs' : List Expr} (hg : gens[d]? = some ⟨.Name x px, iter, ifs, 0⟩) (hn : gens[d + 1]? = some ⟨target', iter', ifs', 0⟩) (hs : ∀ x, foldedSetIterable iter' env x = pure x) (W : Walks prog w A I fp wr n P St) (hst : St 0 s.heap) (cs : CS GR s₀ C D Is mc ws s) (hkp : ∀ b o, b ≠ C → b ≠ D → b ∉ wr → hh.get? b = some o → s.heap.get? b = some o)
    (hL : env.locals = C) (hx : env.kindOf x = some .local) (hp : (env.scope.kind == .class || (env.scope.kind == .module && env.locals != env.globals)) = false)
    (hC : s₀.heap.get? C = none) (hD : s₀.heap.get? D = none) (hDC : D ≠ C) (hCf : C ∉ fp) (hDf : D ∉ fp) (hwr : ∀ b ∈ wr, s₀.heap.get? b = none) (f : Nat → List α)
    (hmc : ∀ m v, mc m → mc (fun y => if y = x then some v else m y))
    (turn : ∀ i v s, i < n → P i v → CS GR s₀ C D Is (fun m => mc m ∧ m x = some v) (ws ++ (List.range i).flatMap f) s → (∀ b o, b ≠ C → b ≠ D → b ∉ wr → hh.get? b = some o → s.heap.get? b = some o) →
      wpAny (model prog w) A (forIn ifs true fun c r => if r = true then do let ok ← isTrue c env (eval c env); pure (ForInStep.yield ok) else pure (ForInStep.yield r)) (fun ok s₃ =>
        if ok = true then TurnMore prog w A (.ListComp elt gens scope pos) d iter' (.ref D) env (fun s' => CS GR s₀ C D Is mc (ws ++ (List.range i).flatMap f ++ f i) s' ∧ Mv C D s.heap s'.heap) s₃ else (CS GR s₀ C D Is mc (ws ++ (List.range i).flatMap f ++ f i) s₃ ∧ Mv C D s.heap s₃.heap)) (fun _ _ => False) s)
    (fin : ∀ s', CS GR s₀ C D Is mc (ws ++ (List.range n).flatMap f) s' → (∀ b o, b ≠ C → b ≠ D → b ∉ wr → hh.get? b = some o → s'.heap.get? b = some o) → R (.ok .next) s') :
    codeAny (model prog w) A (.compStart (.ListComp elt gens scope pos) d (.ref I) (.ref D) env) R s := by
  have loop : codeAny (model prog w) A (.compLoop (.ListComp elt gens scope pos) d (.ref I) (.ref D) env) R s :=
    loop_more hg hn _ (turn_walk (B := TurnMore prog w A (.ListComp elt gens scope pos) d iter' (.ref D) env) (fun K K' s h x => x.mono h) W hL hx hp hC hD hDC hCf hDf hwr f hmc turn fin) (n + 1) ⟨0, Nat.zero_le _, rfl, by simpa using cs, hst, hkp⟩ hs
  exact start_at hg loop (W.self 0 _ _ _ hst loop)
end

/-- an iterator newly made -/
def ItOk (prog : Program) (w : World) (s : Shared) (fixed : List Addr) (n : Nat) (P : Nat → Value → Prop) (y : Value) (s₂ : Shared) : Prop :=
  ∃ I fp wr St h₂ tk₂, y = .ref I ∧ s₂ = { s with heap := h₂, toks := tk₂ } ∧ (∀ A' : Around, A'.handled = none → Walks prog w A' I fp wr n P St) ∧ St 0 h₂ ∧ (∀ b o, s.heap.get? b = some o → h₂.get? b = some o) ∧
    (∀ b ∈ wr, s.heap.get? b = none) ∧ (∀ b ∈ fp, b < h₂.objs.size) ∧ (∀ b ∈ fp, s.heap.get? b = none ∨ b ∈ fixed) ∧ @LE.le Nat _ s.heap.objs.size h₂.objs.size
theorem fresh_at {h : Heap} {a : Addr} (ha : h.objs.size ≤ a) : h.get? a = none := by
  cases e : h.get? a with
  | none => rfl
  | some o' => exact absurd (Heap.lt_size e) (Nat.not_lt.mpr ha)
theorem it_list {E : Value → Shared → Prop} {ax : Addr} {items : Array Value} (hl : s.heap.IsList ax items) : wpAny (model prog w) A (pyIter (.ref ax)) (ItOk prog w s [ax] items.size (fun i v => items[i]? = some v)) E s := by
  have hlt : ax < s.heap.objs.size := by obtain ⟨_, e, _⟩ := hl; exact Heap.lt_size e
  refine wpAny_pyIter_list hl ⟨s.heap.objs.size, [s.heap.objs.size, ax], [s.heap.objs.size], _, _, s.toks, rfl, rfl, fun A' hh => Walks.list hh _ _ (Nat.ne_of_lt hlt) items, ⟨⟨_, Heap.get?_push_size _ rfl, rfl, rfl⟩, hl.push _⟩, fun b o e => Heap.get?_push_of_some _ e, ?_, ?_, ?_, by rw [Heap.size_push]; exact Nat.le_succ _⟩
  · intro b hb; simp at hb; subst hb; exact fresh_at (Nat.le_refl _)
  · intro b hb; rw [Heap.size_push]; simp at hb; rcases hb with rfl | rfl
    · exact Nat.lt_succ_self _
    · exact Nat.lt_succ_of_lt hlt
  · intro b hb; simp at hb ⊢; rcases hb with rfl | rfl
    · exact .inl (fresh_at (Nat.le_refl _))
    · exact .inr rfl
theorem it_range {E : Value → Shared → Prop} {r : Addr} {a b c : Int} {t u v : Tok} {n : Nat} (hr : IsRange s.heap r a b c t u v) (hsmall : Builtin.Range.small a b c = true) (hn : Builtin.Range.rangeSize a b c = (n : Int)) :
    wpAny (model prog w) A (pyIter (.ref r)) (ItOk prog w s [] n (fun i v => ∃ t, v = .int (a + (i : Nat) * c) t)) E s := by
  refine wpAny_pyIter_range hr hsmall ⟨s.heap.objs.size, [s.heap.objs.size], [s.heap.objs.size], (fun i h => IsRangeIter h s.heap.objs.size (a + (i : Nat) * c) ((n : Int) - (i : Nat)) c), _, s.toks, rfl, rfl, fun A' hh => Walks.range hh _ a c n, ?_, fun b o e => Heap.get?_push_of_some _ e, ?_, ?_, ?_, by rw [Heap.size_push]; exact Nat.le_succ _⟩
  · show IsRangeIter _ _ (a + ((0 : Nat) : Int) * c) ((n : Int) - ((0 : Nat) : Int)) c
    have e1 : (a + ((0 : Nat) : Int) * c) = a := by simp
    have e2 : ((n : Int) - ((0 : Nat) : Int)) = Builtin.Range.rangeSize a b c := by rw [hn]; simp
    rw [e1, e2]
    exact Heap.get?_push_size _ rfl
  · intro b hb; simp at hb; subst hb; exact fresh_at (Nat.le_refl _)
  · intro b hb; rw [Heap.size_push]; simp at hb; subst hb; exact Nat.lt_succ_self _
  · intro b hb; simp at hb ⊢; subst hb; exact fresh_at (Nat.le_refl _)

/-- the whole comprehension -/
theorem comp_top {E : Value → Shared → Prop} {Q : Value → Shared → Prop} {elt iter : Expr} {x : Str} {px : Pos} {ifs : List Expr} {gs : List Comprehension} {scope : Scope} {cl : List (Str × Addr)} {pos : Pos} {out : List α}
    (hgr : ∀ g, GR g g) (hclos : closureFor scope env = pure cl) (hcell : ∀ y ∈ scope.names, y.2 ≠ .cell) (hkind : scope.kind = .function) (hnames : ∀ y ∈ scope.names, y.2 = .local → scope.names.lookup y.1 = some .local) (hs : ∀ x, foldedSetIterable iter env x = pure x) (hA : A.handled = none)
    (h : wpAny (model prog w) A (eval iter env) (fun xv s₁ => wpAny (model prog w) A (pyIter xv) (fun it s₂ => ∃ n P, (∃ fixed, ItOk prog w s₁ fixed n P it s₂) ∧ 
      (∀ I fp wr St C D s, it = .ref I → Walks prog w A I fp wr n P St → @LE.le Nat _ s₁.heap.objs.size C → @LE.le Nat _ s₁.heap.objs.size D → s₁.heap.get? C = none → s₁.heap.get? D = none → D ≠ C → C ∉ fp → D ∉ fp → (∀ b ∈ wr, s₁.heap.get? b = none) → St 0 s.heap → CS GR s₁ C D Is (fun _ => True) [] s → (∀ b o, b ≠ C → b ≠ D → b ∉ wr → s₂.heap.get? b = some o → s.heap.get? b = some o) →
        codeAny (model prog w) A (.compStart (.ListComp elt (⟨.Name x px, iter, ifs, 0⟩ :: gs) scope pos) 0 (.ref I) (.ref D) (compEnvC scope cl C env)) (fun r s' => match r with | .ok _ => CS GR s₁ C D Is (fun _ => True) out s' | .error _ => False) s) ∧
      (∀ D h' tk g ys, GR s₁.gens g → (∀ b o, s₁.heap.get? b = some o → h'.get? b = some o) → s₁.heap.get? D = none → h'.PlainList D ys → Paired Is ys.toList out → Q (.ref D) { s₁ with heap := h', toks := tk, gens := g })) E s₁) E s) :
    wpAny (model prog w) A (eval (.ListComp elt (⟨.Name x px, iter, ifs, 0⟩ :: gs) scope pos) env) Q E s := by
  rw [eval_ListComp]
  refine wpAny_comprehension_free (use := none) rfl hs hclos hkind hnames (wpAny_mono h (fun xv s₁ h₁ => wpAny_mono h₁ (fun it s₂ h₂ => ?_) fun _ _ e => e) fun _ _ e => e)
  obtain ⟨n, P, ⟨fixed, I, fp, wr, St, h₂, tk₂, rfl, rfl, W, hst, hk, hwr, hfp, hfx, hsz⟩, hbody, hQ⟩ := h₂
  refine wpAny_newObj_type (wpAny_newFunctionEnv hcell (by intro y hy; simp at hy) (fun h₁ hns₁ hsb₁ => ?_) hkind)
  dsimp only at hns₁ hsb₁ ⊢
  generalize hH2 : h₂.push { cls := .type "list", dict := none, data := .seq ([] : List Value).toArray } = H2 at hns₁ hsb₁ ⊢
  have hC : H2.objs.size = h₂.objs.size + 1 := by rw [← hH2, Heap.size_push]
  have hDC : h₂.objs.size ≠ H2.objs.size := by rw [hC]; exact Nat.ne_of_lt (Nat.lt_succ_self _)
  have old : ∀ b o, h₂.get? b = some o → h₁.get? b = some o := fun b o e => hsb₁.extBut b o (by rw [hC]; exact Nat.ne_of_lt (Nat.lt_succ_of_lt (Heap.lt_size e))) (Heap.get?_push_of_some _ (hH2 ▸ Heap.get?_push_of_some _ e))
  have none₁ : ∀ a, h₂.objs.size ≤ a → s₁.heap.get? a = none := fun a ha => by
    cases e : s₁.heap.get? a with
    | none => rfl
    | some o' => exact absurd (Heap.lt_size (hk _ _ e)) (Nat.not_lt.mpr ha)
  have hnC : s₁.heap.get? H2.objs.size = none := none₁ _ (by rw [hC]; exact Nat.le_succ _)
  have hnD : s₁.heap.get? h₂.objs.size = none := none₁ _ (Nat.le_refl _)
  refine codeAny_mono (hbody I fp wr St H2.objs.size h₂.objs.size { s₁ with heap := h₁, toks := tk₂ + ([] : List (Str × Value)).length } rfl (W A hA) (by rw [hC]; exact Nat.le_succ_of_le hsz) hsz hnC hnD hDC (fun hm => absurd (hfp _ hm) (by rw [hC]; exact Nat.not_lt.mpr (Nat.le_succ _))) (fun hm => absurd (hfp _ hm) (Nat.lt_irrefl _)) hwr
    ((W A hA).frame _ _ _ hst fun b _ o e => old b o e) ⟨h₁, _, s₁.gens, _, #[], rfl, hgr _, fun b o e => old b o (hk b o e), hns₁, trivial, ⟨_, hsb₁.extBut _ _ hDC (Heap.get?_push_of_some _ (hH2 ▸ Heap.get?_push_size _ rfl))⟩, by simpa using Paired.nil⟩ fun b o _ _ _ e => old b o e) fun r s' hr => ?_
  cases r with
  | error e => exact hr.elim
  | ok fl =>
    obtain ⟨h', tk', g', m', ys, rfl, hgg, hkk, hn', -, hpl, hp⟩ := hr
    refine ⟨m', hn', fun h'' hs'' => ?_⟩
    refine hQ h₂.objs.size h'' tk' g' ys hgg (fun b o e => hs''.extBut b o (fun q => by subst q; have y := hnC.symm.trans e; cases y) (hkk b o e)) hnD (hpl.extBut hs''.extBut hDC) hp
/-- a comprehension under a name -/
theorem comp_assign {E : Value → Shared → Prop} {Q : Flow → Shared → Prop} {elt iter : Expr} {x y : Str} {px py : Pos} {ifs : List Expr} {gs : List Comprehension} {scope : Scope} {cl : List (Str × Addr)} {pos spos : Pos} {out : List α}
    (hsw : swapsWith (.ListComp elt (⟨.Name x px, iter, ifs, 0⟩ :: gs) scope pos) (some (.Name y py)) spos.line env = pure true) (hy : env.kindOf y = some .local) (hpp : (env.scope.kind == .class || (env.scope.kind == .module && env.locals != env.globals)) = false)
    (hgr : ∀ g, GR g g) (hclos : closureFor scope env = pure cl) (hcell : ∀ y ∈ scope.names, y.2 ≠ .cell) (hkind : scope.kind = .function) (hnames : ∀ y ∈ scope.names, y.2 = .local → scope.names.lookup y.1 = some .local) (hs : ∀ x, foldedSetIterable iter env x = pure x) (hA : A.handled = none)
    (h : wpAny (model prog w) A (eval iter env) (fun xv s₁ => wpAny (model prog w) A (pyIter xv) (fun it s₂ => ∃ n P, (∃ fixed, ItOk prog w s₁ fixed n P it s₂) ∧ 
      (∀ I fp wr St C D s, it = .ref I → Walks prog w A I fp wr n P St → @LE.le Nat _ s₁.heap.objs.size C → @LE.le Nat _ s₁.heap.objs.size D → s₁.heap.get? C = none → s₁.heap.get? D = none → D ≠ C → C ∉ fp → D ∉ fp → (∀ b ∈ wr, s₁.heap.get? b = none) → St 0 s.heap → CS GR s₁ C D Is (fun _ => True) [] s → (∀ b o, b ≠ C → b ≠ D → b ∉ wr → s₂.heap.get? b = some o → s.heap.get? b = some o) →
        codeAny (model prog w) A (.compStart (.ListComp elt (⟨.Name x px, iter, ifs, 0⟩ :: gs) scope pos) 0 (.ref I) (.ref D) (compEnvC scope cl C env)) (fun r s' => match r with | .ok _ => CS GR s₁ C D Is (fun _ => True) out s' | .error _ => False) s) ∧
      (∃ m, s₁.heap.Ns env.locals m ∧ ∀ D h' tk g ys, GR s₁.gens g → (∀ b o, b ≠ env.locals → s₁.heap.get? b = some o → h'.get? b = some o) → s₁.heap.get? D = none → h'.PlainList D ys → Paired Is ys.toList out → h'.Ns env.locals (fun z => if z = y then some (.ref D) else m z) → Q .next { s₁ with heap := h', toks := tk, gens := g })) E s₁) E s) :
    wpAny (model prog w) A (exec (.Assign [.Name y py] (.ListComp elt (⟨.Name x px, iter, ifs, 0⟩ :: gs) scope pos) spos) env) Q E s := by
  rw [exec_Assign_Name_used _ _ _ _ hsw]
  refine wpAny_bind (wpAny_standAt (wpAny_bind ?_))
  show wpAny _ A (do let _ ← comprehension (.ListComp elt (⟨.Name x px, iter, ifs, 0⟩ :: gs) scope pos) scope env _ (newList []) false (eval iter env) (some (assign (.Name y py) env))) _ _ s
  refine wpAny_bind (wpAny_mono (wpAny_comprehension_free (use := some (assign (.Name y py) env)) (Q := fun _ s' => Q .next s') rfl hs hclos hkind hnames
    (wpAny_mono h (fun xv s₁ h₁ => wpAny_mono h₁ (fun it s₂ h₂ => ?_) fun _ _ e => e) fun _ _ e => e)) (fun _ s' hq => wpAny_pure (wpAny_pure hq)) fun _ _ e => e)
  obtain ⟨n, P, ⟨fixed, I, fp, wr, St, h₂, tk₂, rfl, rfl, W, hst, hk, hwr, hfp, hfx, hsz⟩, hbody, m, hn, hQ⟩ := h₂
  refine wpAny_newObj_type (wpAny_newFunctionEnv hcell (by intro y hy; simp at hy) (fun h₁ hns₁ hsb₁ => ?_) hkind)
  dsimp only at hns₁ hsb₁ ⊢
  generalize hH2 : h₂.push { cls := .type "list", dict := none, data := .seq ([] : List Value).toArray } = H2 at hns₁ hsb₁ ⊢
  have hC : H2.objs.size = h₂.objs.size + 1 := by rw [← hH2, Heap.size_push]
  have hDC : h₂.objs.size ≠ H2.objs.size := by rw [hC]; exact Nat.ne_of_lt (Nat.lt_succ_self _)
  have old : ∀ b o, h₂.get? b = some o → h₁.get? b = some o := fun b o e => hsb₁.extBut b o (by rw [hC]; exact Nat.ne_of_lt (Nat.lt_succ_of_lt (Heap.lt_size e))) (Heap.get?_push_of_some _ (hH2 ▸ Heap.get?_push_of_some _ e))
  have none₁ : ∀ a, h₂.objs.size ≤ a → s₁.heap.get? a = none := fun a ha => by
    cases e : s₁.heap.get? a with
    | none => rfl
    | some o' => exact absurd (Heap.lt_size (hk _ _ e)) (Nat.not_lt.mpr ha)
  have hnC : s₁.heap.get? H2.objs.size = none := none₁ _ (by rw [hC]; exact Nat.le_succ _)
  have hnD : s₁.heap.get? h₂.objs.size = none := none₁ _ (Nat.le_refl _)
  refine codeAny_mono (hbody I fp wr St H2.objs.size h₂.objs.size { s₁ with heap := h₁, toks := tk₂ + ([] : List (Str × Value)).length } rfl (W A hA) (by rw [hC]; exact Nat.le_succ_of_le hsz) hsz hnC hnD hDC (fun hm => absurd (hfp _ hm) (by rw [hC]; exact Nat.not_lt.mpr (Nat.le_succ _))) (fun hm => absurd (hfp _ hm) (Nat.lt_irrefl _)) hwr
    ((W A hA).frame _ _ _ hst fun b _ o e => old b o e) ⟨h₁, _, s₁.gens, _, #[], rfl, hgr _, fun b o e => old b o (hk b o e), hns₁, trivial, ⟨_, hsb₁.extBut _ _ hDC (Heap.get?_push_of_some _ (hH2 ▸ Heap.get?_push_size _ rfl))⟩, by simpa using Paired.nil⟩ fun b o _ _ _ e => old b o e) fun r s' hr => ?_
  cases r with
  | error e => exact hr.elim
  | ok fl =>
    obtain ⟨h', tk', g', m', ys, rfl, hgg, hkk, hn', -, hpl, hp⟩ := hr
    have hLC : env.locals ≠ H2.objs.size := by intro q; obtain ⟨o, _, _, ho, _⟩ := hn; rw [q, hnC] at ho; cases ho
    have hLD : env.locals ≠ h₂.objs.size := by intro q; obtain ⟨o, _, _, ho, _⟩ := hn; rw [q, hnD] at ho; cases ho
    show wpAny _ A (assign (.Name y py) env (.ref h₂.objs.size)) _ _ _
    refine wpAny_assign_Name (wpAny_storeName_local hy (hn.at' fun o e => hkk _ o e) (fun h₃ hn₃ hs₃ => ?_) hpp)
    refine ⟨m', hn'.sameBut hs₃ (Ne.symm hLC), fun h'' hs'' => ?_⟩
    exact hQ h₂.objs.size h'' _ g' ys hgg (fun b o hbL e => hs''.extBut b o (fun q => by subst q; have y := hnC.symm.trans e; cases y) (hs₃.extBut b o hbL (hkk b o e))) hnD ((hpl.extBut hs₃.extBut (Ne.symm hLD)).extBut hs''.extBut hDC) hp (hn₃.sameBut hs'' hLC)
end
end

section
variable {prog : Program} {w : World} {A : Around} {s : Shared} {K : Frag} {f : Addr} {vs : List Value} {R : Heap → Value → Heap → Prop}
  {p : Program} {loose : List Str} {mean : ExcName → Option Value} {mg mb : Str → Option Value}
theorem enterPC {name qual : Str} {params : Arguments} {body : List Stmt} {scope : Scope} {dV kV doc pm cdv ct oc : Value} {an od : Option Addr} {osl : Array (Option Value)} {args : List Value} {binds : List (Str × Value)}
    (X : K.In s.heap) (T : Top p loose mean mg mb s.heap) (hroom : A.depth < recursionLimit)
    (ho : K.lookup f = some ⟨oc, od, .func (fnOf name qual params body scope dV kV doc pm an cdv ct), osl⟩) (hcd : codeIn K cdv qual = true)
    (hbind : BindsTo s (fnOf name qual params body scope dV kV doc pm an cdv ct) ⟨args, []⟩ binds) (hkind : (binds.all fun y => scope.names.lookup y.1 == some .local || scope.names.lookup y.1 == some .cell) = true)
    (hnd : ((cellsFrom 0 scope.names []).map (·.1)).Nodup)
    (h : ∀ g L' h₁ tk cells, g = s.heap → K.In g → Top p loose mean mg mb g → Fr g L' h₁ (bindL (envOfC qual scope L' f cdv).kindOf binds fun _ => none) → News g L' h₁ (cells ++ []) →
      CellsAre (bindC (envOfC qual scope L' f cdv).kindOf binds fun _ => none) (cellsFrom (L' + 1) scope.names []) cells →
      wpAny (model prog w) (A.deeper (envOfC qual scope L' f cdv)) (execs body (envOfC qual scope L' f cdv)) (fun fl s' => Ret s R (match fl with | .ret v => v | _ => .none) s') (fun _ _ => False) { s with heap := h₁, toks := tk })
    (hco : scope.isCoroutine = false) (hgen : scope.isGenerator = false) (hk : scope.kind = .function) :
    wpAny (model prog w) A (call (.ref f) args) (Ret s R) (fun _ _ => False) s := by
  refine wpAny_call ?_
  refine codeAny_call_function hroom (X _ _ ho) rfl hco hgen rfl (codeRec_of X hcd) (hbind _ _ _ _ ?_)
  refine wpAny_newFunctionEnv_cells hk (kindsX hkind _) fun env' he s' x => ?_
  subst he
  refine ⟨T.nolimit.keeps x.toInCall.keep, codeAny_func ?_⟩
  obtain ⟨h₁, tk, rfl, _⟩ := x.done
  have hk₁ := x.toInCall.keep
  obtain ⟨cells, NC, Y⟩ := Cl.news (h₀ := s.heap) (Nat.le_refl _) fun n c hm => ⟨x.cell n c (lookup_of_mem_nodup (cellsFrom_names scope.names 0 (s.heap.objs.size + 1) [] [] rfl ▸ hnd) hm), x.above n c hm⟩
  exact wpAny_mono (h s.heap s.heap.objs.size h₁ tk cells rfl X T ⟨x.toInCall.ns, hk₁, Nat.le_refl _⟩ (by simpa using NC) Y) (fun _ _ x => x) fun _ _ x => x.elim
end
section
variable {M : Model} {A : Around} {E : Value → Shared → Prop} {s : Shared} {h₀ : Heap} {L c : Addr} {m : Str → Option Value} {env : Env} {x : Str} {pos : Pos} {v : Value} {Q : Value → Shared → Prop} {o : Obj}
theorem nameB_L (F : Fr h₀ L s.heap m) (hL : env.locals = L) (hv : m x = some v) (h : Q v s) (hk : env.scope.kind = .function) (hx : env.kindOf x = some .local) (hd : (x == ("__debug__" : Str)) = false) :
    wpAny M A (eval (.Name x pos) env) Q E s := by
  subst hL; exact wpAny_Name (wpAny_loadName_local hk hx F.ns hv h) hd
theorem nameB_F (F : Fr h₀ L s.heap m) (ho : h₀.get? c = some o) (hd : o.data = .cell (some v)) (hc : env.cells.lookup x = some c) (h : Q v s) (hk : env.scope.kind = .function) (hx : env.kindOf x = some .free) (hb : (x == ("__debug__" : Str)) = false) (hn : (x == ("__classdict__" : Str)) = false) :
    wpAny M A (eval (.Name x pos) env) Q E s := wpAny_Name (wpAny_loadName_free hk hx hc ⟨o, F.keep _ _ ho, hd⟩ h hn) hb
theorem nameB_C (F : Fr h₀ L s.heap m) (ho : h₀.get? c = some o) (hd : o.data = .cell (some v)) (hc : env.cells.lookup x = some c) (h : Q v s) (hk : env.scope.kind = .function) (hx : env.kindOf x = some .cell) (hb : (x == ("__debug__" : Str)) = false) :
    wpAny M A (eval (.Name x pos) env) Q E s := wpAny_Name (wpAny_loadName_cell hk hx hc ⟨o, F.keep _ _ ho, hd⟩ h) hb
end

def mk (l : List Nat) : Str := ⟨l.toArray⟩
theorem strs_of : ∀ {vs : List Value} {ws : List (List Nat)}, Paired (fun v a => ∃ t, v = Value.str (mk a) t) vs ws → StrsAre vs (ws.map mk)
  | _, _, .nil => .nil
  | _, _, .cons ⟨t, rfl⟩ r => .cons _ t (strs_of r)
theorem strs_at : ∀ {vs : List Value} {ws : List (List Nat)}, StrsAre vs (ws.map mk) → ∀ {i : Nat} {v : Value}, vs[i]? = some v → ∃ a t, ws[i]? = some a ∧ v = .str (mk a) t
  | [], ws, _, i, v, h => by simp at h
  | x :: vs, [], h, i, v, _ => by cases h
  | x :: vs, a :: ws, h, 0, v, e => by
    cases h with
    | cons _ t h => simp at e; exact ⟨a, t, rfl, e.symm⟩
  | x :: vs, a :: ws, h, i + 1, v, e => by
    cases h with
    | cons _ t h => exact strs_at h (by simpa using e)
def pick {α β : Type} (g : β → List α) (ws : List β) (j : Nat) : List α := match ws[j]? with | some a => g a | none => []
theorem pick_at {α β : Type} {g : β → List α} {ws : List β} {j : Nat} {a : β} (h : ws[j]? = some a) : pick g ws j = g a := by unfold pick; rw [h]
theorem take_flat {α β : Type} (g : β → List α) : ∀ (ws : List β) (n : Nat), n ≤ ws.length → (List.range n).flatMap (pick g ws) = (ws.take n).flatMap g
  | ws, 0, _ => by simp
  | ws, n + 1, h => by
    rw [List.range_succ, List.flatMap_append, take_flat g ws n (by omega)]
    have e : ws[n]? = some ws[n] := List.getElem?_eq_getElem (by omega)
    rw [List.take_add_one, e, List.flatMap_append]
    simp [pick_at e]
section
variable {prog : Program} {w : World} {A : Around} {GR : Array GenState → Array GenState → Prop} {s₀ s : Shared} {C D : Addr} {α : Type} {Is : Value → α → Prop} {mc : (Str → Option Value) → Prop} {ws : List α} {env : Env}
variable {elt : Expr} {gens : List Comprehension} {scope : Scope} {pos : Pos} {d : Nat} {iter : Expr} {ifs : List Expr} {x : Str} {px : Pos}
/-- a clause over a made list of texts -/
theorem textsLast {B : (Shared → Prop) → Shared → Prop} (hg : gens[d]? = some ⟨.Name x px, iter, ifs, 0⟩)
    (hB : B = TurnLast prog w A elt (.ref D) env ∧ gens[d + 1]? = none ∨ ∃ target' iter' ifs', gens[d + 1]? = some ⟨target', iter', ifs', 0⟩ ∧ (∀ x, foldedSetIterable iter' env x = pure x) ∧ B = TurnMore prog w A (.ListComp elt gens scope pos) d iter' (.ref D) env) (hA : A.handled = none)
    {ws' : List (List Nat)} {v : Value} {h5 : Heap} {tk5 : Nat} (hr : IsTexts (ws'.map mk) s.heap v h5) (hk5 : ∀ b o, s.heap.get? b = some o → h5.get? b = some o) (cs : CS GR s₀ C D Is mc ws s)
    (hL : env.locals = C) (hx : env.kindOf x = some .local) (hp : (env.scope.kind == .class || (env.scope.kind == .module && env.locals != env.globals)) = false)
    (hC : s₀.heap.get? C = none) (hD : s₀.heap.get? D = none) (hDC : D ≠ C) (g : List Nat → List α)
    (hmc : ∀ m v, mc m → mc (fun y => if y = x then some v else m y))
    (turn : ∀ i a t s', ws'[i]? = some a → CS GR s₀ C D Is (fun m => mc m ∧ m x = some (.str (mk a) t)) (ws ++ (ws'.take i).flatMap g) s' → Mv C D h5 s'.heap →
      wpAny (model prog w) A (forIn ifs true fun c r => if r = true then do let ok ← isTrue c env (eval c env); pure (ForInStep.yield ok) else pure (ForInStep.yield r)) (fun ok s₃ =>
        if ok = true then B (fun s'' => CS GR s₀ C D Is mc (ws ++ (ws'.take i).flatMap g ++ g a) s'' ∧ Mv C D s'.heap s''.heap) s₃ else (CS GR s₀ C D Is mc (ws ++ (ws'.take i).flatMap g ++ g a) s₃ ∧ Mv C D s'.heap s₃.heap)) (fun _ _ => False) s')
    {K : Shared → Prop} (fin : ∀ s', CS GR s₀ C D Is mc (ws ++ ws'.flatMap g) s' → Mv C D s.heap s'.heap → K s') :
    wpAny (model prog w) A (pyIter v) (fun y s₂ => codeAny (model prog w) (A.mark none) (.compStart (.ListComp elt gens scope pos) d y (.ref D) env) (fun r s₃ => match r with | .ok _ => K s₃ | .error _ => False) s₂) (fun _ _ => False) { s with heap := h5, toks := tk5 } := by
  obtain ⟨D5, vals5, n5, rfl, hnone5, hget5, hst5⟩ := hr
  have hlen : vals5.length = ws'.length := by simpa using hst5.length
  refine wpAny_mono (it_list (s := { s with heap := h5, toks := tk5 }) (ax := D5) (items := vals5.toArray) ⟨_, hget5, rfl, _, rfl⟩) (fun y s5 hit5 => ?_) (fun _ _ x => x)
  obtain ⟨I5, fp5, wr5, St5, h6, tk6, rfl, rfl, W5, hst6, hk6, hwr6, hfp6, hfx6, hsz6⟩ := hit5
  dsimp only at hk6 hwr6 hfx6 hsz6
  have hCs : ∃ o, s.heap.get? C = some o := by
    obtain ⟨H, tk, gg, m, ys, rfl, a, b, ⟨o, es, ep, c, r⟩, d', f⟩ := cs; exact ⟨o, c⟩
  have hDs : ∃ o, s.heap.get? D = some o := by
    obtain ⟨H, tk, gg, m, ys, rfl, a, b, c, d', ⟨n, f⟩, r⟩ := cs; exact ⟨_, f⟩
  have away : ∀ b, (∃ o, s.heap.get? b = some o) → b ∉ fp5 := fun b ⟨o, e⟩ hm => by
    rcases hfx6 b hm with q | q
    · rw [hk5 _ _ e] at q; cases q
    · simp at q; subst q; rw [hnone5] at e; cases e
  rw [Around.mark_none]
  have cs6 : CS GR s₀ C D Is mc ws { s with heap := h6, toks := tk6 } := cs.stepK fun b o e => hk6 b o (hk5 b o e)
  have hw0 : ∀ b ∈ wr5, s₀.heap.get? b = none := fun b hb => by
    cases q : s₀.heap.get? b with
    | none => rfl
    | some o => have := hk5 _ _ (cs.keep _ _ q); rw [hwr6 b hb] at this; cases this
  have turn' : ∀ i v s', i < ws'.length → vals5.toArray[i]? = some v → CS GR s₀ C D Is (fun m => mc m ∧ m x = some v) (ws ++ (List.range i).flatMap (pick g ws')) s' → (∀ b o, b ≠ C → b ≠ D → b ∉ wr5 → h6.get? b = some o → s'.heap.get? b = some o) →
      wpAny (model prog w) A (forIn ifs true fun c r => if r = true then do let ok ← isTrue c env (eval c env); pure (ForInStep.yield ok) else pure (ForInStep.yield r)) (fun ok s₃ =>
        if ok = true then B (fun s'' => CS GR s₀ C D Is mc (ws ++ (List.range i).flatMap (pick g ws') ++ (pick g ws' i)) s'' ∧ Mv C D s'.heap s''.heap) s₃ else (CS GR s₀ C D Is mc (ws ++ (List.range i).flatMap (pick g ws') ++ (pick g ws' i)) s₃ ∧ Mv C D s'.heap s₃.heap)) (fun _ _ => False) s' := by
    intro i v s' hi hv cs' hkp'
    obtain ⟨a, t, ha, rfl⟩ := strs_at hst5 (by simpa using hv)
    rw [take_flat g ws' i (Nat.le_of_lt hi)] at cs' ⊢
    rw [pick_at ha]
    exact turn i a t s' ha cs' fun b o h1 h2 e => hkp' b o h1 h2 (fun hm => by rw [hwr6 b hm] at e; cases e) (hk6 b o e)
  have fin' : ∀ s', CS GR s₀ C D Is mc (ws ++ (List.range ws'.length).flatMap (pick g ws')) s' → (∀ b o, b ≠ C → b ≠ D → b ∉ wr5 → h6.get? b = some o → s'.heap.get? b = some o) → K s' := by
    intro s' cs' hkp'
    rw [take_flat g ws' _ (Nat.le_refl _), List.take_length] at cs'
    exact fin s' cs' fun b o h1 h2 e => hkp' b o h1 h2 (fun hm => by have e' := hk5 b o e; rw [hwr6 b hm] at e'; cases e') (hk6 b o (hk5 b o e))
  have W6 := W5 A hA
  rw [List.size_toArray, hlen] at W6
  rcases hB with ⟨rfl, hn⟩ | ⟨target', iter', ifs', hn, hs, rfl⟩
  · exact startLast hg hn W6 hst6 cs6 (hh := h6) (fun b o _ _ _ e => e) hL hx hp hC hD hDC (away C hCs) (away D hDs) hw0 _ hmc turn' fin'
  · exact startMore hg hn hs W6 hst6 cs6 (hh := h6) (fun b o _ _ _ e => e) hL hx hp hC hD hDC (away C hCs) (away D hDs) hw0 _ hmc turn' fin'
end
section
variable {prog : Program} {w : World} {A : Around} {s : Shared} {K : Frag} {f : Addr} {vs : List Value}
  {p : Program} {loose : List Str} {mean : ExcName → Option Value} {mg mb : Str → Option Value}
theorem enterQC {Q : Value → Shared → Prop} {name qual : Str} {params : Arguments} {body : List Stmt} {scope : Scope} {dV kV doc pm cdv ct oc : Value} {an od : Option Addr} {osl : Array (Option Value)} {args : List Value} {binds : List (Str × Value)}
    (X : K.In s.heap) (T : Top p loose mean mg mb s.heap) (hroom : A.depth < recursionLimit)
    (ho : K.lookup f = some ⟨oc, od, .func (fnOf name qual params body scope dV kV doc pm an cdv ct), osl⟩) (hcd : codeIn K cdv qual = true)
    (hbind : BindsTo s (fnOf name qual params body scope dV kV doc pm an cdv ct) ⟨args, []⟩ binds) (hkind : (binds.all fun y => scope.names.lookup y.1 == some .local || scope.names.lookup y.1 == some .cell) = true)
    (hnd : ((cellsFrom 0 scope.names []).map (·.1)).Nodup)
    (h : ∀ g L' h₁ tk cells, g = s.heap → K.In g → Top p loose mean mg mb g → Fr g L' h₁ (bindL (envOfC qual scope L' f cdv).kindOf binds fun _ => none) → News g L' h₁ (cells ++ []) →
      CellsAre (bindC (envOfC qual scope L' f cdv).kindOf binds fun _ => none) (cellsFrom (L' + 1) scope.names []) cells →
      wpAny (model prog w) (A.deeper (envOfC qual scope L' f cdv)) (execs body (envOfC qual scope L' f cdv)) (fun fl s' => Q (match fl with | .ret v => v | _ => .none) s') (fun _ _ => False) { s with heap := h₁, toks := tk })
    (hco : scope.isCoroutine = false) (hgen : scope.isGenerator = false) (hk : scope.kind = .function) :
    wpAny (model prog w) A (call (.ref f) args) Q (fun _ _ => False) s := by
  refine wpAny_call ?_
  refine codeAny_call_function hroom (X _ _ ho) rfl hco hgen rfl (codeRec_of X hcd) (hbind _ _ _ _ ?_)
  refine wpAny_newFunctionEnv_cells hk (kindsX hkind _) fun env' he s' x => ?_
  subst he
  refine ⟨T.nolimit.keeps x.toInCall.keep, codeAny_func ?_⟩
  obtain ⟨h₁, tk, rfl, _⟩ := x.done
  have hk₁ := x.toInCall.keep
  obtain ⟨cells, NC, Y⟩ := Cl.news (h₀ := s.heap) (Nat.le_refl _) fun n c hm => ⟨x.cell n c (lookup_of_mem_nodup (cellsFrom_names scope.names 0 (s.heap.objs.size + 1) [] [] rfl ▸ hnd) hm), x.above n c hm⟩
  exact wpAny_mono (h s.heap s.heap.objs.size h₁ tk cells rfl X T ⟨x.toInCall.ns, hk₁, Nat.le_refl _⟩ (by simpa using NC) Y) (fun _ _ x => x) fun _ _ x => x.elim
end

theorem paired_at {α β : Type} {F : α → β → Prop} : ∀ {l₁ : List α} {l₂ : List β}, Paired F l₁ l₂ → ∀ {i : Nat} {a : α}, l₁[i]? = some a → ∃ b, l₂[i]? = some b ∧ F a b
  | _, _, .nil, i, a, h => by simp at h
  | _, _, .cons (a := x) (b := y) h r, 0, a, e => by simp at e; subst e; exact ⟨y, rfl, h⟩
  | _, _, .cons h r, i + 1, a, e => paired_at r (by simpa using e)
theorem ints_paired : ∀ {vs : List Value} {ks : List Int}, IntsAre vs ks → Paired (fun v k => ∃ t, v = Value.int k t) vs ks
  | _, _, .nil => .nil
  | _, _, .cons n t r => .cons ⟨t, rfl⟩ (ints_paired r)
theorem strs_paired : ∀ {vs : List Value} {ws : List (List Nat)}, StrsAre vs (ws.map mk) → Paired (fun v a => ∃ t, v = Value.str (mk a) t) vs ws
  | [], [], _ => .nil
  | _ :: _, _ :: _, .cons _ t r => .cons ⟨t, rfl⟩ (strs_paired r)
theorem ints_of {vs : List Value} {ks : List Int} (h : Paired (fun v k => ∃ t, v = Value.int k t) vs ks) : IntsAre vs ks := by
  induction h with
  | nil => exact .nil
  | cons h r ih => obtain ⟨t, rfl⟩ := h; exact .cons _ t ih
section
variable {prog : Program} {w : World} {A : Around} {GR : Array GenState → Array GenState → Prop} {s : Shared} {α β : Type} {Is : Value → α → Prop} {It : Value → β → Prop} {env : Env}
/-- a comprehension of one clause over a list -/
theorem comp_one {E : Value → Shared → Prop} {Q : Value → Shared → Prop} {elt iter : Expr} {x : Str} {px : Pos} {ifs : List Expr} {scope : Scope} {cl : List (Str × Addr)} {pos : Pos} (g : β → List α) (ks : List β)
    (hgr : ∀ g, GR g g) (hclos : closureFor scope env = pure cl) (hcell : ∀ y ∈ scope.names, y.2 ≠ .cell) (hkind : scope.kind = .function) (hnames : ∀ y ∈ scope.names, y.2 = .local → scope.names.lookup y.1 = some .local) (hs : ∀ x, foldedSetIterable iter env x = pure x) (hA : A.handled = none)
    (hx : ∀ C, (compEnvC scope cl C env).kindOf x = some .local) (hp : ∀ C, ((compEnvC scope cl C env).scope.kind == .class || ((compEnvC scope cl C env).scope.kind == .module && (compEnvC scope cl C env).locals != (compEnvC scope cl C env).globals)) = false)
    (h : wpAny (model prog w) A (eval iter env) (fun xv s₁ => Parked (∃ ax items, xv = .ref ax ∧ s₁.heap.IsList ax items.toArray ∧ Paired It items ks ∧
      (∀ C D i k v s', ks[i]? = some k → It v k → @LE.le Nat _ s₁.heap.objs.size C → s₁.heap.get? C = none → s₁.heap.get? D = none → D ≠ C → CS GR s₁ C D Is (fun m => m x = some v) ((ks.take i).flatMap g) s' →
        wpAny (model prog w) A (forIn ifs true fun c r => if r = true then do let ok ← isTrue c (compEnvC scope cl C env) (eval c (compEnvC scope cl C env)); pure (ForInStep.yield ok) else pure (ForInStep.yield r)) (fun ok s₃ =>
          if ok = true then TurnLast prog w A elt (.ref D) (compEnvC scope cl C env) (fun s'' => CS GR s₁ C D Is (fun _ => True) ((ks.take i).flatMap g ++ g k) s'' ∧ Mv C D s'.heap s''.heap) s₃ else (CS GR s₁ C D Is (fun _ => True) ((ks.take i).flatMap g ++ g k) s₃ ∧ Mv C D s'.heap s₃.heap)) (fun _ _ => False) s') ∧
      (∀ D h' tk g' ys, GR s₁.gens g' → (∀ b o, s₁.heap.get? b = some o → h'.get? b = some o) → s₁.heap.get? D = none → h'.PlainList D ys → Paired Is ys.toList (ks.flatMap g) → Q (.ref D) { s₁ with heap := h', toks := tk, gens := g' }))) E s) :
    wpAny (model prog w) A (eval (.ListComp elt [⟨.Name x px, iter, ifs, 0⟩] scope pos) env) Q E s := by
  refine comp_top (GR := GR) (Is := Is) (out := ks.flatMap g) hgr hclos hcell hkind hnames hs hA (wpAny_mono h (fun xv s₁ h₁ => ?_) fun _ _ e => e)
  obtain ⟨ax, items, rfl, hl, hpr, hbody, hQ⟩ := h₁
  have hlen := hpr.length
  refine wpAny_mono (it_list (ax := ax) hl) (fun it s₂ hit => ⟨_, _, ⟨_, hit⟩, ?_, hQ⟩) fun _ _ e => e
  obtain ⟨I0, fp0, wr0, St0, h3, tk3, rfl, rfl, -, -, hk3, -, -, -, -⟩ := hit
  intro I fp wr St C D s' _ W hCs hDs hC hD hDC hCf hDf hwr hst cs hkp
  rw [List.size_toArray, hlen] at W
  refine startLast (d := 0) (ws := []) rfl rfl W hst cs hkp rfl (hx C) (hp C) hC hD hDC hCf hDf hwr (pick g ks) (fun _ _ _ => trivial) ?_ ?_
  · intro i v s4 hi hv cs4 hkp4
    obtain ⟨k, hk, hIt⟩ := paired_at hpr (by simpa using hv)
    rw [List.nil_append, take_flat g ks i (Nat.le_of_lt hi)] at cs4 ⊢
    rw [pick_at hk]
    exact hbody C D i k v s4 hk hIt hCs hC hD hDC (cs4.mono fun m hm => hm.2)
  · intro s5 cs5 _
    rw [List.nil_append, take_flat g ks _ (Nat.le_refl _), List.take_length] at cs5
    exact cs5
end
end Mine
open PySem PySem.W PyProof.Rows PySem.Calls PySem.Spec
namespace Mine
local macro_rules | `(tactic| k_room) => `(tactic| ((try simp only [recursionLimit, cLine_is, depth_deeper, units_deeper, depth_in1, units_in1, Around.in1_depth, Around.in1_units, Around.deeper_units] at *); (try dsimp only at *); omega))
local macro_rules | `(tactic| k_enter) => `(tactic| (k_dflt (refine' enterP ?kX ?kT ?hroom ?ho ?hcd ?hbind ?hloc ?h ?hco ?hgen ?hk ?hcell; (case kX => assumption); (case kT => assumption); (case ho => k_is); (case hcd => k_is); (case hroom => k_room); (case hbind => exact BindsTo.of_eq rfl); (case hcell => decide); (case hloc => exact locs rfl); (case hco => exact rfl); (case hgen => exact rfl); (case hk => exact rfl); k_whole; intro g L' h₁ tk hg X' T' F' N'; (try dsimp only); (try k_fold))))
theorem subCost_pc (w : World) (a : Str) (ta : Tok) (b : Str) (tb : Tok) (ha : a.length ≤ 1) (hb : b.length ≤ 1) :
    PureC PySem.Challenge.rw_gd0004_01.row.prog w (Mine.hd.heap_39 w.params) 5 50 42 [.str a ta, .str b tb] (fun _ v _ => ∃ t, v = .int (if a = b then 0 else if Txt.lower a = Txt.lower b then 1 else 2) t) := by
  unfold PureC
  k_fill
  intro s dp un fr gd p loose mean mg mb X T hd hu
  k_enter
  k_steps
  all_goals (refine ret_of (by assumption) (by assumption) (is_int ?_))
  all_goals simp_all

theorem cost_pc (w : World) {x y : Str} {i j : Int} (ta tb : Tok) (hx : BrL (lst x)) (hy : BrL (lst y)) (h0 : 0 ≤ i) (h1 : i < x.length) (h2 : 0 ≤ j) (h3 : j < y.length) :
    PureC PySem.Challenge.rw_gd0004_01.row.prog w (Mine.hd.heap_39 w.params) 5 50 42 [.str (Txt.item x i) ta, .str (Txt.item y j) tb] (fun _ v _ => ∃ t, v = .int (cst ((lst x).getD i.toNat 0) ((lst y).getD j.toNat 0)) t) := by
  have h := subCost_pc w (Txt.item x i) ta (Txt.item y j) tb (Nat.le_of_eq (len_item x i)) (Nat.le_of_eq (len_item y j))
  rw [cost_item hx hy h0 h1 h2 h3] at h
  exact h
end Mine
open PySem PySem.W PyProof.Rows PySem.Calls PySem.Spec
namespace Mine
local macro_rules | `(tactic| k_room) => `(tactic| ((try simp only [recursionLimit, cLine_is, depth_deeper, units_deeper, depth_in1, units_in1, Around.in1_depth, Around.in1_units, Around.deeper_units] at *); (try dsimp only at *); omega))
local macro_rules | `(tactic| k_enter) => `(tactic| (k_dflt (refine' enterP ?kX ?kT ?hroom ?ho ?hcd ?hbind ?hloc ?h ?hco ?hgen ?hk ?hcell; (case kX => assumption); (case kT => assumption); (case ho => k_is); (case hcd => k_is); (case hroom => k_room); (case hbind => exact BindsTo.of_eq rfl); (case hcell => decide); (case hloc => exact locs rfl); (case hco => exact rfl); (case hgen => exact rfl); (case hk => exact rfl); k_whole; intro g L' h₁ tk hg X' T' F' N'; (try dsimp only); (try k_fold))))
local macro_rules | `(tactic| walk_at "exec While BoolOp") => `(tactic| ((with_reducible show wpAny _ _ (exec (PySem.Stmt.While _ _ _ _) _) _ _ _); refine park ?_))

local macro_rules | `(tactic| walk_at "subscriptTail Name Slice str ref") => `(tactic| ((with_reducible show wpAny _ _ (subscriptTail _ (PySem.Expr.Slice none (some (PySem.Expr.BoolOp _ _ _)) none _) _ _) _ _ _); (with_reducible rename Fr _ _ _ _ => F'); (with_reducible rename News _ _ _ _ => N'); (refine slice_strN_nn (hsz := ?hsz) (s := ⟨_, _, _, _, _⟩) F' N' ?_); (case hsz => size_fits); intro _ _ _ _ _; (simp only [slice_all])))
local macro_rules | `(tactic| walk_at "subscriptTail Name BinOp str int") => `(tactic| ((with_reducible show wpAny _ _ (subscriptTail _ _ (Value.str _ _) (Value.int _ _)) _ _ _); (refine item_str ?hr ?h1 ?h2 ?_); (case hr => exact fits_small (by omega) (by omega)); (case h1 => omega); (case h2 => omega); intro _))

/-- two texts at hand, by their signs -/
def LevMid (s : Shared) (g : Heap) (L : Addr) (tc : Tok) (C : List Nat → List Nat → Prop) (s' : Shared) : Prop :=
  ∃ (x y : Str) (tx ty : Tok) (h' : Heap) (tk' : Nat) (u : Str → Option Value), s' = { s with heap := h', toks := tk' } ∧ Fr g L h' (fun z => if z = Str.ofString "a" then some (.str x tx) else if z = Str.ofString "b" then some (.str y ty) else if z = Str.ofString "max_cost" then some (.int 1000 tc) else u z) ∧ News g L h' [] ∧ C (lst x) (lst y)
theorem lev_mid {s : Shared} {g : Heap} {L : Addr} {tc : Tok} {C : List Nat → List Nat → Prop} {x y : Str} {tx ty : Tok} {h' : Heap} {tk' : Nat} {u : Str → Option Value} (F : Fr g L h' u) (N : News g L h' [])
    (hk : ∀ p ∈ [(Str.ofString "a", Value.str x tx), (Str.ofString "b", .str y ty), (Str.ofString "max_cost", .int 1000 tc)], u p.1 = some p.2) (hC : C (lst x) (lst y)) : LevMid s g L tc C { s with heap := h', toks := tk' } :=
  ⟨x, y, tx, ty, h', tk', u, rfl, fr_says [(Str.ofString "a", Value.str x tx), (Str.ofString "b", .str y ty), (Str.ofString "max_cost", .int 1000 tc)] F hk, N, hC⟩

local macro_rules | `(tactic| walk_at "exec For Name Call cons nil") => `(tactic| (k_here; (rename Fr _ _ _ _ => lF'); (with_unfolding_all refine' For_invVF lF' ?k1 ?k2 ?_; (case k1 => exact rfl); (case k2 => exact rfl); k_whole)))
local macro_rules | `(tactic| walk_at "pyIter ref") => `(tactic| ((with_reducible show wpAny _ _ (pyIter (Value.ref _)) (fun it s₂ => LoopAtV _ _ _ _ _ _ _ _ _ it s₂) _ _); refine park ?_))

local macro_rules | `(tactic| walk_at "InvEndN") => `(tactic| (refine park ?_))
local macro_rules | `(tactic| walk_at "call ref") => `(tactic| (k_here; k_dflt (refine' use_pure (cost_pc _ _ _ ?c1 ?c2 ?c3 ?c4 ?c5 ?c6) ?k1 ?k2 ?k3 ?k4 ?k5 ?k6 ?k7 ?_; (case c1 => assumption); (case c2 => assumption); (case c3 => omega); (case c4 => omega); (case c5 => omega); (case c6 => omega); (case k1 => k_asm); (case k2 => k_asm); (case k3 => k_asm); (case k4 => k_asm); (case k5 => exact rfl); (case k6 => k_room); (case k7 => k_room)); intro v' h' tk' hr' hk' F' N'; (obtain ⟨t', e'⟩ := hr'); subst e'))

local macro_rules | `(tactic| kst_same) => `(tactic| (intro z h1 h2 h3; (try dsimp only at *); (simp only [List.forall_mem_cons, List.not_mem_nil, false_implies, implies_true, and_true, ne_eq] at h2); (simp only [List.contains_cons, List.contains_nil, Bool.or_false, Bool.or_eq_false_iff, beq_eq_false_iff_ne, ne_eq] at h3); (simp [kstB, h1, h2, h3]; done)))
structure InC where
  d : Int
  td : Tok
  r : Int
  tr : Tok
  n : Int
  tn : Tok
  vals : List Value
  row : List Int
  ep : Nat

theorem lev_pc (w : World) (a : Str) (ta : Tok) (b : Str) (tb : Tok) (tc : Tok) (ha : a.length ≤ 40) (hb : b.length ≤ 40) (hba : Br a) (hbb : Br b) :
    PureC PySem.Challenge.rw_gd0004_01.row.prog w (Mine.hd.heap_39 w.params) 10 100 49 [.str a ta, .str b tb, .int 1000 tc] (fun _ v _ => ∃ t, v = .int (levL (lst a) (lst b)) t) := by
  unfold PureC
  k_fill
  intro s dp un fr gd p loose mean mg mb X T hd hu
  k_enter
  rename_i g L' h₁ tk₁ hg X' T' F' N'
  k_steps
  · refine ret_of (by assumption) (by assumption) (is_int ?_)
    rename ((a == b) = true) => e
    rw [beq_iff_eq.mp e]; unfold levL; rw [if_pos rfl]
  · refine parked ?_
    (rename Fr _ _ _ _ => lF'); (rename News _ _ _ _ => lN')
    with_unfolding_all refine while1 (x := Str.ofString "pre") (k₀ := 0) (Pre1 a b) (Out1 a b) (fun k => (100 - k).toNat) lF' lN' rfl (pre1_zero a b) (fun k t h tk hP F' N' => ?_) (fun k t h tk hX F' N' => ?_)
    · -- <A>
      clear lF' lN'
      have hP0 := hP.1
      have hP1 := hP.2.1
      have hP2 := hP.2.2.1
      k_steps
      · rename ((Txt.item a k == Txt.item b k) = true) => e
        refine w1_post (by assumption) (by assumption) (pre1_step hP (by omega) (by omega) (beq_iff_eq.mp e)) (by omega)
      · rename ((Txt.item a k == Txt.item b k) = false) => e
        refine w1_out (by assumption) (by assumption) (pre1_out hP (.inr (.inr ⟨by omega, by omega, fun q => by rw [q] at e; simp at e⟩)))
      · refine w1_out (by assumption) (by assumption) (pre1_out hP (.inr (.inl (by omega))))
      · refine w1_out (by assumption) (by assumption) (pre1_out hP (.inl (by omega)))
    · have hX0 := hX.1
      have hX1 := hX.2.1
      have hX2 := hX.2.2.1
      clear lF' lN'
      k_steps
      obtain ⟨-, -, -, hA1, hB1⟩ := hX
      refine parked ?_
      generalize Txt.slice a (some k) none = a1 at *
      generalize Txt.slice b (some k) none = b1 at *
      (rename Fr _ _ _ _ => lF'); (rename News _ _ _ _ => lN')
      with_unfolding_all refine while1 (x := Str.ofString "post") (k₀ := 0) (Pre2 a1 b1) (Out2 a1 b1) (fun k => (100 + k).toNat) lF' lN' rfl (pre2_zero a1 b1) (fun k t h tk hP F' N' => ?_) (fun k t h tk hX F' N' => ?_)
      · -- <B>
        clear lF' lN'
        have hP0 := hP.1
        have hP1 := hP.2.1
        have hP2 := hP.2.2.1
        have hs1 := slice_neg_len hP0 hP1
        have hs2 := slice_neg_len hP0 hP2
        k_steps
        all_goals first
          | (exfalso; omega)
          | (rename ((Txt.item a1 (k - 1) == Txt.item b1 (k - 1)) = true) => e
             refine w1_post (by assumption) (by assumption) (pre2_step hP (by omega) (by omega) (beq_iff_eq.mp e)) (by omega))
          | (rename ((Txt.item a1 (k - 1) == Txt.item b1 (k - 1)) = false) => e
             refine w1_out (by assumption) (by assumption) (pre2_out hP (.inr (.inr ⟨by omega, by omega, fun q => by rw [q] at e; simp at e⟩))))
          | (refine w1_out (by assumption) (by assumption) (pre2_out hP (.inr (.inl (by omega)))))
          | (refine w1_out (by assumption) (by assumption) (pre2_out hP (.inl (by omega))))
      · clear lF' lN'
        have hk0 := hX.1
        have hk1 := hX.2.1
        have hk2 := hX.2.2.1
        have hc1 := hX.2.2.2.1
        have hc2 := hX.2.2.2.2
        refine execs_cut 2 (LevMid s g L' tc (fun x y => x = cutTo a1 k ∧ y = cutTo b1 k)) ?_ ?_
        · -- <C>
          simp only [List.take_succ_cons, List.take_zero]
          k_steps
          all_goals (try (exfalso; omega))
          · refine cut_next (lev_mid (by assumption) News.nil (by kst_all) ?_)
            exact ⟨slice_neg_cut hk0 hk1 (by omega), slice_neg_cut hk0 hk2 (by omega)⟩
          · rename (k = 0) => e
            refine cut_next (lev_mid (by assumption) News.nil (by kst_all) ?_)
            exact ⟨by rw [e, cut_zero], by rw [e, cut_zero]⟩
        · intro s' hJ
          obtain ⟨x, y, tx, ty, h', tk', u, rfl, F', N', hx, hy⟩ := hJ
          simp only [List.drop_succ_cons, List.drop_zero]
          have hv : levL (lst a) (lst b) = if lst x = [] ∨ lst y = [] then 2 * (((lst x).length : Int) + (lst y).length) else if (lst y).length < (lst x).length then levC (lst y) (lst x) else levC (lst x) (lst y) := by
            unfold levL
            rename ((a == b) = false) => e
            rw [if_neg (fun q => by rw [lst_inj q] at e; simp at e)]
            simp only [← hA1, ← hB1, ← hc1, ← hc2, ← hx, ← hy]
          have hxl : x.length ≤ 40 := by
            have := congrArg List.length hx
            rw [lst_len] at this; unfold cutTo at this; rw [List.length_take, lst_len] at this; omega
          have hyl : y.length ≤ 40 := by
            have := congrArg List.length hy
            rw [lst_len] at this; unfold cutTo at this; rw [List.length_take, lst_len] at this; omega
          have hlx := lst_len x
          have hly := lst_len y
          have hbx : BrL (lst x) := fun c h => by
            rw [hx] at h; have h1 := cut_mem h; rw [hA1] at h1
            exact hba c ((trim_mem _ _ c).1 h1)
          have hby : BrL (lst y) := fun c h => by
            rw [hy] at h; have h1 := cut_mem h; rw [hB1] at h1
            exact hbb c ((trim_mem _ _ c).2 h1)
          refine execs_cut 3 (LevMid s g L' tc (fun lx ly => levL (lst a) (lst b) = levC lx ly ∧ lx ≠ [] ∧ lx.length ≤ ly.length ∧ ly.length ≤ 40 ∧ BrL lx ∧ BrL ly)) ?_ ?_
          · -- <D>
            simp only [List.take_succ_cons, List.take_zero]
            k_steps
            · refine cut_next (lev_mid (by assumption) News.nil (by kst_all) ?_)
              rw [hv, if_neg (by rintro (q | q) <;> (have z := congrArg List.length q; rw [List.length_nil] at z; omega)), if_pos (by omega)]
              exact ⟨rfl, fun q => by have z := congrArg List.length q; rw [List.length_nil] at z; omega, by omega, by omega, by assumption, by assumption⟩
            · refine cut_next (lev_mid (by assumption) News.nil (by kst_all) ?_)
              rw [hv, if_neg (by rintro (q | q) <;> (have z := congrArg List.length q; rw [List.length_nil] at z; omega)), if_neg (by omega)]
              exact ⟨rfl, fun q => by have z := congrArg List.length q; rw [List.length_nil] at z; omega, by omega, by omega, by assumption, by assumption⟩
            · refine cut_ret ?_
              refine ret_of (by assumption) (by assumption) (is_int ?_)
              rw [hv, if_pos (.inr (List.eq_nil_of_length_eq_zero (by omega))), hlx, hly]
            · refine cut_ret ?_
              refine ret_of (by assumption) (by assumption) (is_int ?_)
              rw [hv, if_pos (.inl (List.eq_nil_of_length_eq_zero (by omega))), hlx, hly]
          · clear hv hlx hly hxl hyl hx hy hbx hby
            intro s' hJ
            clear hA1 hB1 hX hX0 hX1 hX2 hk0 hk1 hk2 hc1 hc2 hba hbb
            (repeat (rename Fr _ _ _ _ => Fold; clear Fold)); (repeat (rename News _ _ _ _ => Nold; clear Nold))
            obtain ⟨x, y, tx, ty, h', tk', u, rfl, F', N', hv, hne, hle, hle2, hbx', hby'⟩ := hJ
            simp only [List.drop_succ_cons, List.drop_zero]
            have hxl : x.length ≤ 40 := by rw [← lst_len]; omega
            have hyl : y.length ≤ 40 := by rw [← lst_len]; omega
            have hlx := lst_len x
            have hly := lst_len y
            k_steps
            rename (IsRange _ _ _ _ _ _ _ _) => R'
            (with_unfolding_all refine list_range_led (n := x.length) rfl (by assumption) News.nil R' (range_two_small (by omega)) (range_two _) (by omega) ?_)
            intro D h' tk vals ep F' N' I'
            rw [row0_is] at I'
            k_steps
            refine parked ?_
            (rename IsRange _ _ _ _ _ _ _ _ => R'); (rename Fr _ _ _ _ => lF'); (rename News _ _ _ _ => lN')
            (rename IntsAre vals (row0 x.length) => I')
            have hO : OutAt (lst x) (lst y) (levC (lst x) (lst y)) 0 (row0 x.length) 0 := ⟨by unfold row0; rw [List.length_map, List.length_range, hlx], by rw [List.drop_zero]; unfold levC; rw [hlx]; rfl⟩
            (with_unfolding_all refine' kst_range (σ := Int × Tok × List Value × List Int × Nat) (n := y.length) (fun c => [(D, W.listOf c.2.2.1.toArray c.2.2.2.2)]) (fun c => [(Str.ofString "result", .int c.1 c.2.1)]) (fun c => IntsAre c.2.2.1 c.2.2.2.1) [Str.ofString "bchar", Str.ofString "distance", Str.ofString "minimum", Str.ofString "index", Str.ofString "substitute", Str.ofString "insert_delete"] (fun pre c => OutAt (lst x) (lst y) (levC (lst x) (lst y)) pre.length c.2.2.2.1 c.1) (0, _, vals, row0 x.length, ep) rfl R' (small_one (by decide) (by decide) (by omega) (by omega)) (range_one _) lF' lN' I' (by kst_all) hO ?turn ?done)
            · clear lF' lN'
              intro c pre k t u h tk own hk hlt hoff hf hP F' N'
              obtain ⟨res, tr, vals, row, ep⟩ := c
              dsimp only at *
              have hMk := kstMark
              simp only [List.map_cons, List.map_nil] at hoff
              k_steps
              refine parked ?_
              (rename IsRange _ _ _ _ _ _ _ _ => R'); (rename Fr _ _ _ _ => lF'); (rename News _ _ _ _ => lN')
              (rename IntsAre vals row => hf)
              have hk2 : k * 2 = (pre.length : Int) * 2 := by omega
              have hI : InnAt ((lst y).getD k.toNat 0) (lst x) (inn ((lst y).getD k.toNat 0) (lst x) row (k * 2) (k * 2) 9223372036854775807) 0 row (k * 2) (k * 2) 9223372036854775807 := inn_zero hP.1
              (with_unfolding_all refine' kst_range (σ := InC) (n := x.length) (fun c => (D, W.listOf c.vals.toArray c.ep) :: own) (fun c => [(Str.ofString "distance", .int c.d c.td), (Str.ofString "result", .int c.r c.tr), (Str.ofString "minimum", .int c.n c.tn)]) (fun c => IntsAre c.vals c.row) [Str.ofString "substitute", Str.ofString "insert_delete"] (fun p c => InnAt ((lst y).getD k.toNat 0) (lst x) (inn ((lst y).getD k.toNat 0) (lst x) row (k * 2) (k * 2) 9223372036854775807) p.length c.row c.d c.r c.n) ⟨k * 2, _, k * 2, _, 9223372036854775807, _, vals, row, ep⟩ rfl R' (small_one (by decide) (by decide) (by omega) (by omega)) (range_one _) lF' lN' hf (by kst_all) hI ?turn2 ?done2)
              · clear lF' lN'
                intro c pre2 k2 t u h tk own2 hk2 hlt2 hoff2 hf2 hP2 F' N'
                obtain ⟨d, td, r, tr, n, tn, vals2, row2, ep2⟩ := c
                dsimp only at *
                simp only [List.cons_append] at N'
                simp only [List.map_cons] at hoff2
                have hrl := hP2.1
                rw [hlx] at hrl
                k_steps
                · refine parked ?_
                  rename News _ _ _ _ => nE
                  refine kst_end (⟨row2.getD k2.toNat 0, _, _, _, _, _, _, _, _⟩ : InC) (by assumption) nE (by kst_in) (fun p hp => List.mem_cons_of_mem _ (List.mem_append_right _ hp)) (by rfl) (by assumption) (by kst_all) (by kst_same) ?_
                  show InnAt _ _ _ (pre2 ++ [k2]).length _ _ _ _
                  rw [List.length_append]
                  exact inn_step' (by omega) hP2 (by omega) rfl (.inl ⟨rfl, by assumption⟩)
                · refine parked ?_
                  rename News _ _ _ _ => nE
                  refine kst_end (⟨row2.getD k2.toNat 0, _, _, _, _, _, _, _, _⟩ : InC) (by assumption) nE (by kst_in) (fun p hp => List.mem_cons_of_mem _ (List.mem_append_right _ hp)) (by rfl) (by assumption) (by kst_all) (by kst_same) ?_
                  show InnAt _ _ _ (pre2 ++ [k2]).length _ _ _ _
                  rw [List.length_append]
                  exact inn_step' (by omega) hP2 (by omega) rfl (.inr ⟨rfl, by assumption⟩)
              · clear lF' lN'
                intro c u h tk hf2 hP2 F' N'
                obtain ⟨d, td, r, tr, n, tn, vals2, row2, ep2⟩ := c
                dsimp only at *
                rw [rangeKs_length, ← hlx] at hP2
                have ht := inn_done hP2
                rw [hk2] at ht
                obtain ⟨hl', hr1, hr2⟩ := out_step hP (by omega) (row' := row2) (res' := r) (mn := n) (by rw [show k.toNat = pre.length by omega] at ht; exact ht)
                k_steps
                · refine ret_of (by assumption) (by assumption) (is_int ?_)
                  rw [hv, hr1 (by omega)]; rfl
                · refine parked ?_
                  rename News _ _ _ _ => nE
                  refine kst_end ((r, _, _, _, _) : Int × Tok × List Value × List Int × Nat) (by assumption) nE (by kst_in) (fun p hp => List.mem_cons_of_mem _ hp) (by rfl) (by assumption) (by kst_all) (by kst_same) ?_
                  show OutAt _ _ _ (pre ++ [k]).length _ _
                  rw [List.length_append]
                  exact hr2 (by omega)
            · clear lF' lN'
              intro c u h tk hf2 hP2 F' N'
              obtain ⟨res, tr, vals2, row2, ep2⟩ := c
              dsimp only at *
              rw [rangeKs_length, ← hly] at hP2
              have ht := out_done hP2
              k_steps
              refine ret_of (by assumption) (by assumption) (is_int ?_)
              rw [hv, ht]
end Mine
open PySem PySem.W PyProof.Rows PySem.Calls PySem.Spec
namespace Mine
local macro_rules | `(tactic| k_room) => `(tactic| ((try simp only [recursionLimit, cLine_is, depth_deeper, units_deeper, depth_in1, units_in1, Around.in1_depth, Around.in1_units, Around.deeper_units] at *); (try dsimp only at *); omega))
local macro_rules | `(tactic| k_enter) => `(tactic| (k_dflt (refine' enterP ?kX ?kT ?hroom ?ho ?hcd ?hbind ?hloc ?h ?hco ?hgen ?hk ?hcell; (case kX => assumption); (case kT => assumption); (case ho => k_is); (case hcd => k_is); (case hroom => k_room); (case hbind => exact BindsTo.of_eq rfl); (case hcell => decide); (case hloc => exact locs rfl); (case hco => exact rfl); (case hgen => exact rfl); (case hk => exact rfl); k_whole; intro g L' h₁ tk hg X' T' F' N'; (try dsimp only); (try k_fold))))
def leftStep (st : Int × Int) (c : Int) : Int × Int := if c = 40 then (st.1, st.2 + 1) else if 0 < st.2 then (st.1, st.2 - 1) else (st.1 + 1, st.2)
def leftI (l : List Int) : Int × Int := l.foldl leftStep (0, 0)
theorem leftI_snoc (l : List Int) (c : Int) : leftI (l ++ [c]) = leftStep (leftI l) c := by unfold leftI; rw [List.foldl_append]; rfl
theorem leftI_pos (l : List Int) : 0 ≤ (leftI l).1 ∧ 0 ≤ (leftI l).2 ∧ (leftI l).1 + (leftI l).2 ≤ l.length := by
  suffices H : ∀ (l : List Int) (a b : Int), 0 ≤ a → 0 ≤ b → 0 ≤ (l.foldl leftStep (a, b)).1 ∧ 0 ≤ (l.foldl leftStep (a, b)).2 ∧ (l.foldl leftStep (a, b)).1 + (l.foldl leftStep (a, b)).2 ≤ a + b + l.length by
    have := H l 0 0 (Int.le_refl _) (Int.le_refl _)
    unfold leftI
    omega
  intro l
  induction l with
  | nil => intro a b ha hb; simp; omega
  | cons c l ih =>
    intro a b ha hb
    rw [List.foldl_cons, List.length_cons]
    have hc : leftStep (a, b) c = (a, b + 1) ∨ (leftStep (a, b) c = (a, b - 1) ∧ 0 < b) ∨ leftStep (a, b) c = (a + 1, b) := by
      unfold leftStep
      dsimp only
      split
      · exact .inl rfl
      · split
        · exact .inr (.inl ⟨rfl, by assumption⟩)
        · exact .inr (.inr rfl)
    rcases hc with e | ⟨e, h⟩ | e
    · rw [e]; have := ih a (b + 1) ha (by omega); omega
    · rw [e]; have := ih a (b - 1) ha (by omega); omega
    · rw [e]; have := ih (a + 1) b (by omega) hb; omega
theorem one_is (n : Nat) : ((⟨#[n]⟩ : Str) == Str.ofString "(") = decide (n = 40) := by
  have e : Str.ofString "(" = ⟨#[40]⟩ := by decide +kernel
  rw [e]
  by_cases h : n = 40
  · subst h; decide +kernel
  · rw [decide_eq_false h, beq_eq_false_iff_ne]
    intro q; injection q with q; injection q with q; injection q with q _; exact h q
local macro_rules | `(tactic| walk_at "exec For Name Name cons nil") => `(tactic| (k_here; (rename Fr _ _ _ _ => lF'); (with_unfolding_all refine' For_invVF lF' ?k1 ?k2 ?_; (case k1 => exact rfl); (case k2 => exact rfl); k_whole)))
local macro_rules | `(tactic| walk_at "pyIter str") => `(tactic| ((with_reducible show wpAny _ _ (pyIter (Value.str _ _)) (fun it s₂ => LoopAtV _ _ _ _ _ _ _ _ _ it s₂) _ _); refine park ?_))
local macro_rules | `(tactic| walk_at "InvEndN") => `(tactic| (refine park ?_))

local macro_rules | `(tactic| kst_same) => `(tactic| (intro z h1 h2 h3; (try dsimp only at *); (simp only [List.forall_mem_cons, List.not_mem_nil, false_implies, implies_true, and_true, ne_eq] at h2); (simp [kstB, h1, h2]; done)))

theorem left_pc (w : World) (x : Str) (tx : Tok) (hx : x.length ≤ 1000) :
    PureC PySem.Challenge.rw_gd0004_01.row.prog w (Mine.hd.heap_39 w.params) 5 50 56 [.str x tx] (IsPair (leftI (KStt.codes x)).1 (leftI (KStt.codes x)).2) := by
  unfold PureC
  k_fill
  intro s dp un fr gd p loose mean mg mb X T hd hu
  k_enter
  rename_i g L' h₁ tk₁ hg X' T' F' N'
  k_steps
  refine parked ?_
  (rename Fr _ _ _ _ => lF'); (rename News _ _ _ _ => lN')
  (with_unfolding_all refine' KStt.kst_text (σ := Int × Tok × Int × Tok) (fun _ => []) (fun c => [(Str.ofString "shut", .int c.1 c.2.1), (Str.ofString "opens", .int c.2.2.1 c.2.2.2)]) (fun _ => True) [] (fun pre c => leftI pre = (c.1, c.2.2.1)) (0, _, 0, _) rfl lF' News.nil trivial (by kst_all) rfl ?turn ?done)
  · clear lF' lN'
    intro c pre post n t u h tk own he hoff _ hP F' N'
    obtain ⟨a, ta, b, tb⟩ := c
    dsimp only at *
    have hMk := kstMark
    k_steps
    all_goals (refine parked ?_; rename News _ _ _ _ => nE; refine kst_end ((_, _, _, _) : Int × Tok × Int × Tok) (by assumption) nE (by kst_in) (fun p hp => by simpa using hp) (by rfl) trivial (by kst_all) (by kst_same) ?_)
    all_goals (dsimp only; rw [leftI_snoc, hP]; unfold leftStep; dsimp only)
    · rename (((⟨#[n]⟩ : Str) == Str.ofString "(") = true) => e
      rw [one_is] at e
      rw [if_pos (by have := of_decide_eq_true e; omega)]
    · rename (((⟨#[n]⟩ : Str) == Str.ofString "(") = false) => e
      rw [one_is] at e
      rw [if_neg (by have := of_decide_eq_false e; omega), if_pos (by assumption)]
    · rename (((⟨#[n]⟩ : Str) == Str.ofString "(") = false) => e
      rw [one_is] at e
      rw [if_neg (by have := of_decide_eq_false e; omega), if_neg (by assumption)]
  · clear lF' lN'
    intro c u h tk _ hP F' N'
    obtain ⟨a, ta, b, tb⟩ := c
    dsimp only at *
    k_steps
    rename News _ _ _ _ => nE
    refine ret_of hg (by assumption) ?_
    rw [hP]
    exact ⟨_, _, _, rfl, hg ▸ News.fresh nE (.head _), News.get nE (.head _)⟩
end Mine
open PySem PySem.W PyProof.Rows PySem.Calls PySem.Spec
namespace Mine
local macro_rules | `(tactic| k_room) => `(tactic| ((try simp only [recursionLimit, cLine_is, depth_deeper, units_deeper, depth_in1, units_in1, Around.in1_depth, Around.in1_units, Around.deeper_units] at *); (try dsimp only at *); omega))
local macro_rules | `(tactic| k_enter) => `(tactic| (k_dflt (refine' enterP ?kX ?kT ?hroom ?ho ?hcd ?hbind ?hloc ?h ?hco ?hgen ?hk ?hcell; (case kX => assumption); (case kT => assumption); (case ho => k_is); (case hcd => k_is); (case hroom => k_room); (case hbind => exact BindsTo.of_eq rfl); (case hcell => decide); (case hloc => exact locs rfl); (case hco => exact rfl); (case hgen => exact rfl); (case hk => exact rfl); k_whole; intro g L' h₁ tk hg X' T' F' N'; (try dsimp only); (try k_fold))))
local macro_rules | `(tactic| k_enter) => `(tactic| (k_dflt (refine' enterPC ?kX ?kT ?hroom ?ho ?hcd ?hbind ?hkind ?hnd ?_ ?hco ?hgen ?hk; (case kX => assumption); (case kT => assumption); (case ho => k_is); (case hcd => k_is); (case hroom => k_room); (case hbind => exact BindsTo.of_eq rfl); (case hkind => exact rfl); (case hnd => decide +kernel); (case hco => exact rfl); (case hgen => exact rfl); (case hk => exact rfl); k_whole; intro g L' h₁ tk' cells' hg X' T' F' N' Y'; k_cells Y'; (try simp only [List.cons_append, List.nil_append] at N'); (try dsimp only); (try k_fold))))
local macro_rules | `(tactic| walk_at "eval ListComp") => `(tactic| (refine park ?_))
local macro_rules | `(tactic| walk_at "pyIter ref") => `(tactic| (refine park ?_))
local macro_rules | `(tactic| walk_at "eval Name") => `(tactic| (with_reducible rename Fr _ _ _ _ => kF; refine' nameB_L kF ?a1 ?a2 ?_ ?a3 ?a4 ?a5; (case a2 => with_reducible assumption); (case a1 => with_unfolding_all exact rfl); (case a3 => with_unfolding_all exact rfl); (case a4 => with_unfolding_all exact rfl); (case a5 => with_unfolding_all exact rfl)))
local macro_rules | `(tactic| walk_at "eval Name") => `(tactic| (with_reducible rename Fr _ _ _ _ => kF; refine' nameB_C kF ?a1 ?a2 ?a6 ?_ ?a3 ?a4 ?a5; (case a4 => with_unfolding_all exact rfl); (case a6 => with_unfolding_all exact rfl);  (case a2 => with_reducible assumption); (case a1 => with_reducible assumption); (case a3 => with_unfolding_all exact rfl); (case a5 => with_unfolding_all exact rfl)))
local macro_rules | `(tactic| walk_at "call ref") => `(tactic| (refine park ?_))
local macro_rules | `(tactic| walk_at "call builtin:list.append") => `(tactic| (refine park ?_))
local macro_rules | `(tactic| walk_at "binaryOp Add str str") => `(tactic| (refine' KOpn.add ?ka ?_; (case ka => omega); intro _ _ hl))
theorem one_p : Str.ofString "(" = mk [40] := by decide
theorem one_q : Str.ofString ")" = mk [41] := by decide
theorem mk_app (a b : List Nat) : mk a ++ mk b = mk (a ++ b) := by
  apply lst_inj
  simp [lst, mk, PySem.Str.cps_append]
theorem mk_len (a : List Nat) : (mk a).length = a.length := by simp [mk, Str.length]
theorem flat_len {α β : Type} : ∀ (l : List α) (f : α → List β) (c : Nat), (∀ x ∈ l, (f x).length ≤ c) → (l.flatMap f).length ≤ l.length * c
  | [], _, _, _ => by simp
  | x :: l, f, c, h => by
    have h1 := flat_len l f c fun y hy => h y (List.mem_cons_of_mem _ hy)
    have h2 := h x (List.mem_cons_self ..)
    rw [List.flatMap_cons, List.length_append, List.length_cons, Nat.succ_mul]
    omega
theorem small_n : ∀ (n : Nat), n < 4 → Builtin.Range.small 0 (2 * ((n : Int) + 1)) 2 = true := by decide
theorem size_n : ∀ (n : Nat), n < 4 → Builtin.Range.rangeSize 0 (2 * ((n : Int) + 1)) 2 = ((n + 1 : Nat) : Int) := by decide
theorem words_step (w : World) (n : Nat) (hn : n < 4) (V : Nat → List (List Nat)) (hV : ∀ k, k ≤ n → ∀ a ∈ V k, a.length ≤ 100) (hVn : ∀ k, k ≤ n → (V k).length ≤ 5) (d u : Nat) (ih : ∀ k, k ≤ n → ∀ t, PureC PySem.Challenge.rw_gd0004_01.row.prog w (Mine.hd.heap_39 w.params) d u 61 [.int (2 * (k : Int)) t] (IsTexts ((V k).map mk))) (t : Tok) :
    PureC PySem.Challenge.rw_gd0004_01.row.prog w (Mine.hd.heap_39 w.params) (d + 5) (u + 20) 61 [.int (2 * ((n : Int) + 1)) t] (IsTexts (((List.range (n + 1)).flatMap fun i => (V i).flatMap fun a => (V (n - i)).flatMap fun b => [40 :: a ++ 41 :: b]).map mk)) := by
  have ih' : ∀ (z : Int) (k : Nat), k ≤ n → z = 2 * (k : Int) → ∀ t, PureC PySem.Challenge.rw_gd0004_01.row.prog w (Mine.hd.heap_39 w.params) d u 61 [.int z t] (IsTexts ((V k).map mk)) := by
    rintro _ k hk rfl t; exact ih k hk t
  clear ih
  unfold PureC
  k_fill
  intro s dp un fr gd p loose mean mg mb X T hd hu
  k_enter
  rename_i g L' h₁ tk' hg X' T' F' o' d1' N'
  k_steps
  · exfalso; omega
  refine parked ?_
  have hD1 : o'.data = .cell (some (.int (2 * ((n : Int) + 1)) t)) := d1'
  have hcl := (N' _ (List.Mem.head _)).1
  have X1 := X'.keeps F'.keep
  have T1 := T'.keeps F'.keep
  refine comp_top (GR := fun a b => b = a) (Is := fun v a => ∃ t, v = .str (mk a) t) (out := (List.range (n + 1)).flatMap fun i => (V i).flatMap fun a => (V (n - i)).flatMap fun b => [40 :: a ++ 41 :: b]) (fun _ => rfl) (by with_unfolding_all rfl) (by decide) (by with_unfolding_all rfl) (by decide) (by intro _; with_unfolding_all rfl) (by with_unfolding_all rfl) ?_
  k_steps
  rename_i hr F2 N2 hk2
  refine parked ?_
  with_reducible rename Fr _ _ _ _ => F2
  have hcl2 := (N2 _ (List.Mem.head _)).1
  dsimp only at hcl2
  have X2 := X'.keeps F2.keep
  have T2 := T'.keeps F2.keep
  refine wpAny_mono (it_range hr (small_n n hn) (size_n n hn)) (fun it s₂ hit => ⟨_, _, ⟨_, hit⟩, ?_, ?_⟩) (fun _ _ x => x)
  · intro I fp wr St C D s' _ W hCs hDs hC hD hDC hCf hDf hwr hst cs hkp
    refine startMore (d := 0) rfl rfl (by intro _; with_unfolding_all rfl) W hst cs hkp rfl rfl rfl hC hD hDC hCf hDf hwr (fun i => (V i).flatMap fun a => (V (n - i)).flatMap fun b => [40 :: a ++ 41 :: b]) (fun _ _ _ => trivial) ?_ ?_
    · rintro i v s3 hi ⟨tv, rfl⟩ cs3 hkp3
      refine wpAny_tests_nil ?_
      simp only [if_true]
      unfold TurnMore
      obtain ⟨h4, tk4, g4, m4, ys4, rfl, rfl, hk4, hns4, ⟨-, hm4⟩, hpl4, hp4⟩ := cs3
      have F4 : Fr _ C h4 m4 := ⟨hns4, hk4, hCs⟩
      k_steps
      refine parked ?_
      with_reducible rename Fr _ C _ _ => F4
      refine use_pure (ih' _ i (by omega) (by omega) _) F4 News.nil X2 T2 (by with_unfolding_all rfl) (by show dp + 1 + d < recursionLimit; omega) (by show un + 3 + u < cLine; omega) ?_
      intro v h5 tk5 hr5 hk5 F5 N5
      refine textsLast (d := 1) (GR := fun a b => b = a) (Is := fun v a => ∃ t, v = .str (mk a) t) (C := C) (D := D) (mc := fun m => m (Str.ofString "part") = some (.int (0 + (i : Nat) * 2) tv)) (ws := [] ++ (List.range i).flatMap fun i => (V i).flatMap fun a => (V (n - i)).flatMap fun b => [40 :: a ++ 41 :: b]) (s := { s with heap := h4, toks := tk4, gens := s.gens }) rfl (.inr ⟨_, _, _, rfl, (by intro _; with_unfolding_all rfl), rfl⟩) (by with_unfolding_all rfl) hr5 hk5 ?cs rfl rfl rfl hC hD hDC (fun a => (V (n - i)).flatMap fun b => [40 :: a ++ 41 :: b]) ?hmc ?turn ?fin
      case cs => exact ⟨h4, tk4, s.gens, m4, ys4, rfl, rfl, hk4, hns4, hm4, hpl4, hp4⟩
      case hmc =>
        intro m v hm
        show (if Str.ofString "part" = Str.ofString "inner" then _ else _) = _
        rw [if_neg (by decide)]; exact hm
      case fin => exact fun s' cs' mv' => ⟨cs'.mono fun _ _ => trivial, mv'⟩
      case turn =>
        intro j a t8 s7 hj cs7 hmv7
        refine wpAny_tests_nil ?_
        simp only [if_true]
        unfold TurnMore
        obtain ⟨h8, tk8, g8, m8, ys8, rfl, rfl, hk8, hns8, ⟨hpt8, ha8⟩, hpl8, hpr8⟩ := cs7
        clear hr5 F4 F5 N5
        have F8 : Fr _ C h8 m8 := ⟨hns8, hk8, hCs⟩
        k_steps
        refine parked ?_
        with_reducible rename Fr _ C _ _ => F8
        refine use_pure (ih' _ (n - i) (by omega) (by omega) _) F8 News.nil X2 T2 (by with_unfolding_all rfl) (by show dp + 1 + d < recursionLimit; omega) (by show un + 3 + u < cLine; omega) ?_
        intro v h9 tk9 hr9 hk9 F9 N9
        refine textsLast (d := 2) (GR := fun a b => b = a) (Is := fun v a => ∃ t, v = .str (mk a) t) (C := C) (D := D) (mc := fun m => m (Str.ofString "part") = some (.int (0 + (i : Nat) * 2) tv) ∧ m (Str.ofString "inner") = some (.str (mk a) t8)) (ws := ([] ++ (List.range i).flatMap fun i => (V i).flatMap fun a => (V (n - i)).flatMap fun b => [40 :: a ++ 41 :: b]) ++ ((V i).take j).flatMap fun a => (V (n - i)).flatMap fun b => [40 :: a ++ 41 :: b]) (s := { s with heap := h8, toks := tk8, gens := s.gens }) rfl (.inl ⟨rfl, rfl⟩) (by with_unfolding_all rfl) hr9 hk9 ?cs rfl rfl rfl hC hD hDC (fun b => [40 :: a ++ 41 :: b]) ?hmc ?turn ?fin
        case cs => exact ⟨h8, tk8, s.gens, m8, ys8, rfl, rfl, hk8, hns8, ⟨hpt8, ha8⟩, hpl8, hpr8⟩
        case hmc =>
          intro m v hm
          refine ⟨?_, ?_⟩
          · show (if Str.ofString "part" = Str.ofString "rest" then _ else _) = _
            rw [if_neg (by decide)]; exact hm.1
          · show (if Str.ofString "inner" = Str.ofString "rest" then _ else _) = _
            rw [if_neg (by decide)]; exact hm.2
        case fin => exact fun s' cs' mv' => ⟨cs'.mono fun _ h => h.1, mv'⟩
        case turn =>
          clear hr9 F8 F9 N9
          intro j2 b t12 s11 hj2 cs11 hmv11
          refine wpAny_tests_nil ?_
          simp only [if_true]
          unfold TurnLast
          have cs12 := cs11
          obtain ⟨h12, tk12, g12, m12, ys12, rfl, rfl, hk12, hns12, ⟨⟨hpt12, ha12⟩, hb12⟩, hpl12, hpr12⟩ := cs11
          have F12 : Fr _ C h12 m12 := ⟨hns12, hk12, hCs⟩
          have la : (mk a).length ≤ 100 := by rw [mk_len]; exact hV i (by omega) a (List.mem_of_getElem? hj)
          have lb : (mk b).length ≤ 100 := by rw [mk_len]; exact hV (n - i) (by omega) b (List.mem_of_getElem? hj2)
          have lp : (Str.ofString "(").length = 1 := rfl
          have lq : (Str.ofString ")").length = 1 := rfl
          k_steps
          refine parked ?_
          refine append_CS (a := 40 :: a ++ 41 :: b) (cs12.stepK (fun b o e => e)) hD hDC ?hx ?hsz ?hfin
          case hx =>
            refine ⟨_, congrArg (fun z => Value.str z _) (?_ : _ = mk (40 :: a ++ 41 :: b))⟩
            rw [one_p, one_q, mk_app, mk_app, mk_app]
            simp
          case hsz =>
            have q1 : ∀ i', i' ≤ n → ∀ l : List (List Nat), l.length ≤ 5 → (l.flatMap fun a => (V (n - i')).flatMap fun b => [40 :: a ++ 41 :: b]).length ≤ 25 := fun i' hi' l hl => by
              have := flat_len l (fun a => (V (n - i')).flatMap fun b => [40 :: a ++ 41 :: b]) 5 fun a _ => by
                have := flat_len (V (n - i')) (fun b => [40 :: a ++ 41 :: b]) 1 fun b _ => Nat.le_refl _
                have := hVn (n - i') (by omega)
                omega
              omega
            have q2 := flat_len (List.range i) (fun i => (V i).flatMap fun a => (V (n - i)).flatMap fun b => [40 :: a ++ 41 :: b]) 25 fun i' hi' => by
              have : i' < i := List.mem_range.mp hi'
              exact q1 i' (by omega) _ (hVn i' (by omega))
            have q3 := q1 i (by omega) ((V i).take j) (by have := hVn i (by omega); rw [List.length_take]; omega)
            have q4 := flat_len ((V (n - i)).take j2) (fun b => [40 :: a ++ 41 :: b]) 1 fun b _ => Nat.le_refl _
            have q5 := hVn (n - i) (by omega)
            have q6 : ((V (n - i)).take j2).length ≤ 5 := by rw [List.length_take]; omega
            rw [List.length_range] at q2
            simp only [List.length_append, List.length_nil]
            omega
          case hfin =>
            intro s' cs' mv'
            exact ⟨cs'.mono fun _ h => h.1, mv'⟩
    · exact fun s' cs' _ => cs'
  · intro D h' tk9 g9 ys hg9 hk9 hnone hpl hp
    subst hg9
    show Ret s _ (.ref D) _
    obtain ⟨n', e'⟩ := hpl
    refine ⟨h', tk9, rfl, fun b o e => hk9 b o (F2.keep b o (hg ▸ e)), D, ys.toList, n', rfl, ?_, ?_, strs_of hp⟩
    · cases e : s.heap.get? D with
      | none => rfl
      | some o => have e2 := F2.keep D o (hg ▸ e); rw [hnone] at e2; cases e2
    · simpa using e'
/-- the words by half their length -/
def VV : Nat → List (List Nat)
  | 0 => [[]]
  | 1 => [[40, 41]]
  | 2 => [[40, 41, 40, 41], [40, 40, 41, 41]]
  | 3 => [[40, 41, 40, 41, 40, 41], [40, 41, 40, 40, 41, 41], [40, 40, 41, 41, 40, 41], [40, 40, 41, 40, 41, 41], [40, 40, 40, 41, 41, 41]]
  | _ => [[40, 41, 40, 41, 40, 41, 40, 41], [40, 41, 40, 41, 40, 40, 41, 41], [40, 41, 40, 40, 41, 41, 40, 41], [40, 41, 40, 40, 41, 40, 41, 41], [40, 41, 40, 40, 40, 41, 41, 41], [40, 40, 41, 41, 40, 41, 40, 41], [40, 40, 41, 41, 40, 40, 41, 41], [40, 40, 41, 40, 41, 41, 40, 41], [40, 40, 40, 41, 41, 41, 40, 41], [40, 40, 41, 40, 41, 40, 41, 41], [40, 40, 41, 40, 40, 41, 41, 41], [40, 40, 40, 41, 41, 40, 41, 41], [40, 40, 40, 41, 40, 41, 41, 41], [40, 40, 40, 40, 41, 41, 41, 41]]
theorem VV_step : ∀ n, n < 4 → VV (n + 1) = (List.range (n + 1)).flatMap fun i => (VV i).flatMap fun a => (VV (n - i)).flatMap fun b => [40 :: a ++ 41 :: b] := by decide
theorem VV_len : ∀ k, k < 4 → ∀ a ∈ VV k, a.length ≤ 100 := by decide
theorem VV_num : ∀ k, k < 4 → (VV k).length ≤ 5 := by decide
theorem PureC.mono {prog : Program} {w : World} {K : Frag} {d u d' u' : Nat} {f : Addr} {vs : List Value} {R : Heap → Value → Heap → Prop} (x : PureC prog w K d u f vs R) (hd : d ≤ d') (hu : u ≤ u') : PureC prog w K d' u' f vs R :=
  fun s dp un fr gd p loose mean mg mb X T h1 h2 => x s dp un fr gd p loose mean mg mb X T (by omega) (by omega)
theorem words0_pc (w : World) (t : Tok) :
    PureC PySem.Challenge.rw_gd0004_01.row.prog w (Mine.hd.heap_39 w.params) 5 50 61 [.int 0 t] (IsTexts ((VV 0).map mk)) := by
  unfold PureC
  k_fill
  intro s dp un fr gd p loose mean mg mb X T hd hu
  k_enter
  rename_i g L' h₁ tk' hg X' T' F' o' d1' N'
  k_steps
  with_reducible rename Fr _ _ _ _ => F2
  with_reducible rename News _ _ _ _ => N2
  have e0 : Str.ofString "" = mk [] := by decide
  have hl := N2 _ (List.Mem.head _)
  refine ret_of hg F2 ⟨_, _, _, rfl, hg ▸ hl.2.2, hl.1, ?_⟩
  show StrsAre [.str (Str.ofString "") _] [mk []]
  rw [e0]
  exact .cons _ _ .nil
theorem words_pc (w : World) : ∀ m n, n ≤ m → m ≤ 4 → ∀ t, PureC PySem.Challenge.rw_gd0004_01.row.prog w (Mine.hd.heap_39 w.params) (5 + 5 * m) (50 + 20 * m) 61 [.int (2 * (n : Int)) t] (IsTexts ((VV n).map mk))
  | 0, n, hn, hm, t => by
    obtain rfl : n = 0 := by omega
    exact words0_pc w t
  | m + 1, n, hn, hm, t => by
    by_cases h : n ≤ m
    · exact (words_pc w m n h (by omega) t).mono (by omega) (by omega)
    · obtain rfl : n = m + 1 := by omega
      have := words_step w m (by omega) VV (fun k hk => VV_len k (by omega)) (fun k hk => VV_num k (by omega)) (5 + 5 * m) (50 + 20 * m) (fun k hk t => words_pc w m k hk (by omega) t) t
      rw [← VV_step m (by omega)] at this
      exact this.mono (by omega) (by omega)
end Mine
open PySem PySem.W PyProof.Rows PySem.Calls PySem.Spec
namespace Mine
local macro_rules | `(tactic| k_room) => `(tactic| ((try simp only [recursionLimit, cLine_is, depth_deeper, units_deeper, depth_in1, units_in1, Around.in1_depth, Around.in1_units, Around.deeper_units] at *); (try dsimp only at *); omega))
local macro_rules | `(tactic| k_enter) => `(tactic| (k_dflt (refine' enterP ?kX ?kT ?hroom ?ho ?hcd ?hbind ?hloc ?h ?hco ?hgen ?hk ?hcell; (case kX => assumption); (case kT => assumption); (case ho => k_is); (case hcd => k_is); (case hroom => k_room); (case hbind => exact BindsTo.of_eq rfl); (case hcell => decide); (case hloc => exact locs rfl); (case hco => exact rfl); (case hgen => exact rfl); (case hk => exact rfl); k_whole; intro g L' h₁ tk hg X' T' F' N'; (try dsimp only); (try k_fold))))
section
variable {α β : Type} {M : Model} {A : Around} {R : GenEnd} {Y : Protocol} {n : Nat} {s₀ : Shared} {c : Code} {fs : List Frame} {s : Shared} {env : Env}
  {H : Value → Sem Fin} {gd : Bool → Bool} {lv : List Value → List Value}
theorem bind_wrap (m : Sem α) (f : α → Sem β) (K : β → Sem Fin) : (m >>= f).wrap K H gd lv = m.wrap (fun a => (f a).wrap K H gd lv) H gd lv := by
  rw [Sem.bind_eq_wrap', Sem.wrap_wrap]
  rfl
theorem seg_bw {m : Sem α} {f : α → Sem β} {K : β → Sem Fin} (h : wpAny M (A.over c fs) m (fun a s' => Seg M A R Y n s₀ c ((f a).wrap K H gd lv) fs s') (fun _ _ => False) s) :
    Seg M A R Y n s₀ c ((m >>= f).wrap K H gd lv) fs s := by
  rw [bind_wrap]
  exact seg_wrap (wpAny_mono h (fun _ _ x => x) fun _ _ x => x.elim)
theorem seg_bwAt {p : Pos} {f : Unit → Sem β} {K : β → Sem Fin} (h : Seg M A R Y n s₀ c ((f ()).wrap K H gd lv) fs s) :
    Seg M A R Y n s₀ c ((standAt p >>= f).wrap K H gd lv) fs s := seg_bw (wpAny_standAt h)
theorem seg_If {test : Expr} {body orelse : List Stmt} {pos : Pos} {K : Flow → Sem Fin}
    (h : wpAny M (A.over c fs) (isTrue test env (eval test env)) (fun b s' => Seg M A R Y n s₀ c ((if b = true then execs body env else execs orelse env).wrap K H gd lv) fs s') (fun _ _ => False) s) :
    Seg M A R Y n s₀ c ((exec (.If test body orelse pos) env).wrap K H gd lv) fs s := by
  rw [exec_If]
  exact seg_bwAt (seg_bw h)
theorem seg_stmt {st : Stmt} {K : Flow → Sem Fin} (h : wpAny M (A.over c fs) (exec st env) (fun f s' => Seg M A R Y n s₀ c (K f) fs s') (fun _ _ => False) s) : Seg M A R Y n s₀ c ((exec st env).wrap K H gd lv) fs s :=
  seg_wrap (wpAny_mono h (fun _ _ x => x) fun _ _ x => x.elim)
theorem seg_For {target iter : Expr} {body orelse : List Stmt} {pos : Pos} {K : Flow → Sem Fin} (hs : ∀ x, foldedSetIterable iter env x = pure x)
    (h : wpAny M (A.over c fs) (eval iter env) (fun x s₁ => wpAny M (A.over c fs) (pyIter x) (fun it s₂ => ∀ p, Seg M A R Y n s₀ (.forLoop target it body orelse env) (M.den (.forLoop target it body orelse env))
      (.ret (fun r => ((match r with | .ok f => (.pure f : Sem Flow) | .error e => .raise e).onRaise fun (x : Value) => do
        if (← field x 1) == Value.none then unsupported "frame.own-activation:exception-without-traceback"
        setFlight x env.frame).wrap K H gd lv) none (gd false) (lv []) c p [] :: fs) s₂) (fun _ _ => False) s₁) (fun _ _ => False) s) :
    Seg M A R Y n s₀ c ((exec (.For target iter body orelse pos) env).wrap K H gd lv) fs s := by
  rw [exec_For]
  refine seg_bwAt (seg_bw (wpAny_mono h (fun x s₁ h₁ => ?_) fun _ _ x => x))
  simp only [hs x]
  refine seg_bw (wpAny_pure (seg_bwAt (seg_bw (wpAny_holding (wpAny_mono h₁ (fun it s₂ h₂ => ?_) fun _ _ x => x)))))
  exact seg_call h₂
end

section
variable {prog : Program} {w : World} {A : Around} {R : GenEnd} {Y : Protocol} {n : Nat} {s₀ : Shared} {fs : List Frame} {s : Shared} {env : Env}
theorem seg_forLoop {target : Expr} {it : Value} {body : List Stmt}
    (h : wpAny (model prog w) (A.over (.forLoop target it body [] env) fs) (pyNext it) (fun r s₁ => match r with
      | none => Seg (model prog w) A R Y n s₀ (.block [] env) ((model prog w).den (.block [] env)) fs s₁
      | some v => wpAny (model prog w) (A.over (.forLoop target it body [] env) fs) (letOwnedTupleGo target it v) (fun _ s₂ => wpAny (model prog w) (A.over (.forLoop target it body [] env) fs) (assign target env v) (fun _ s₃ =>
          Seg (model prog w) A R Y n s₀ (.forLoop target it body [] env) ((execs body env).wrap (fun f => match f with
            | .next | .cont => .pure (.again (.forLoop target it body [] env))
            | .brk => .pure (.done .next)
            | .ret v => .pure (.done (.ret v))) (fun e => (do noteFrame e env; theTreesLotGoes e : Sem Unit).wrap (fun _ => .raise e) .raise id id) id id) fs s₃) (fun _ _ => False) s₂) (fun _ _ => False) s₁) (fun _ _ => False) s) :
    Seg (model prog w) A R Y n s₀ (.forLoop target it body [] env) ((model prog w).den (.forLoop target it body [] env)) fs s := by
  show Seg _ A R Y n s₀ _ ((forTurn target it body [] env).onRaise (fun x => do noteFrame x env; theTreesLotGoes x)) fs s
  unfold forTurn
  rw [Sem.onRaise_eq_wrap]
  refine seg_bwAt (seg_bw (wpAny_onRaise (wpAny_mono h (fun r s₁ h₁ => ?_) fun _ _ x => x.elim)))
  cases r with
  | none => exact seg_again rfl h₁
  | some v =>
    refine seg_bw (wpAny_mono h₁ (fun _ s₂ h₂ => seg_bw (wpAny_mono h₂ (fun _ s₃ h₃ => ?_) fun _ _ x => x)) fun _ _ x => x)
    rw [bind_wrap]
    rw [Sem.wrap_congr (execs body env) _ _ (K' := fun f => match f with
            | .next | .cont => .pure (.again (.forLoop target it body [] env))
            | .brk => .pure (.done .next)
            | .ret v => .pure (.done (.ret v))) (H' := (fun e => (do noteFrame e env; theTreesLotGoes e : Sem Unit).wrap (fun _ => .raise e) .raise id id))
        (fun f => by cases f <;> rfl)
        (fun e => by first | exact Sem.bind_eq_wrap _ _ | (show (do noteFrame e env; theTreesLotGoes e : Sem Unit).bind (fun _ => .raise e) = _; rw [Sem.bind_eq_wrap]))]
    exact h₃
theorem seg_block_nil {k h g l c₁ p₁ kp} (hk : Seg (model prog w) A R Y n s₀ c₁ (k (.ok .next)) fs s) :
    Seg (model prog w) A R Y n s₀ (.block [] env) ((model prog w).den (.block [] env)) (.ret k h g l c₁ p₁ kp :: fs) s := by
  exact seg_leaf (.ok .next) hk
end

section
variable {prog : Program} {w : World} {A : Around} {E : Value → Shared → Prop} {s : Shared} {env : Env}
theorem pyNext_gen {a : Addr} {g n : Nat} {gs : GenState} {P : Nat → Shared → Shared → Prop} {Y : Protocol} {Q : Option Value → Shared → Prop} (hh : A.handled = none)
    (hl : s.heap.NoLimit) (hroom : A.depth < recursionLimit)
    (hg : s.heap.IsGen a g) (hgs : s.gens[g]? = some gs)
    (hgo : gs.Goes (model prog w) A.in1 (fun n s₀ r s₁ => r = .ok (.ret .none) ∧ P n s₀ s₁) Y n (.send .none) (s.setGen g .running))
    (hY : ∀ v s₁ gs', gs'.bare = true → Y (n - 1) (s.setGen g .running) v s₁ (fun r' s'' => match n with
        | 0 => False
        | m + 1 => gs'.Goes (model prog w) A.in1 (fun n s₀ r s₁ => r = .ok (.ret .none) ∧ P n s₀ s₁) Y m r' s'') → Q (some v) (s₁.setGen g gs'))
    (hP : ∀ s₁, P n (s.setGen g .running) s₁ → ∀ h', (∀ b o, s₁.heap.get? b = some o → h'.get? b = some o) → Q none { s₁.setGen g .finished with heap := h' }) :
    wpAny (model prog w) A (pyNext (.ref a)) Q E s := by
  unfold pyNext
  refine wpAny_bind (wpAny_attempt (wpAny_callSpecial?_slot (name := Str.ofString "__next__") hg.typeIs slot_gen_next
    (wpAny_call_entry slot_gen_next hg.typeIs entry_gen_next ?_ (args_gen_next _))))
  show wpAny _ A.in1 (Builtin.Generator.genWake (.ref a) (.send .none)) _ _ s
  unfold Builtin.Generator.genWake
  refine wpAny_bind (wpAny_holding (wpAny_genNumber hg (wpAny_bind (wpAny_genState hgs ?_))))
  cases gs with
  | running => exact hgo.elim
  | finished => exact hgo.elim
  | _ =>
    refine wpAny_bind (wpAny_roomToWake hl hroom ?_)
    show wpAny _ A.in1 (.resume g (.send .none) [] _) _ _ s
    refine wpAny_resumeQ hgs hgo (fun x s₁ hx => ?_) (fun v s₁ gs' hb hv => ?_)
    · obtain ⟨rfl, hp⟩ := hx
      show wpAny _ A.in1 (newExc (.type "StopIteration") [] >>= _) _ _ _
      refine wpAny_bind ?_
      simp only [newExc, newTuple]
      refine wpAny_bind (wpAny_newObj_type ?_ (by size_fits))
      refine wpAny_bind (m := firstArgMember _ _) (wpAny_of_eq (a := Value.none) (by first | rfl | (simp only [firstArgMember]; rfl)) ?_)
      refine wpAny_newObj_type ?_ (by size_fits)
      simp only [raiseNew]
      refine wpAny_bind (wpAny_bind (wpAny_handled ?_))
      first | rw [show A.in1.handled = none from hh] | rw [hh]
      refine wpAny_throw ?_
      refine wpAny_bind (wpAny_isInstance (T := "StopIteration") (b := true) ⟨_, Heap.get?_push_size _ rfl, rfl⟩ isSubtype_stop ?_)
      exact wpAny_pure (hP s₁ hp _ fun b o hb => Heap.get?_push_of_some _ (Heap.get?_push_of_some _ hb))
    · exact wpAny_pure ⟨v, rfl, wpAny_pure (hY v s₁ gs' hb hv)⟩

theorem assign_two {p c : Str} {pp pc pos : Pos} {k : Nat} {T : Addr} {v0 v1 : Value} {m : Str → Option Value} {Q : Unit → Shared → Prop} (hh : A.handled = none) (ht : s.heap.IsTuple T #[v0, v1]) (hn : s.heap.Ns env.locals m)
    (hkp : env.kindOf p = some .local) (hkc : env.kindOf c = some .local) (hp : (env.scope.kind == .class || (env.scope.kind == .module && env.locals != env.globals)) = false)
    (h : ∀ h' tk', h'.Ns env.locals (fun y => if y = c then some v1 else if y = p then some v0 else m y) → (∀ b o, b ≠ env.locals → s.heap.get? b = some o → h'.get? b = some o) → Q () { s with heap := h', toks := tk' }) :
    wpAny (model prog w) A (assign (.Tuple [.Name p pp, .Name c pc] k pos) env (.ref T)) Q E s := by
  refine PySem.wpAny_assign_Tuple hh ht rfl rfl fun h1 he1 => ?_
  have k1 : ∀ b o, s.heap.get? b = some o → h1.get? b = some o := fun b o e => he1 b o (Nat.ne_of_lt (Heap.lt_size e)) e
  show wpAny _ _ (assignInOrder [assign (.Name p pp) env, assign (.Name c pc) env] [v0, v1]) _ _ _
  refine assignInOrder_cons (wpAny_assign_Name (wpAny_storeName_local hkp (hn.keeps k1) (fun h2 hn2 hs2 => ?_) hp))
  refine assignInOrder_cons (wpAny_assign_Name (wpAny_storeName_local hkc hn2 (fun h3 hn3 hs3 => ?_) hp))
  refine assignInOrder_nil ?_
  exact h h3 _ hn3 fun b o hb e => hs3.extBut b o hb (hs2.extBut b o hb (k1 b o e))
end

section
variable {prog : Program} {w : World} {A : Around} {E : Value → Shared → Prop} {s : Shared} {K : Frag} {f : Addr} {Q : Value → Shared → Prop}
  {p : Program} {loose : List Str} {mean : ExcName → Option Value} {mg mb : Str → Option Value}
theorem enterG {name qual : Str} {params : Arguments} {body : List Stmt} {scope : Scope} {dV kV doc pm cdv ct oc : Value} {an od : Option Addr} {osl : Array (Option Value)} {args : List Value} {binds : List (Str × Value)}
    (X : K.In s.heap) (T : Top p loose mean mg mb s.heap) (hroom : A.depth < recursionLimit)
    (ho : K.lookup f = some ⟨oc, od, .func (fnOf name qual params body scope dV kV doc pm an cdv ct), osl⟩) (hcd : codeIn K cdv qual = true)
    (hbind : BindsTo s (fnOf name qual params body scope dV kV doc pm an cdv ct) ⟨args, []⟩ binds) (hloc : ∀ y ∈ binds, scope.names.lookup y.1 = some .local)
    (h : ∀ L' a h₁ h₂ tk₂, Fr s.heap L' h₁ (fun y => binds.reverse.lookup y) → h₂.IsGen a s.gens.size → @LE.le Nat _ h₁.objs.size a → (∀ b o, h₁.get? b = some o → h₂.get? b = some o) →
      Q (.ref a) { s with heap := h₂, toks := tk₂, gens := s.gens.push (.fresh (.func body (envOf qual scope L' f cdv))) })
    (hco : scope.isCoroutine = false) (hgen : scope.isGenerator = true) (hk : scope.kind = .function) (hcell : ∀ x ∈ scope.names, x.2 ≠ .cell) :
    wpAny (model prog w) A (call (.ref f) args) Q E s := by
  refine wpAny_call ?_
  refine codeAny_call_generator hroom (X _ _ ho) rfl hco hgen rfl (codeRec_of X hcd) (hbind _ _ _ _ ?_)
  refine wpAny_newFunctionEnv hcell hloc (fun h₁ hns hsb => ?_) hk
  have hk₁ : ∀ b o, s.heap.get? b = some o → h₁.get? b = some o := fun b o e => hsb.extBut b o (Nat.ne_of_lt (Heap.lt_size e)) (Heap.get?_push_of_some _ e)
  refine ⟨T.nolimit.keeps hk₁, ?_⟩
  exact h s.heap.objs.size h₁.objs.size h₁ _ _ ⟨hns, hk₁, Nat.le_refl _⟩ ⟨_, _, _, Heap.get?_push_size _ rfl, rfl, rfl, rfl⟩ (Nat.le_refl _) fun b o e => Heap.get?_push_of_some _ e
end

/-- the heap of a later state: the generator's own objects and the ground stay -/
def alike (fp : List Addr) (h₀ h h' : Heap) : Prop := (∀ b ∈ fp, ∀ o, h.get? b = some o → h'.get? b = some o) ∧ (∀ b o, h₀.get? b = some o → h'.get? b = some o)
def GY (x : Str) (h₀ : Heap) (B : Nat) (a : Addr) : Protocol := fun n s₀ v s₁ κ => ∃ h tk T t c u fp, s₁ = { s₀ with heap := h, toks := tk } ∧ v = .ref T ∧ x.cps[x.cps.size - (n + 1)]? = some c ∧
  h.IsTuple T #[.int ((x.cps.size - (n + 1) : Nat) : Int) t, .str ⟨#[c]⟩ u] ∧ (∀ b o, @LT.lt Nat _ b B ∨ b = a → s₀.heap.get? b = some o → h.get? b = some o) ∧ (∀ b o, h₀.get? b = some o → h.get? b = some o) ∧ (∀ b ∈ fp, @LE.le Nat _ B b) ∧ (∀ s'', alike fp h₀ h s''.heap → κ (.send .none) s'')
def GP (h₀ : Heap) (B : Nat) (a : Addr) : Nat → Shared → Shared → Prop := fun n s₀ s₁ => n = 0 ∧ ∃ h tk, s₁ = { s₀ with heap := h, toks := tk } ∧ (∀ b o, @LT.lt Nat _ b B ∨ b = a → s₀.heap.get? b = some o → h.get? b = some o)
def GenAt (prog : Program) (w : World) (A : Around) (x : Str) (h₀ : Heap) (B : Nat) (a : Addr) (g : Nat) (i : Nat) (s : Shared) : Prop :=
  s.heap.IsGen a g ∧ ∃ gs fp, s.gens[g]? = some gs ∧ (∀ b ∈ fp, @LE.le Nat _ B b) ∧ ∀ s'', alike fp h₀ s.heap s''.heap → gs.Goes (model prog w) A.in1 (fun n s₀ r s₁ => r = .ok (.ret .none) ∧ GP h₀ B a n s₀ s₁) (GY x h₀ B a) (x.cps.size - i) (.send .none) s''
section
variable {prog : Program} {w : World} {A : Around} {E : Value → Shared → Prop} {s : Shared} {x : Str} {h₀ : Heap} {B : Nat} {a : Addr} {g i : Nat} {Q : Option Value → Shared → Prop}
/-- the caller's own steps leave it be -/
theorem GenAt.keep {h' : Heap} {tk' : Nat} (G : GenAt prog w A x h₀ B a g i s) (hk : ∀ b o, @LE.le Nat _ B b ∨ b = a → s.heap.get? b = some o → h'.get? b = some o) : GenAt prog w A x h₀ B a g i { s with heap := h', toks := tk' } := by
  obtain ⟨⟨o, nm, qn, ho, r⟩, gs, fp, hgs, hfp, hgo⟩ := G
  refine ⟨⟨o, nm, qn, hk _ _ (.inr rfl) ho, r⟩, gs, fp, hgs, hfp, fun s'' hal => hgo s'' ⟨fun b hb o e => hal.1 b hb o (hk b o (.inl (hfp b hb)) e), hal.2⟩⟩
theorem bare_set {gens : Array GenState} {g : Nat} {x : GenState} (h : AllBare gens) (hx : x.bare = true) : AllBare (gens.setIfInBounds g x) := fun y hy => by
  rcases Array.mem_or_eq_of_mem_setIfInBounds hy with q | q
  · exact h y q
  · exact q ▸ hx
theorem gen_next (G : GenAt prog w A x h₀ B a g i s) (hi : i < x.cps.size) (hh : A.handled = none) (hl : s.heap.NoLimit) (hroom : A.depth < recursionLimit) (hk0 : ∀ b o, h₀.get? b = some o → s.heap.get? b = some o)
    (hQ : ∀ T t c u h tk g', x.cps[i]? = some c → (AllBare s.gens → AllBare g') → h.IsTuple T #[.int (i : Int) t, .str ⟨#[c]⟩ u] → (∀ b o, @LT.lt Nat _ b B → s.heap.get? b = some o → h.get? b = some o) → (∀ b o, h₀.get? b = some o → h.get? b = some o) →
      GenAt prog w A x h₀ B a g (i + 1) { s with heap := h, toks := tk, gens := g' } → Q (some (.ref T)) { s with heap := h, toks := tk, gens := g' }) : wpAny (model prog w) A (pyNext (.ref a)) Q E s := by
  obtain ⟨hg, gs, fp, hgs, hfp, hgo⟩ := G
  refine pyNext_gen hh hl hroom hg hgs (hgo (s.setGen g .running) ⟨fun b _ o e => e, hk0⟩) (fun v s₁ gs' hb hY => ?_) (fun s₁ hP h' hk' => ?_)
  · obtain ⟨h, tk, T, t, c, u, fp', rfl, rfl, hc, hT, hk, hk1, hfp', hn⟩ := hY
    have e1 : x.cps.size - (x.cps.size - i - 1 + 1) = i := by omega
    rw [e1] at hc hT
    have hlt : g < s.gens.size := by
      rcases Nat.lt_or_ge g s.gens.size with q | q
      · exact q
      · rw [Array.getElem?_eq_none q] at hgs; cases hgs
    refine hQ T t c u h tk _ hc (fun hb' => bare_set (bare_set hb' rfl) hb) hT (fun b o hbB e => hk b o (.inl hbB) e) hk1 ⟨?_, gs', fp', ?_, hfp', fun s'' hal => ?_⟩
    · obtain ⟨o, nm, qn, ho, r⟩ := hg
      exact ⟨o, nm, qn, hk a o (.inr rfl) ho, r⟩
    · simp [Shared.setGen, hlt]
    · have e2 := hn s'' hal
      have e3 : x.cps.size - i = (x.cps.size - (i + 1)) + 1 := by omega
      rw [e3] at e2
      exact e2
  · exact absurd hP.1 (by omega)
theorem gen_end (G : GenAt prog w A x h₀ B a g i s) (hi : x.cps.size ≤ i) (hh : A.handled = none) (hl : s.heap.NoLimit) (hroom : A.depth < recursionLimit) (hk0 : ∀ b o, h₀.get? b = some o → s.heap.get? b = some o)
    (hQ : ∀ h tk g', (AllBare s.gens → AllBare g') → (∀ b o, @LT.lt Nat _ b B → s.heap.get? b = some o → h.get? b = some o) → Q none { s with heap := h, toks := tk, gens := g' }) : wpAny (model prog w) A (pyNext (.ref a)) Q E s := by
  obtain ⟨hg, gs, fp, hgs, hfp, hgo⟩ := G
  refine pyNext_gen hh hl hroom hg hgs (hgo (s.setGen g .running) ⟨fun b _ o e => e, hk0⟩) (fun v s₁ gs' hb hY => ?_) (fun s₁ hP h' hk' => ?_)
  · obtain ⟨h, tk, T, t, c, u, fp', rfl, rfl, hc, hT, hk, hk1, hfp', hn⟩ := hY
    have e2 := hn { s with heap := h } ⟨fun _ _ _ e => e, hk1⟩
    have e3 : x.cps.size - i = 0 := by omega
    rw [e3] at e2
    exact e2.elim
  · obtain ⟨-, h, tk, rfl, hk⟩ := hP
    exact hQ _ _ _ (fun hb' => bare_set (bare_set hb' rfl) rfl) fun b o hbB e => hk' b o (hk b o (.inl hbB) e)
theorem GenAt.fresh {c : Code} {h : Heap} {tk : Nat} {L : Addr} (hgen : h.IsGen a s.gens.size) (hL : @LE.le Nat _ B L) (ha : @LE.le Nat _ B a)
    (hseg : ∀ s'', alike [L, a] h₀ h s''.heap → Seg (model prog w) A.in1 (fun n s₀ r s₁ => r = .ok (.ret .none) ∧ GP h₀ B a n s₀ s₁) (GY x h₀ B a) x.cps.size s'' c ((model prog w).den c) [] s'') :
    GenAt prog w A x h₀ B a s.gens.size 0 { s with heap := h, toks := tk, gens := s.gens.push (.fresh c) } :=
  ⟨hgen, .fresh c, [L, a], Array.getElem?_push_size, (fun b hb => by rcases List.mem_cons.mp hb with rfl | hb; exact hL; rw [List.mem_singleton.mp hb]; exact ha), fun s'' hal => ⟨rfl, hseg s'' hal⟩⟩
end

section
variable {prog : Program} {w : World} {A : Around} {s : Shared} {x : Str} {tx : Tok} {h₀ : Heap} {B : Nat} {L e it a : Addr} {R : GenEnd} {Y : Protocol}
theorem enum_walk (hh : A.handled = none) (hei : e ≠ it) : WalksT prog w A e [e, it] [e, it] x.cps.size (fun i vals => ∃ t v, (∃ c u, x.cps[i]? = some c ∧ v = Value.str ⟨#[c]⟩ u) ∧ vals = #[.int i t, v])
    (fun i h => (∃ old, IsEnum h e it i old) ∧ h.IsStrIter it (strIterType x) x tx i) (fun i T h => (∃ x, IsEnumOut h e it ((i : Int) + 1) x T) ∧ h.IsStrIter it (strIterType x) x tx (i + 1) ∧ T ≠ e ∧ T ≠ it) := by
  cases ha : x.cps.all (· < 128)
  · have e1 : strIterType x = "str_iterator" := by simp [strIterType, ha]
    rw [e1]
    exact WalksT.enumerateD (Draws.strWide (A := A.in1) hh it x tx) e hei (by simpa using hei) (by simp)
  · have e1 : strIterType x = "str_ascii_iterator" := by simp [strIterType, ha]
    rw [e1]
    exact WalksT.enumerateD (Draws.strAscii (A := A.in1) hh it x tx) e hei (by simpa using hei) (by simp)

/-- between two draws -/
def GInv (x : Str) (tx : Tok) (h₀ : Heap) (B : Nat) (L e it a : Addr) (i : Nat) (s₀ s : Shared) : Prop :=
  (∃ h tk, s = { s₀ with heap := h, toks := tk } ∧ ∀ b o, @LT.lt Nat _ b B ∨ b = a → s₀.heap.get? b = some o → h.get? b = some o) ∧ (∃ m, Fr h₀ L s.heap m ∧ m (Str.ofString "escape") = some (.bool false)) ∧
  (∃ old, IsEnum s.heap e it i old) ∧ s.heap.IsStrIter it (strIterType x) x tx i
theorem gen_loop {env : Env} {pp pc pt : Pos} {k0 : Nat} {body : List Stmt} {kr : Result → Sem Fin} {hr : Option Value} {gr : Bool} {lr : List Value} {c₁ : Code} {p₁ : Pos} {kp : List Value}
    (hA : (A.over (.forLoop (.Tuple [.Name (Str.ofString "pos") pp, .Name (Str.ofString "ch") pc] k0 pt) (.ref e) body [] env) [.ret kr hr gr lr c₁ p₁ kp]).handled = none)
    (hei : e ≠ it) (hLe : L ≠ e) (hLi : L ≠ it) (hea : a ≠ e) (hia : a ≠ it) (hLa : a ≠ L) (hB : @LE.le Nat _ h₀.objs.size B) (hBL : @LE.le Nat _ B L) (hBe : @LE.le Nat _ B e) (hBi : @LE.le Nat _ B it) (hL : env.locals = L)
    (hk1 : env.kindOf (Str.ofString "pos") = some .local) (hk2 : env.kindOf (Str.ofString "ch") = some .local) (hp : (env.scope.kind == .class || (env.scope.kind == .module && env.locals != env.globals)) = false)
    (hfin : ∀ s₀ s m, (∃ h tk, s = { s₀ with heap := h, toks := tk } ∧ ∀ b o, @LT.lt Nat _ b B ∨ b = a → s₀.heap.get? b = some o → h.get? b = some o) → Fr h₀ L s.heap m → m (Str.ofString "escape") = some (.bool false) → Seg (model prog w) A R Y 0 s₀ c₁ (kr (.ok .next)) [] s)
    (hbody : ∀ k i s₀ s m c t u, i + (k + 1) = x.cps.size → x.cps[i]? = some c → (∃ h tk, s = { s₀ with heap := h, toks := tk } ∧ ∀ b o, @LT.lt Nat _ b B ∨ b = a → s₀.heap.get? b = some o → h.get? b = some o) → Fr h₀ L s.heap m →
      m (Str.ofString "escape") = some (.bool false) → m (Str.ofString "pos") = some (.int (i : Int) t) → m (Str.ofString "ch") = some (.str ⟨#[c]⟩ u) → (∃ old, IsEnum s.heap e it ((i + 1 : Nat) : Int) old) → s.heap.IsStrIter it (strIterType x) x tx (i + 1) →
      (∀ s₀' s', GInv x tx h₀ B L e it a (i + 1) s₀' s' → Seg (model prog w) A R Y k s₀' (.forLoop (.Tuple [.Name (Str.ofString "pos") pp, .Name (Str.ofString "ch") pc] k0 pt) (.ref e) body [] env) (.pure (.again (.forLoop (.Tuple [.Name (Str.ofString "pos") pp, .Name (Str.ofString "ch") pc] k0 pt) (.ref e) body [] env))) [.ret kr hr gr lr c₁ p₁ kp] s') →
      Seg (model prog w) A R Y (k + 1) s₀ (.forLoop (.Tuple [.Name (Str.ofString "pos") pp, .Name (Str.ofString "ch") pc] k0 pt) (.ref e) body [] env) ((execs body env).wrap (fun f => match f with
            | .next | .cont => .pure (.again (.forLoop (.Tuple [.Name (Str.ofString "pos") pp, .Name (Str.ofString "ch") pc] k0 pt) (.ref e) body [] env))
            | .brk => .pure (.done .next)
            | .ret v => .pure (.done (.ret v))) (fun e => (do noteFrame e env; theTreesLotGoes e : Sem Unit).wrap (fun _ => .raise e) .raise id id) id id) [.ret kr hr gr lr c₁ p₁ kp] s) :
    ∀ k i s₀ s, i + k = x.cps.size → GInv x tx h₀ B L e it a i s₀ s →
      Seg (model prog w) A R Y k s₀ (.forLoop (.Tuple [.Name (Str.ofString "pos") pp, .Name (Str.ofString "ch") pc] k0 pt) (.ref e) body [] env) ((model prog w).den (.forLoop (.Tuple [.Name (Str.ofString "pos") pp, .Name (Str.ofString "ch") pc] k0 pt) (.ref e) body [] env)) [.ret kr hr gr lr c₁ p₁ kp] s
  | 0, i, s₀, s, hi, inv => by
    obtain ⟨⟨h, tk, rfl, hkp⟩, ⟨m, F, hm⟩, he, hit⟩ := inv
    obtain rfl : i = x.cps.size := by omega
    refine seg_forLoop ?_
    refine (enum_walk (x := x) (tx := tx) hA hei).done _ _ _ ⟨he, hit⟩ fun h' tk' hk' => ?_
    have ne : ∀ b, @LT.lt Nat _ b B → b ∉ [e, it] := fun b hb hm => by
      rcases List.mem_cons.mp hm with rfl | hm
      · exact absurd hBe (Nat.not_le.mpr hb)
      · rw [List.mem_singleton.mp hm] at hb; exact absurd hBi (Nat.not_le.mpr hb)
    refine seg_block_nil (hfin s₀ _ m ⟨h', tk', rfl, fun b o hb q => hk' b o ?_ (hkp b o hb q)⟩ ⟨F.ns.at' fun o q => hk' L o (by simp [hLe, hLi]) q, fun b o q => hk' b o (ne b (Nat.lt_of_lt_of_le (Heap.lt_size q) hB)) (F.keep b o q), F.above⟩ hm)
    rcases hb with hb | rfl
    · exact ne b hb
    · simp [hea, hia]
  | k + 1, i, s₀, s, hi, inv => by
    obtain ⟨⟨h, tk, rfl, hkp⟩, ⟨m, F, hm⟩, he, hit⟩ := inv
    refine seg_forLoop ?_
    have ne : ∀ b, @LT.lt Nat _ b B → b ∉ [e, it] := fun b hb hm => by
      rcases List.mem_cons.mp hm with rfl | hm
      · exact absurd hBe (Nat.not_le.mpr hb)
      · rw [List.mem_singleton.mp hm] at hb; exact absurd hBi (Nat.not_le.mpr hb)
    refine (enum_walk (x := x) (tx := tx) hA hei).item i _ _ _ (by omega) ⟨he, hit⟩ fun T vals h1 tk1 hpt hTs hT hmid hk1' => ?_
    obtain ⟨t, v, ⟨c, u, hc, rfl⟩, rfl⟩ := hpt
    have hap := (enum_walk (prog := prog) (w := w) (x := x) (tx := tx) hA hei).apart i T h1 hmid
    refine (enum_walk (x := x) (tx := tx) hA hei).go _ _ _ i T _ _ _ hmid fun h2 hst2 hk2' => ?_
    have F2 : Fr h₀ L h2 m := ⟨F.ns.at' fun o q => hk2' L o (by simp [hLe, hLi]) (hk1' L o (by simp [hLe, hLi]) q), fun b o q => hk2' b o (ne b (Nat.lt_of_lt_of_le (Heap.lt_size q) hB)) (hk1' b o (ne b (Nat.lt_of_lt_of_le (Heap.lt_size q) hB)) (F.keep b o q)), F.above⟩
    have hT2 : h2.IsTuple T #[.int i t, .str ⟨#[c]⟩ u] := let ⟨o, ho, r⟩ := hT; ⟨o, hk2' T o hap ho, r⟩
    have ih := gen_loop hA hei hLe hLi hea hia hLa hB hBL hBe hBi hL hk1 hk2 hp hfin hbody k (i + 1)
    subst hL
    refine assign_two hA hT2 F2.ns hk1 hk2 hp fun h3 tk3 hn3 hk3 => ?_
    have neL : ∀ b, @LT.lt Nat _ b B → b ≠ env.locals := fun b hb q => by
      rw [q] at hb; exact absurd hBL (Nat.not_le.mpr hb)
    obtain ⟨⟨old, he2⟩, hit2⟩ := hst2
    refine hbody k i s₀ _ _ c t u hi hc ⟨h3, tk3, rfl, fun b o hb q => ?_⟩ ⟨hn3, fun b o q => hk3 b o (neL b (Nat.lt_of_lt_of_le (Heap.lt_size q) hB)) (F2.keep b o q), F.above⟩ ?_ ?_ ?_ ⟨old, hk3 e _ (Ne.symm hLe) he2⟩ (let ⟨o, ho, r⟩ := hit2; ⟨o, hk3 it o (Ne.symm hLi) ho, r⟩) ?_
    · rcases hb with hb | rfl
      · exact hk3 b o (neL b hb) (hk2' b o (ne b hb) (hk1' b o (ne b hb) (hkp b o (.inl hb) q)))
      · exact hk3 b o hLa (hk2' b o (by simp [hea, hia]) (hk1' b o (by simp [hea, hia]) (hkp b o (.inr rfl) q)))
    · show (if Str.ofString "escape" = Str.ofString "ch" then _ else if Str.ofString "escape" = Str.ofString "pos" then _ else _) = _
      rw [if_neg (by decide), if_neg (by decide)]; exact hm
    · show (if Str.ofString "pos" = Str.ofString "ch" then _ else if Str.ofString "pos" = Str.ofString "pos" then _ else _) = _
      rw [if_neg (by decide), if_pos rfl]
    · show (if Str.ofString "ch" = Str.ofString "ch" then _ else _) = _
      rw [if_pos rfl]
    · intro s₀' s' inv'
      exact seg_again rfl (ih s₀' s' (by omega) inv')
end

section
variable {prog : Program} {w : World} {A : Around} {E : Value → Shared → Prop} {s : Shared} {K : Frag} {f : Addr} {Q : Value → Shared → Prop}
  {p : Program} {loose : List Str} {mean : ExcName → Option Value} {mg mb : Str → Option Value}
theorem enterQ {name qual : Str} {params : Arguments} {body : List Stmt} {scope : Scope} {dV kV doc pm cdv ct oc : Value} {an od : Option Addr} {osl : Array (Option Value)} {args : List Value} {binds : List (Str × Value)}
    (X : K.In s.heap) (T : Top p loose mean mg mb s.heap) (hroom : A.depth < recursionLimit)
    (ho : K.lookup f = some ⟨oc, od, .func (fnOf name qual params body scope dV kV doc pm an cdv ct), osl⟩) (hcd : codeIn K cdv qual = true)
    (hbind : BindsTo s (fnOf name qual params body scope dV kV doc pm an cdv ct) ⟨args, []⟩ binds) (hloc : ∀ y ∈ binds, scope.names.lookup y.1 = some .local)
    (h : ∀ g L' h₁ tk, g = s.heap → K.In g → Top p loose mean mg mb g → Fr g L' h₁ (fun y => binds.reverse.lookup y) → News g L' h₁ [] →
      wpAny (model prog w) (A.deeper (envOf qual scope L' f cdv)) (execs body (envOf qual scope L' f cdv)) (fun fl s' => Q (match fl with | .ret v => v | _ => .none) s') (fun _ _ => False) { s with heap := h₁, toks := tk })
    (hco : scope.isCoroutine = false) (hgen : scope.isGenerator = false) (hk : scope.kind = .function) (hcell : ∀ x ∈ scope.names, x.2 ≠ .cell) :
    wpAny (model prog w) A (call (.ref f) args) Q (fun _ _ => False) s := by
  refine wpAny_call ?_
  refine codeAny_call_def (fd := fnOf name qual params body scope dV kV doc pm an cdv ct) (body := body) (binds := binds) hroom (X _ _ ho) rfl T.nolimit (codeRec_of X hcd) rfl hbind hcell hloc (fun h₁ hns hk₁ => ?_) hco hgen hk
  exact wpAny_mono (h s.heap s.heap.objs.size h₁ _ rfl X T ⟨hns, hk₁, Nat.le_refl _⟩ News.nil) (fun _ _ x => x) fun _ _ x => x.elim
theorem letgo_gen {elts : List Expr} {k : Nat} {pos : Pos} {a T : Addr} {g : Nat} {Q : Unit → Shared → Prop} (hg : s.heap.IsGen a g) (h : Q () s) :
    wpAny (model prog w) A (letOwnedTupleGo (.Tuple elts k pos) (.ref a) (.ref T)) Q E s := by
  obtain ⟨o, nm, qn, ho, hc, hd, hsl⟩ := hg
  unfold letOwnedTupleGo
  refine wpAny_bind (wpAny_load ho ?_)
  rw [hc, hd]
  exact wpAny_pure h
end
/-- the return of a def that may leave generators behind -/
def RetG (s : Shared) (R : Heap → Value → Heap → Prop) (v : Value) (s' : Shared) : Prop :=
  ∃ h' tk' g', s' = { s with heap := h', toks := tk', gens := g' } ∧ (AllBare s.gens → AllBare g') ∧ (∀ b o, s.heap.get? b = some o → h'.get? b = some o) ∧ R s.heap v h'
/-- the balance check, on the codes -/
def chkL : Int → List Nat → Bool
  | n, [] => decide (n = 0)
  | n, c :: r => if c = 40 then chkL (n + 1) r else if n - 1 < 0 then false else chkL (n - 1) r

section
variable {prog : Program} {w : World} {A : Around} {x : Str} {g₀ : Heap} {B : Nat} {L a : Addr} {gn : Nat} {env : Env} {R : Result → Shared → Prop}
theorem drop_cons {l : List Nat} {i c : Nat} (h : l[i]? = some c) : l.drop i = c :: l.drop (i + 1) := by
  have hlt : i < l.length := by
    rcases Nat.lt_or_ge i l.length with q | q
    · exact q
    · rw [List.getElem?_eq_none q] at h; cases h
  rw [List.drop_eq_getElem_cons hlt]
  congr 1
  rw [List.getElem?_eq_getElem hlt] at h
  exact Option.some.inj h
/-- behind one turn of the check's loop -/
def CkPost (g₀ : Heap) (L : Addr) (c : Nat) (n : Int) (s : Shared) (f : Flow) (s' : Shared) : Prop :=
  ∃ h tk, s' = { s with heap := h, toks := tk } ∧ (∀ b o, b ≠ L → s.heap.get? b = some o → h.get? b = some o) ∧ (∃ m', Fr g₀ L h m' ∧
        ((f = .ret (.bool false) ∧ c = 41 ∧ n - 1 < 0) ∨ (f = .next ∧ (c = 41 → ¬ n - 1 < 0) ∧ ∃ t', m' (Str.ofString "opens") = some (.int (if c = 40 then n + 1 else n - 1) t'))))
/-- the loop of the check over its generator -/
theorem check_loop {pp pc pt : Pos} {k0 : Nat} {body : List Stmt} (hh : A.handled = none) (hroom : A.depth < recursionLimit) (hL : env.locals = L) (hx : Br x)
    (hk1 : env.kindOf (Str.ofString "pos") = some .local) (hk2 : env.kindOf (Str.ofString "ch") = some .local) (hp : (env.scope.kind == .class || (env.scope.kind == .module && env.locals != env.globals)) = false)
    (hB : @LE.le Nat _ g₀.objs.size B) (hLB : @LT.lt Nat _ L B) (hlim : g₀.NoLimit) (haB : @LE.le Nat _ B a)
    (hbody : ∀ (s : Shared) m c n t u, c = 40 ∨ c = 41 → Fr g₀ L s.heap m → m (Str.ofString "ch") = some (.str ⟨#[c]⟩ u) → m (Str.ofString "opens") = some (.int n t) →
      wpAny (model prog w) A (execs body env) (CkPost g₀ L c n s) (fun _ _ => False) s)
    (s : Shared) (hret : ∀ h tk g' m', (AllBare s.gens → AllBare g') → Fr g₀ L h m' → chkL 0 (lst x) = false → R (.ok (.ret (.bool false))) { s with heap := h, toks := tk, gens := g' })
    (hend : ∀ h tk g' m' n t, (AllBare s.gens → AllBare g') → Fr g₀ L h m' → m' (Str.ofString "opens") = some (.int n t) → chkL 0 (lst x) = decide (n = 0) → R (.ok .next) { s with heap := h, toks := tk, gens := g' })
    {m : Str → Option Value} {t : Tok} (F : Fr g₀ L s.heap m) (hm : m (Str.ofString "opens") = some (.int 0 t)) (G : GenAt prog w A x g₀ B a gn 0 s) :
    codeAny (model prog w) A (.forLoop (.Tuple [.Name (Str.ofString "pos") pp, .Name (Str.ofString "ch") pc] k0 pt) (.ref a) body [] env) R s := by
  refine codeAny_forLoop_any (fun k s' => ∃ i h tk g' n t m', k = x.cps.size + 1 - i ∧ i ≤ x.cps.size ∧ s' = { s with heap := h, toks := tk, gens := g' } ∧ (AllBare s.gens → AllBare g') ∧ Fr g₀ L h m' ∧ m' (Str.ofString "opens") = some (.int n t) ∧ GenAt prog w A x g₀ B a gn i s' ∧ chkL n ((lst x).drop i) = chkL 0 (lst x)) ?_ (x.cps.size + 1)
    ⟨0, s.heap, s.toks, s.gens, 0, t, m, rfl, Nat.zero_le _, rfl, id, F, hm, G, by simp⟩
  rintro k _ ⟨i, h, tk, g', n, t, m', rfl, hi, rfl, hbare, F, hm, G, hck⟩
  have hlen : (lst x).length = x.cps.size := by simp [lst]
  by_cases hlt : i < x.cps.size
  · refine gen_next G hlt hh (hlim.keeps F.keep) hroom F.keep fun T t1 c u h1 tk1 g1 hc hb1 hT hk1' hk0 G1 => ?_
    refine letgo_gen G1.1 ?_
    have F1 : Fr g₀ L h1 m' := ⟨F.ns.at' fun o e => hk1' L o hLB e, hk0, F.above⟩
    subst hL
    refine assign_two hh hT F1.ns hk1 hk2 hp fun h2 tk2 hn2 hk2' => ?_
    have F2 : Fr g₀ env.locals h2 _ := ⟨hn2, fun b o e => hk2' b o (by rintro rfl; exact absurd (Heap.lt_size e) (Nat.not_lt.mpr F.above)) (hk0 b o e), F.above⟩
    have hcB : c = 40 ∨ c = 41 := hx c (by simpa [lst] using Array.mem_of_getElem? hc)
    have hdr := drop_cons (l := lst x) (i := i) (c := c) (by simpa [lst] using hc)
    rw [hdr] at hck
    refine wpAny_mono (hbody _ _ c n t u hcB F2 (by show (if Str.ofString "ch" = Str.ofString "ch" then _ else _) = _; rw [if_pos rfl])
      (by show (if Str.ofString "opens" = Str.ofString "ch" then _ else if Str.ofString "opens" = Str.ofString "pos" then _ else _) = _; rw [if_neg (by decide), if_neg (by decide)]; exact hm)) (fun f s3 h3 => ?_) fun _ _ e => e.elim
    obtain ⟨h3, tk3, rfl, hk3, m3, F3, hf⟩ := h3
    rcases hf with ⟨rfl, rfl, hneg⟩ | ⟨rfl, hnn, t3, hm3⟩
    · refine hret h3 tk3 g1 m3 (fun q => hb1 (hbare q)) F3 ?_
      rw [← hck]
      simp [chkL, hneg]
    · refine ⟨x.cps.size + 1 - (i + 1), by omega, i + 1, h3, tk3, g1, _, t3, m3, rfl, hlt, rfl, fun q => hb1 (hbare q), F3, hm3, ?_, ?_⟩
      · have G3 := G1.keep (h' := h3) (tk' := tk3) fun b o hb e => by
          have hbL : b ≠ env.locals := by
            rcases hb with hb | rfl
            · rintro rfl; exact absurd hb (Nat.not_le.mpr hLB)
            · rintro rfl; exact absurd haB (Nat.not_le.mpr hLB)
          exact hk3 b o hbL (hk2' b o hbL e)
        exact G3
      · rw [← hck]
        rcases hcB with rfl | rfl
        · simp [chkL]
        · have := hnn rfl
          simp [chkL, this]
  · obtain rfl : i = x.cps.size := by omega
    refine gen_end G (Nat.le_refl _) hh (hlim.keeps F.keep) hroom F.keep fun h1 tk1 g1 hb1 hk1' => ?_
    show wpAny _ A (execs [] env) _ _ _
    refine wpAny_execs_nil ?_
    refine hend h1 tk1 g1 m' n t (fun q => hb1 (hbare q)) ⟨F.ns.at' fun o e => hk1' L o hLB e, ?_, F.above⟩ hm ?_
    · exact fun b o e => hk1' b o (Nat.lt_of_lt_of_le (Heap.lt_size e) hB) (F.keep b o e)
    · rw [← hck, List.drop_of_length_le (by omega)]
      rfl
end
end Mine
open PySem PySem.W PyProof.Rows PySem.Calls PySem.Spec
namespace Mine
local macro_rules | `(tactic| k_room) => `(tactic| ((try simp only [recursionLimit, cLine_is, depth_deeper, units_deeper, depth_in1, units_in1, Around.in1_depth, Around.in1_units, Around.deeper_units] at *); (try dsimp only at *); omega))
local macro_rules | `(tactic| k_enter) => `(tactic| (k_dflt (refine' enterP ?kX ?kT ?hroom ?ho ?hcd ?hbind ?hloc ?h ?hco ?hgen ?hk ?hcell; (case kX => assumption); (case kT => assumption); (case ho => k_is); (case hcd => k_is); (case hroom => k_room); (case hbind => exact BindsTo.of_eq rfl); (case hcell => decide); (case hloc => exact locs rfl); (case hco => exact rfl); (case hgen => exact rfl); (case hk => exact rfl); k_whole; intro g L' h₁ tk hg X' T' F' N'; (try dsimp only); (try k_fold))))
local macro_rules | `(tactic| walk_at "eval Name") => `(tactic| (with_reducible rename Fr _ _ _ _ => kF; refine' nameB_L kF ?a1 ?a2 ?_ ?a3 ?a4 ?a5; (case a2 => with_reducible assumption); (case a1 => with_unfolding_all exact rfl); (case a3 => with_unfolding_all exact rfl); (case a4 => with_unfolding_all exact rfl); (case a5 => with_unfolding_all exact rfl)))
local macro_rules | `(tactic| walk_at "call type:enumerate") => `(tactic| (refine park ?_))
local macro_rules | `(tactic| walk_at "storeName") => `(tactic| (refine park ?_))
local macro_rules | `(tactic| walk_at "newTuple") => `(tactic| (refine park ?_))
theorem gen_pc (w : World) (x : Str) (tx : Tok) (hx : ∀ c ∈ lst x, c ≠ 92) (h₀ : Heap) (s : Shared) (dp un : Nat) (fr : Option (List Env)) (gd : Option (List Code)) (p : Program) (loose : List Str) (mean : ExcName → Option Value) (mg mb : Str → Option Value)
    (X0 : (Mine.hd.heap_39 w.params).In h₀) (T0 : Top p loose mean mg mb h₀) (hk0 : ∀ b o, h₀.get? b = some o → s.heap.get? b = some o) (hs0 : @LE.le Nat _ h₀.objs.size s.heap.objs.size) (hd : dp + 1 < recursionLimit) :
    wpAny (model PySem.Challenge.rw_gd0004_01.row.prog w) { handled := none, depth := dp, frames := fr, guards := gd, units := un } (call (.ref 21) [.str x tx])
      (fun v s' => ∃ a h tk g', v = .ref a ∧ s' = { s with heap := h, toks := tk, gens := g' } ∧ (AllBare s.gens → AllBare g') ∧ (∀ b o, s.heap.get? b = some o → h.get? b = some o) ∧ @LE.le Nat _ s.heap.objs.size a ∧
        ∀ A', A'.handled = none → GenAt PySem.Challenge.rw_gd0004_01.row.prog w A' x h₀ s.heap.objs.size a s.gens.size 0 s') (fun _ _ => False) s := by
  have X := X0.keeps hk0
  have T := T0.keeps hk0
  revert X T hd X0
  k_fill
  intro hd X0 X T
  k_dflt (refine' enterG ?kX ?kT ?hroom ?ho ?hcd ?hbind ?hloc ?h ?hco ?hgen ?hk ?hcell; (case kX => assumption); (case kT => assumption); (case ho => k_is); (case hcd => k_is); (case hroom => k_room); (case hbind => exact BindsTo.of_eq rfl); (case hcell => decide); (case hloc => exact locs rfl); (case hco => exact rfl); (case hgen => exact rfl); (case hk => exact rfl); k_whole)
  case h =>
    intro L' a h₁ h₂ tk₂ F hgen ha hk
    have hLa : L' < a := Nat.lt_of_lt_of_le F.ns.lt ha
    have hBL : @LE.le Nat _ s.heap.objs.size L' := F.above
    have hBa : @LE.le Nat _ s.heap.objs.size a := Nat.le_trans hBL (Nat.le_of_lt hLa)
    refine ⟨a, h₂, tk₂, _, rfl, rfl, fun hb => hb.push rfl, fun b o e => hk b o (F.keep b o e), hBa, fun A' hA => GenAt.fresh hgen F.above hBa fun s'' hal => ?_⟩
    · obtain ⟨hd', dp', fr', gd', un'⟩ := A'
      obtain rfl : hd' = none := hA
      have F2 : Fr h₀ L' s''.heap _ := ⟨F.ns.at' fun o e => hal.1 L' (by simp) o (hk L' o e), hal.2, Nat.le_trans hs0 hBL⟩
      have hga : ∃ o, s''.heap.get? a = some o := by obtain ⟨o, nm, qn, ho, r⟩ := hgen; exact ⟨o, hal.1 a (by simp) o ho⟩
      clear F hal hk hgen ha X T
      generalize hB : s.heap.objs.size = B at hBL hBa hs0 ⊢
      have T := T0
      refine seg_func (seg_execs_cons (seg_stmt ?_))
      k_steps
      refine parked ?_
      refine wpAny_storeName_local rfl F2.ns (fun h3 hn3 hs3 => ?_) rfl
      have F3 := F2.set hn3 hs3
      have k3 : ∀ b o, b ≠ L' → s''.heap.get? b = some o → h3.get? b = some o := fun b o hb e => hs3.extBut b o hb e
      clear F2
      refine seg_execs_cons (seg_stmt ?_)
      k_steps
      refine parked ?_
      refine wpAny_storeName_local rfl F3.ns (fun h4 hn4 hs4 => ?_) rfl
      have F4 := F3.set hn4 hs4
      have k4 : ∀ b o, b ≠ L' → s''.heap.get? b = some o → h4.get? b = some o := fun b o hb e => hs4.extBut b o hb (k3 b o hb e)
      clear F3
      refine seg_execs_cons (seg_For (by intro _; with_unfolding_all rfl) ?_)
      k_steps
      refine parked ?_
      refine call_enumerate_str fun h5 he hit hsz hk5 => ?_
      refine PySem.wpAny_pyIter_enum he fun p => ?_
      dsimp only at he hit hk5
      have hL4 : L' < h4.objs.size := F4.ns.lt
      have ha4 : a < h4.objs.size := by obtain ⟨o, ho⟩ := hga; exact Heap.lt_size (k4 a o (Ne.symm (Nat.ne_of_lt hLa)) ho)
      have hB4 : @LE.le Nat _ B h4.objs.size := Nat.le_trans hBL (Nat.le_of_lt hL4)
      have F5 : Fr h₀ L' h5 _ := ⟨F4.ns.keeps hk5, fun b o e => hk5 b o (F4.keep b o e), F4.above⟩
      refine gen_loop (h₀ := h₀) (B := B) (L := L') (e := h4.objs.size + 1) (it := h4.objs.size) (a := a) (x := x) (tx := tx) (by with_unfolding_all rfl) (Nat.succ_ne_self _) (Nat.ne_of_lt (Nat.lt_succ_of_lt hL4)) (Nat.ne_of_lt hL4) (Nat.ne_of_lt (Nat.lt_succ_of_lt ha4)) (Nat.ne_of_lt ha4) (Ne.symm (Nat.ne_of_lt hLa)) hs0 hBL (Nat.le_succ_of_le hB4) hB4 rfl rfl rfl rfl ?fin ?body x.cps.size 0 s'' _ (Nat.zero_add _) ⟨⟨h5, _, rfl, ?ki⟩, ⟨_, F5, ?es⟩, ⟨_, he⟩, hit⟩
      case es => rfl
      case ki =>
        intro b o hb e
        refine hk5 b o (k4 b o ?_ e)
        rcases hb with hb | rfl
        · exact fun q => absurd (q ▸ hb) (Nat.not_lt.mpr hBL)
        · exact Ne.symm (Nat.ne_of_lt hLa)
      case fin =>
        intro s₀ s6 m6 hm6 F6 hes
        clear hit he F5 F4 hk5 k4 k3 hn4 hs4 hn3 hs3 hga
        refine seg_execs_cons (seg_If ?_)
        k_steps
        simp only [Bool.false_eq_true, if_false]
        obtain ⟨h7, tk7, rfl, hk7⟩ := hm6
        exact seg_end (.ok (.ret .none)) ⟨rfl, rfl, h7, _, rfl, hk7⟩
      case body =>
        intro k i s₀ s6 m6 c t u hik hc hm6 F6 hes hps hch he6 hit6 hnext
        clear hit he F5 F4 hk5 k4 k3 hn4 hs4 hn3 hs3 hga
        refine seg_execs_cons (seg_If ?_)
        k_steps
        simp only [Bool.false_eq_true, if_false]
        refine seg_execs_cons (seg_If ?_)
        k_steps
        have hc92 : c ≠ 92 := hx c (by simpa [lst] using Array.mem_of_getElem? hc)
        have hne : (⟨#[c]⟩ : Str) ≠ Str.ofString "\\" := fun q => hc92 (by rw [show Str.ofString "\\" = ⟨#[92]⟩ by decide] at q; simpa using q)
        rw [if_neg (by simpa using hne)]
        refine seg_execs_cons (seg_Expr_Yield rfl rfl rfl ?_)
        k_steps
        refine parked ?_
        with_reducible rename Fr _ _ _ _ => F6
        refine wpAny_newTuple ?_
        intro kap hkap
        obtain ⟨h7, tk7, rfl, hk7⟩ := hm6
        have e1 : x.cps.size - (k + 1) = i := by omega
        have hL7 : L' < h7.objs.size := F6.ns.lt
        refine ⟨_, _, _, t, c, u, [L', h4.objs.size + 1, h4.objs.size, a], rfl, rfl, ?_, ?_, ?_, ?_, ?_, ?_⟩
        · rw [e1]; exact hc
        · rw [e1]; exact ⟨_, Heap.get?_push_size _ rfl, rfl, _, rfl⟩
        · exact fun b o hb e => Heap.get?_push_of_some _ (hk7 b o hb e)
        · exact fun b o e => Heap.get?_push_of_some _ (F6.keep b o e)
        · intro b hb
          simp at hb
          rcases hb with rfl | rfl | rfl | rfl
          · exact hBL
          · exact Nat.le_succ_of_le hB4
          · exact hB4
          · exact hBa
        · intro s9 hal
          refine hkap .none s9 ?_
          have F9 : Fr h₀ L' s9.heap m6 := ⟨F6.ns.at' fun o e => hal.1 L' (by simp) o (Heap.get?_push_of_some _ e), hal.2, F6.above⟩
          obtain ⟨old, he7⟩ := he6
          refine hnext s9 s9 ⟨⟨s9.heap, s9.toks, rfl, fun _ _ _ e => e⟩, ⟨m6, F9, hes⟩, ⟨old, hal.1 _ (by simp) _ (Heap.get?_push_of_some _ he7)⟩, ?_⟩
          obtain ⟨o, ho, r⟩ := hit6
          exact ⟨o, hal.1 _ (by simp) o (Heap.get?_push_of_some _ ho), r⟩
end Mine
open PySem PySem.W PyProof.Rows PySem.Calls PySem.Spec
namespace Mine
local macro_rules | `(tactic| k_room) => `(tactic| ((try simp only [recursionLimit, cLine_is, depth_deeper, units_deeper, depth_in1, units_in1, Around.in1_depth, Around.in1_units, Around.deeper_units] at *); (try dsimp only at *); omega))
local macro_rules | `(tactic| k_enter) => `(tactic| (k_dflt (refine' enterP ?kX ?kT ?hroom ?ho ?hcd ?hbind ?hloc ?h ?hco ?hgen ?hk ?hcell; (case kX => assumption); (case kT => assumption); (case ho => k_is); (case hcd => k_is); (case hroom => k_room); (case hbind => exact BindsTo.of_eq rfl); (case hcell => decide); (case hloc => exact locs rfl); (case hco => exact rfl); (case hgen => exact rfl); (case hk => exact rfl); k_whole; intro g L' h₁ tk hg X' T' F' N'; (try dsimp only); (try k_fold))))
theorem strip_pc (w : World) (x : Str) (tx : Tok) (hl : x.length ≤ 1000) (hx : ∀ c ∈ lst x, c ≠ 34) :
    PureC PySem.Challenge.rw_gd0004_01.row.prog w (Mine.hd.heap_39 w.params) 5 50 28 [.str x tx] (fun _ v _ => v = .str x tx) := by
  unfold PureC
  k_fill
  intro s dp un fr gd p loose mean mg mb X T hd hu
  k_enter
  rename_i g L' h₁ tk₁ hg X' T' F' N'
  k_steps
  · show Ret s _ (.str x tx) _
    exact ret_of hg F' rfl
  · exfalso
    rename (Builtin.Str.occurrences _ _ _ _ _).isEmpty = false => q
    have q2 := StrLaws.found_one x 34
    rw [← show Str.ofString "\"" = ⟨#[34]⟩ by decide, q] at q2
    exact hx 34 (by simpa [lst] using q2) rfl
end Mine
open PySem PySem.W PyProof.Rows PySem.Calls PySem.Spec
namespace Mine
local macro_rules | `(tactic| k_room) => `(tactic| ((try simp only [recursionLimit, cLine_is, depth_deeper, units_deeper, depth_in1, units_in1, Around.in1_depth, Around.in1_units, Around.deeper_units] at *); (try dsimp only at *); omega))
local macro_rules | `(tactic| k_enter) => `(tactic| (k_dflt (refine' enterP ?kX ?kT ?hroom ?ho ?hcd ?hbind ?hloc ?h ?hco ?hgen ?hk ?hcell; (case kX => assumption); (case kT => assumption); (case ho => k_is); (case hcd => k_is); (case hroom => k_room); (case hbind => exact BindsTo.of_eq rfl); (case hcell => decide); (case hloc => exact locs rfl); (case hco => exact rfl); (case hgen => exact rfl); (case hk => exact rfl); k_whole; intro g L' h₁ tk hg X' T' F' N'; (try dsimp only); (try k_fold))))
local macro_rules | `(tactic| walk_at "storeName") => `(tactic| (refine park ?_))
local macro_rules | `(tactic| walk_at "exec For") => `(tactic| (refine park ?_))
local macro_rules | `(tactic| walk_at "call ref") => `(tactic| (refine park ?_))
local macro_rules | `(tactic| k_enter) => `(tactic| (k_dflt (refine' enterQ ?kX ?kT ?hroom ?ho ?hcd ?hbind ?hloc ?h ?hco ?hgen ?hk ?hcell; (case kX => assumption); (case kT => assumption); (case ho => k_is); (case hcd => k_is); (case hroom => k_room); (case hbind => exact BindsTo.of_eq rfl); (case hcell => decide); (case hloc => exact locs rfl); (case hco => exact rfl); (case hgen => exact rfl); (case hk => exact rfl); k_whole; intro g L' h₁ tk hg X' T' F' N'; (try dsimp only); (try k_fold))))
local macro_rules | `(tactic| walk_at "eval Name") => `(tactic| (with_reducible rename Fr _ _ _ _ => kF; refine' nameB_L kF ?a1 ?a2 ?_ ?a3 ?a4 ?a5; (case a2 => with_reducible assumption); (case a1 => with_unfolding_all exact rfl); (case a3 => with_unfolding_all exact rfl); (case a4 => with_unfolding_all exact rfl); (case a5 => with_unfolding_all exact rfl)))
theorem use_gen (w : World) (x : Str) (tx : Tok) (hx : ∀ c ∈ lst x, c ≠ 92) (h₀ : Heap) (s : Shared) {A : Around} {E : Value → Shared → Prop} {p : Program} {loose : List Str} {mean : ExcName → Option Value} {mg mb : Str → Option Value}
    (hk0 : ∀ b o, h₀.get? b = some o → s.heap.get? b = some o) (hs0 : @LE.le Nat _ h₀.objs.size s.heap.objs.size) (X0 : (Mine.hd.heap_39 w.params).In h₀) (T0 : Top p loose mean mg mb h₀) (hh : A.handled = none) (hd : A.depth + 1 < recursionLimit) {Q : Value → Shared → Prop}
    (h : ∀ a h tk g', (AllBare s.gens → AllBare g') → (∀ b o, s.heap.get? b = some o → h.get? b = some o) → @LE.le Nat _ s.heap.objs.size a →
        (∀ {A'}, A'.handled = none → GenAt PySem.Challenge.rw_gd0004_01.row.prog w A' x h₀ s.heap.objs.size a s.gens.size 0 { s with heap := h, toks := tk, gens := g' }) → Q (.ref a) { s with heap := h, toks := tk, gens := g' }) :
    wpAny (model PySem.Challenge.rw_gd0004_01.row.prog w) A (call (.ref 21) [.str x tx]) Q E s := by
  obtain ⟨hd0, dp, fr, gd, un⟩ := A
  obtain rfl : hd0 = none := hh
  refine wpAny_mono (gen_pc w x tx hx h₀ s dp un fr gd p loose mean mg mb X0 T0 hk0 hs0 hd) (fun v s' hv => ?_) fun _ _ e => e.elim
  obtain ⟨a, h1, tk1, g1, rfl, rfl, hb, hk, ha, hG⟩ := hv
  exact h a h1 tk1 g1 hb hk ha fun {A'} hA => hG A' hA
theorem check_pc (w : World) (x : Str) (tx : Tok) (hl : x.length ≤ 1000) (hx : Br x) (s : Shared) (dp un : Nat) (fr : Option (List Env)) (gd : Option (List Code)) (p : Program) (loose : List Str) (mean : ExcName → Option Value) (mg mb : Str → Option Value)
    (X : (Mine.hd.heap_39 w.params).In s.heap) (T : Top p loose mean mg mb s.heap) (hd : dp + 20 < recursionLimit) (hu : un + 200 < cLine) :
    wpAny (model PySem.Challenge.rw_gd0004_01.row.prog w) { handled := none, depth := dp, frames := fr, guards := gd, units := un } (call (.ref 35) [.str x tx]) (RetG s fun _ v _ => v = .bool (chkL 0 (lst x))) (fun _ _ => False) s := by
  revert X T hd hu
  k_fill
  intro X T hd hu
  k_enter
  rename_i g L' h₁ tk₁ hg X' T' F' N'
  k_steps
  refine parked ?_
  refine use_pure (strip_pc w x tx hl (fun c hc q => by rcases hx c hc with h | h <;> omega)) F' N' X' T' (by with_unfolding_all rfl) (by show dp + 1 + 5 < recursionLimit; omega) (by show un + 3 + 50 < cLine; omega) ?_
  rintro v h2 tk2 rfl hk2 F2 N2
  k_steps
  refine parked ?_
  refine wpAny_storeName_local rfl F2.ns (fun h3 hn3 hs3 => ?_) rfl
  have F3 := F2.set hn3 hs3
  clear F' F2
  k_steps
  refine parked ?_
  refine wpAny_storeName_local rfl F3.ns (fun h4 hn4 hs4 => ?_) rfl
  have F4 := F3.set hn4 hs4
  clear F3
  k_steps
  refine parked ?_
  have hfm4 := F4
  refine wpAny_For ?_ (by intro _; with_unfolding_all rfl)
  k_steps
  refine parked ?_
  refine use_gen w x tx (fun c hc q => by rcases hx c hc with h | h <;> omega) g _ hfm4.keep (Nat.le_trans hfm4.above (Nat.le_of_lt hfm4.ns.lt)) X' T' (by with_unfolding_all rfl) (by show dp + 1 + 1 < recursionLimit; omega) ?_
  intro a h6 tk6 g6 hb6 hk6 ha6 hG6
  refine wpAny_pyIter_gen (hG6 (A' := {}) rfl).1 ?_
  have F6 := fr_grown hfm4 hk6
  refine check_loop (x := x) (g₀ := g) (B := h4.objs.size) (L := L') (by with_unfolding_all rfl) (by show dp + 1 < recursionLimit; omega) rfl hx rfl rfl rfl (Nat.le_trans hfm4.above (Nat.le_of_lt hfm4.ns.lt)) hfm4.ns.lt T'.nolimit ha6 ?body _ ?ret ?fin F6 rfl (hG6 (by with_unfolding_all rfl))
  case body =>
    clear hG6 F6 hb6 hk6 hn4 hs4 hn3 hs3 hk2 N2 F4 hfm4
    intro s8 m8 c n t u hc F8 hch hop
    rcases hc with rfl | rfl
    · rw [show (⟨#[40]⟩ : Str) = Str.ofString "(" by decide] at hch
      k_steps
      with_reducible rename Fr _ _ _ _ => F8
      refine wpAny_loadName_local rfl rfl F8.ns hop ?_
      k_steps
      refine parked ?_
      with_reducible rename Fr _ _ _ _ => F8
      refine wpAny_storeName_local rfl F8.ns (fun h9 hn9 hs9 => ?_) rfl
      have F9 := F8.set hn9 hs9
      clear F8
      k_steps
      with_reducible rename Fr _ _ _ _ => F9
      exact ⟨h9, _, rfl, fun b o hb e => hs9.extBut b o hb e, _, F9, .inr ⟨rfl, fun q => absurd q (by decide), _, rfl⟩⟩
    · rw [show (⟨#[41]⟩ : Str) = Str.ofString ")" by decide] at hch
      k_steps
      with_reducible rename Fr _ _ _ _ => F8
      refine wpAny_loadName_local rfl rfl F8.ns hop ?_
      k_steps
      refine parked ?_
      with_reducible rename Fr _ _ _ _ => F8
      refine wpAny_storeName_local rfl F8.ns (fun h9 hn9 hs9 => ?_) rfl
      have F9 := F8.set hn9 hs9
      clear F8
      k_steps
      · with_reducible rename Fr _ _ _ _ => F9
        exact ⟨h9, _, rfl, fun b o hb e => hs9.extBut b o hb e, _, F9, .inl ⟨rfl, rfl, by assumption⟩⟩
      · with_reducible rename Fr _ _ _ _ => F9
        exact ⟨h9, _, rfl, fun b o hb e => hs9.extBut b o hb e, _, F9, .inr ⟨rfl, fun _ => by assumption, _, rfl⟩⟩
  case ret =>
    intro h9 tk9 g9 m9 hb9 F9 hck
    show RetG s _ (.bool false) _
    exact ⟨h9, tk9, g9, rfl, fun q => hb9 (hb6 q), fun b o e => F9.keep b o (hg ▸ e), by rw [hck]⟩
  case fin =>
    intro h9 tk9 g9 m9 n9 t9 hb9 F9 hm9 hck
    k_steps
    with_reducible rename Fr _ _ h9 _ => F9
    show RetG s _ (.bool (n9 == 0)) _
    exact ⟨h9, _, g9, rfl, fun q => hb9 (hb6 q), fun b o e => F9.keep b o (hg ▸ e), by rw [hck]; rfl⟩
end Mine
open PySem PySem.W PyProof.Rows PySem.Calls PySem.Spec
namespace Mine
local macro_rules | `(tactic| k_room) => `(tactic| ((try simp only [recursionLimit, cLine_is, depth_deeper, units_deeper, depth_in1, units_in1, Around.in1_depth, Around.in1_units, Around.deeper_units] at *); (try dsimp only at *); omega))
local macro_rules | `(tactic| k_enter) => `(tactic| (k_dflt (refine' enterP ?kX ?kT ?hroom ?ho ?hcd ?hbind ?hloc ?h ?hco ?hgen ?hk ?hcell; (case kX => assumption); (case kT => assumption); (case ho => k_is); (case hcd => k_is); (case hroom => k_room); (case hbind => exact BindsTo.of_eq rfl); (case hcell => decide); (case hloc => exact locs rfl); (case hco => exact rfl); (case hgen => exact rfl); (case hk => exact rfl); k_whole; intro g L' h₁ tk hg X' T' F' N'; (try dsimp only); (try k_fold))))
/-- the words of n signs -/
def wds : Nat → List (List Nat)
  | 0 => [[]]
  | n + 1 => (wds n).flatMap fun l => [40 :: l, 41 :: l]
theorem mem_wds : ∀ (l : List Nat), (∀ c ∈ l, c = 40 ∨ c = 41) → l ∈ wds l.length
  | [], _ => by simp [wds]
  | c :: l, h => by
    have ih := mem_wds l fun d hd => h d (List.mem_cons_of_mem _ hd)
    rw [List.length_cons]
    unfold wds
    refine List.mem_flatMap.mpr ⟨l, ih, ?_⟩
    rcases h c (List.mem_cons_self ..) with rfl | rfl <;> simp
theorem all_wds (P : List Nat → Bool) (h : ∀ n, n ≤ 6 → (wds n).all P = true) (l : List Nat) (hl : l.length ≤ 6) (hb : ∀ c ∈ l, c = 40 ∨ c = 41) : P l = true :=
  List.all_eq_true.mp (h l.length hl) l (mem_wds l hb)
theorem join_all : ∀ n, n ≤ 6 → (wds n).all (fun l => decide (Txt.join (Str.ofString "") (l.map fun c => mk [c]) = mk l)) = true := by decide +kernel
theorem join_mk (l : List Nat) (hl : l.length ≤ 6) (hb : ∀ c ∈ l, c = 40 ∨ c = 41) : Txt.join (Str.ofString "") (l.map fun c => mk [c]) = mk l := by
  simpa using all_wds _ join_all l hl hb
/-- the sign of a number -/
def sg (k : Int) : Nat := if k % 2 = 0 then 40 else 41
theorem sg_br (k : Int) : sg k = 40 ∨ sg k = 41 := by unfold sg; split <;> simp
theorem item_sg (k : Int) : Txt.item (Str.ofString "()") (k.fmod 2) = mk [sg k] := by
  have e : k.fmod 2 = k % 2 := Int.fmod_eq_emod_of_nonneg k (by decide)
  rw [e]
  unfold sg
  rcases Int.emod_two_eq k with h | h <;> rw [h] <;> decide
theorem chars_of {vs : List Value} {cs : List Nat} (h : Paired (fun v c => ∃ t, v = Value.str (mk [c]) t) vs cs) : StrsAre vs (cs.map fun c => mk [c]) := by
  induction h with
  | nil => exact .nil
  | cons h r ih => obtain ⟨t, rfl⟩ := h; exact .cons _ t ih
theorem flat_single {α β : Type} (f : α → β) (l : List α) : l.flatMap (fun k => [f k]) = l.map f := by
  induction l with
  | nil => rfl
  | cons a l ih => rw [List.flatMap_cons, ih]; rfl
theorem sum_ones (l : List Nat) : ((l.map fun c => mk [c]).map (·.length)).sum = l.length := by
  induction l with
  | nil => rfl
  | cons a l ih => rw [List.map_cons, List.map_cons, List.sum_cons, ih, List.length_cons]; show 1 + _ = _; omega
end Mine
open PySem PySem.W PyProof.Rows PySem.Calls PySem.Spec
namespace Mine
local macro_rules | `(tactic| k_room) => `(tactic| ((try simp only [recursionLimit, cLine_is, depth_deeper, units_deeper, depth_in1, units_in1, Around.in1_depth, Around.in1_units, Around.deeper_units] at *); (try dsimp only at *); omega))
local macro_rules | `(tactic| k_enter) => `(tactic| (k_dflt (refine' enterP ?kX ?kT ?hroom ?ho ?hcd ?hbind ?hloc ?h ?hco ?hgen ?hk ?hcell; (case kX => assumption); (case kT => assumption); (case ho => k_is); (case hcd => k_is); (case hroom => k_room); (case hbind => exact BindsTo.of_eq rfl); (case hcell => decide); (case hloc => exact locs rfl); (case hco => exact rfl); (case hgen => exact rfl); (case hk => exact rfl); k_whole; intro g L' h₁ tk hg X' T' F' N'; (try dsimp only); (try k_fold))))
/-- all closing words -/
def VVall : List (List Nat) := (List.range 5).flatMap fun i => (VV i).flatMap fun a => [a]
def shu (l : List Nat) : Int := (leftI (KStt.codes (mk l))).1
def ope (l : List Nat) : Int := (leftI (KStt.codes (mk l))).2
theorem fact1_all : ∀ n, n ≤ 6 → (wds n).all (fun l => !(chkL 0 (lst (mk l)) != ((leftI (KStt.codes (mk l))).1 == 0 && (leftI (KStt.codes (mk l))).2 == 0))) = true := by decide +kernel
theorem fact1 (l : List Nat) (hl : l.length ≤ 6) (hb : ∀ c ∈ l, c = 40 ∨ c = 41) : (chkL 0 (lst (mk l)) != ((leftI (KStt.codes (mk l))).1 == 0 && (leftI (KStt.codes (mk l))).2 == 0)) = false := by
  simpa using all_wds _ fact1_all l hl hb
theorem sizes_at : ∀ i : Nat, i < 5 → ([0, 2, 4, 6, 8] : List Int)[i]? = some (2 * (i : Int)) := by decide
theorem VV_num4 : ∀ k, k < 5 → (VV k).length ≤ 14 := by decide
theorem VVall_br : ∀ a ∈ VVall, ∀ c ∈ a, c = 40 ∨ c = 41 := by decide
theorem VVall_len : ∀ a ∈ VVall, a.length ≤ 8 := by decide
theorem VVall_chk : ∀ a ∈ VVall, chkL 0 (lst (mk a)) = true := by decide +kernel
theorem VVall_num : VVall.length = 23 := by decide
def due (l : List Nat) : Int := 2 * ((leftI (KStt.codes (mk l))).1 + 1).fdiv 2 + 2 * ((leftI (KStt.codes (mk l))).2 + 1).fdiv 2
/-- d is the least distance -/
def isMin (l : List Nat) (d : Int) : Bool := VVall.any (fun v => levL l v == d) && VVall.all (fun v => decide (d ≤ levL l v))
theorem min_is {l : List Nat} {d M : Int} (h : isMin l d = true) (hM : M ∈ VVall.map (levL l)) (hm : ∀ a ∈ VVall.map (levL l), M ≤ a) : M = d := by
  unfold isMin at h
  rw [Bool.and_eq_true] at h
  obtain ⟨h1, h2⟩ := h
  obtain ⟨v, hv, e⟩ := List.any_eq_true.mp h1
  obtain ⟨u, hu, rfl⟩ := List.mem_map.mp hM
  have q1 := hm _ (List.mem_map_of_mem hv)
  have q2 := of_decide_eq_true (List.all_eq_true.mp h2 u hu)
  have q3 : levL l v = d := by simpa using e
  omega
theorem fact2_low : ∀ n, n ≤ 4 → (wds n).all (fun l => isMin l (due l)) = true := by decide +kernel
theorem fact2_five0 : ((wds 5).take 16).all (fun l => isMin l (due l)) = true := by decide +kernel
theorem fact2_five1 : ((wds 5).drop 16).all (fun l => isMin l (due l)) = true := by decide +kernel
theorem fact2_six0 : ((wds 6).take 16).all (fun l => isMin l (due l)) = true := by decide +kernel
theorem fact2_six1 : (((wds 6).drop 16).take 16).all (fun l => isMin l (due l)) = true := by decide +kernel
theorem fact2_six2 : ((((wds 6).drop 16).drop 16).take 16).all (fun l => isMin l (due l)) = true := by decide +kernel
theorem fact2_six3 : ((((wds 6).drop 16).drop 16).drop 16).all (fun l => isMin l (due l)) = true := by decide +kernel
theorem all_cut {α : Type} {P : α → Bool} (k : Nat) {l : List α} (h1 : (l.take k).all P = true) (h2 : (l.drop k).all P = true) : l.all P = true := by
  rw [← List.take_append_drop k l, List.all_append, h1, h2]; rfl
theorem fact2_all (n : Nat) (hn : n ≤ 6) : (wds n).all (fun l => isMin l (due l)) = true := by
  by_cases h : n ≤ 4
  · exact fact2_low n h
  · by_cases h5 : n = 5
    · subst h5; exact all_cut 16 fact2_five0 fact2_five1
    · obtain rfl : n = 6 := by omega
      exact all_cut 16 fact2_six0 (all_cut 16 fact2_six1 (all_cut 16 fact2_six2 fact2_six3))
theorem fact2 (l : List Nat) (hl : l.length ≤ 6) (hb : ∀ c ∈ l, c = 40 ∨ c = 41) : isMin l (due l) = true := all_wds _ fact2_all l hl hb
/-- the word, closed on both sides -/
def ext (l : List Nat) : List Nat := List.replicate (leftI (KStt.codes (mk l))).1.toNat 40 ++ l ++ List.replicate (leftI (KStt.codes (mk l))).2.toNat 41
theorem mul_p : ∀ n : Nat, n ≤ 6 → Txt.mul (Str.ofString "(") (n : Int) = mk (List.replicate n 40) := by decide
theorem mul_q : ∀ n : Nat, n ≤ 6 → Txt.mul (Str.ofString ")") (n : Int) = mk (List.replicate n 41) := by decide
theorem left_bound (l : List Nat) (hl : l.length ≤ 6) : 0 ≤ (leftI (KStt.codes (mk l))).1 ∧ 0 ≤ (leftI (KStt.codes (mk l))).2 ∧ (leftI (KStt.codes (mk l))).1 + (leftI (KStt.codes (mk l))).2 ≤ 6 := by
  have h := leftI_pos (KStt.codes (mk l))
  have e : (KStt.codes (mk l)).length = l.length := by simp [KStt.codes, mk]
  rw [e] at h
  omega
theorem ext_eq (l : List Nat) (hl : l.length ≤ 6) : Txt.mul (Str.ofString "(") (leftI (KStt.codes (mk l))).1 ++ mk l ++ Txt.mul (Str.ofString ")") (leftI (KStt.codes (mk l))).2 = mk (ext l) := by
  have hb := left_bound l hl
  have h1 := mul_p (leftI (KStt.codes (mk l))).1.toNat (by omega)
  have h2 := mul_q (leftI (KStt.codes (mk l))).2.toNat (by omega)
  rw [Int.toNat_of_nonneg hb.1] at h1
  rw [Int.toNat_of_nonneg hb.2.1] at h2
  rw [h1, h2, mk_app, mk_app]
  rfl
theorem ext_len (l : List Nat) (hl : l.length ≤ 6) : (ext l).length ≤ 12 := by
  have hb := left_bound l hl
  unfold ext
  simp only [List.length_append, List.length_replicate]
  omega
theorem ext_br (l : List Nat) (hb : ∀ c ∈ l, c = 40 ∨ c = 41) : ∀ c ∈ ext l, c = 40 ∨ c = 41 := by
  intro c hc
  unfold ext at hc
  rcases List.mem_append.mp hc with hc | hc
  · rcases List.mem_append.mp hc with hc | hc
    · exact .inl (List.eq_of_mem_replicate hc)
    · exact hb c hc
  · exact .inr (List.eq_of_mem_replicate hc)
theorem fact3_all : ∀ n, n ≤ 6 → (wds n).all (fun l => (leftI (KStt.codes (mk (ext l)))).1 == 0 && (leftI (KStt.codes (mk (ext l)))).2 == 0 && chkL 0 (lst (mk (ext l)))) = true := by decide +kernel
theorem fact3 (l : List Nat) (hl : l.length ≤ 6) (hb : ∀ c ∈ l, c = 40 ∨ c = 41) : (leftI (KStt.codes (mk (ext l)))).1 = 0 ∧ (leftI (KStt.codes (mk (ext l)))).2 = 0 ∧ chkL 0 (lst (mk (ext l))) = true := by
  have := all_wds _ fact3_all l hl hb
  simp only [Bool.and_eq_true, beq_iff_eq] at this
  exact ⟨this.1.1, this.1.2, this.2⟩
def ins (l : List Nat) (p : Nat) : List Nat := l.take p ++ 40 :: l.drop p
theorem fact4_all : ∀ n, n ≤ 6 → (wds n).all (fun l => !(due l == 0) || (List.range (l.length + 1)).all fun p => isMin (ins l p) 2) = true := by decide +kernel
theorem fact4 (l : List Nat) (hl : l.length ≤ 6) (hb : ∀ c ∈ l, c = 40 ∨ c = 41) (h0 : due l = 0) (p : Nat) (hp : p ≤ l.length) : isMin (ins l p) 2 = true := by
  have := all_wds _ fact4_all l hl hb
  simp only [h0, beq_self_eq_true, Bool.not_true, Bool.false_or] at this
  exact List.all_eq_true.mp this p (List.mem_range.mpr (by omega))
theorem fact5_all : ∀ n, n ≤ 6 → (wds n).all (fun l => decide (due l ≤ 2 * (l.length : Int))) = true := by decide +kernel
theorem fact5 (l : List Nat) (hl : l.length ≤ 6) (hb : ∀ c ∈ l, c = 40 ∨ c = 41) : due l ≤ 2 * (l.length : Int) := by
  simpa using all_wds _ fact5_all l hl hb

section
variable {prog : Program} {w : World} {A : Around} {env : Env} {R : Result → Shared → Prop} {I : Addr} {fp wr : List Addr} {n : Nat} {P : Nat → Value → Prop} {St : Nat → Heap → Prop}
def ForPost (J : Nat → Shared → Prop) (St : Nat → Heap → Prop) (i : Nat) (f : Flow) (s : Shared) : Prop := f = .next ∧ J (i + 1) s ∧ St (i + 1) s.heap
theorem for_walk {x : Str} {px : Pos} {body : List Stmt} (W : Walks prog w A I fp wr n P St) (J : Nat → Shared → Prop)
    (hJ : ∀ i s h' tk, J i s → (∀ b o, b ∉ wr → s.heap.get? b = some o → h'.get? b = some o) → J i { s with heap := h', toks := tk })
    (turn : ∀ i v s, i < n → P i v → J i s → St (i + 1) s.heap → wpAny (model prog w) A (assign (.Name x px) env v) (fun _ s₂ => wpAny (model prog w) A (execs body env) (ForPost J St i) (fun _ _ => False) s₂) (fun _ _ => False) s)
    (fin : ∀ s, J n s → R (.ok .next) s) {s : Shared} (h0 : J 0 s) (hst : St 0 s.heap) : codeAny (model prog w) A (.forLoop (.Name x px) (.ref I) body [] env) R s := by
  refine codeAny_forLoop (fun k s' => ∃ i, i ≤ n ∧ k = n + 1 - i ∧ J i s' ∧ St i s'.heap) ?_ (n + 1) ⟨0, Nat.zero_le _, rfl, h0, hst⟩
  rintro k s' ⟨i, hi, rfl, hj, hs⟩
  by_cases hlt : i < n
  · refine W.item i _ _ _ hlt hs fun v h₁ tk₁ hP hst₁ hk₁ => ?_
    refine wpAny_mono (turn i v _ hlt hP (hJ i s' h₁ tk₁ hj hk₁) hst₁) (fun _ s₂ h₂ => wpAny_mono h₂ (fun f s₃ h₃ => ?_) fun _ _ e => e.elim) fun _ _ e => e.elim
    obtain ⟨rfl, h3, h4⟩ := h₃
    exact ⟨n + 1 - (i + 1), by omega, i + 1, hlt, rfl, h3, h4⟩
  · obtain rfl : i = n := by omega
    refine W.done _ _ _ hs fun h₁ tk₁ hk₁ => ?_
    show wpAny _ A (execs [] env) _ _ _
    exact wpAny_execs_nil (fin _ (hJ i s' h₁ tk₁ hj hk₁))
end
theorem small_l : ∀ n : Nat, n ≤ 6 → Builtin.Range.small 0 ((n : Int) + 1) 1 = true := by decide
theorem size_l : ∀ n : Nat, n ≤ 6 → Builtin.Range.rangeSize 0 ((n : Int) + 1) 1 = ((n + 1 : Nat) : Int) := by decide
theorem ins_eq (l : List Nat) (i : Nat) (hi : i ≤ l.length) : Txt.slice (mk l) none (some (0 + (i : Int) * 1)) ++ Str.ofString "(" ++ Txt.slice (mk l) (some (0 + (i : Int) * 1)) none = mk (ins l i) := by
  have e : (0 + (i : Int) * 1) = (i : Int) := by omega
  have hl : ((mk l).length : Int) = l.length := by rw [mk_len]
  rw [e]
  have h1 := slice_to (x := mk l) (k := (i : Int)) (by omega) (by omega)
  have h2 := slice_from (x := mk l) (k := (i : Int)) (by omega) (by omega)
  apply lst_inj
  have e2 : ∀ a b : Str, lst (a ++ b) = lst a ++ lst b := fun a b => by simp [lst, PySem.Str.cps_append]
  rw [e2, e2, h1, h2, show lst (mk l) = l from lst_mk l, show lst (mk (ins l i)) = ins l i from lst_mk _, one_p, show lst (mk [40]) = [40] from lst_mk _]
  simp [ins]
theorem ins_len (l : List Nat) (i : Nat) : (ins l i).length = l.length + 1 := by
  unfold ins
  simp only [List.length_append, List.length_cons, List.length_take, List.length_drop]
  omega
theorem ins_br (l : List Nat) (i : Nat) (hb : ∀ c ∈ l, c = 40 ∨ c = 41) : ∀ c ∈ ins l i, c = 40 ∨ c = 41 := by
  intro c hc
  unfold ins at hc
  rcases List.mem_append.mp hc with hc | hc
  · exact hb c (List.mem_of_mem_take hc)
  · rcases List.mem_cons.mp hc with rfl | hc
    · exact .inl rfl
    · exact hb c (List.mem_of_mem_drop hc)
end Mine
open PySem PySem.W PyProof.Rows PySem.Calls PySem.Spec
namespace Mine
local macro_rules | `(tactic| k_room) => `(tactic| ((try simp only [recursionLimit, cLine_is, depth_deeper, units_deeper, depth_in1, units_in1, Around.in1_depth, Around.in1_units, Around.deeper_units] at *); (try dsimp only at *); omega))
local macro_rules | `(tactic| k_enter) => `(tactic| (k_dflt (refine' enterP ?kX ?kT ?hroom ?ho ?hcd ?hbind ?hloc ?h ?hco ?hgen ?hk ?hcell; (case kX => assumption); (case kT => assumption); (case ho => k_is); (case hcd => k_is); (case hroom => k_room); (case hbind => exact BindsTo.of_eq rfl); (case hcell => decide); (case hloc => exact locs rfl); (case hco => exact rfl); (case hgen => exact rfl); (case hk => exact rfl); k_whole; intro g L' h₁ tk hg X' T' F' N'; (try dsimp only); (try k_fold))))
section
variable {prog : Program} {w : World} {A : Around} {E : Value → Shared → Prop} {s : Shared} {h₀ : Heap} {L : Addr} {m : Str → Option Value} {news : List (Addr × Obj)}
theorem pyIter_range_led {r : Addr} {a b c : Int} {t u v : Tok} {n : Nat} {Q : Value → Shared → Prop} (F : Fr h₀ L s.heap m) (N : News h₀ L s.heap news) (hr : IsRange s.heap r a b c t u v) (hsmall : Builtin.Range.small a b c = true) (hn : Builtin.Range.rangeSize a b c = (n : Int))
    (h : ∀ I h', L ≠ I → h₀.get? I = none → (∀ p ∈ news, p.1 ≠ I) → Fr h₀ L h' m → News h₀ L h' news → IsRangeIter h' I (a + ((0 : Nat) : Int) * c) ((n : Int) - ((0 : Nat) : Int)) c → Q (.ref I) { s with heap := h' }) : wpAny (model prog w) A (pyIter (.ref r)) Q E s := by
  refine wpAny_pyIter_range hr hsmall ?_
  have hk : ∀ z o, s.heap.get? z = some o → (s.heap.push { cls := .type "range_iterator", data := .fields #[rawInt a, rawInt (Builtin.Range.rangeSize a b c), rawInt c] }).get? z = some o := fun z o e => Heap.get?_push_of_some _ e
  refine h s.heap.objs.size _ (Nat.ne_of_lt F.ns.lt) (fresh_at (Nat.le_trans F.above (Nat.le_of_lt F.ns.lt))) (fun p hp => Nat.ne_of_lt (Heap.lt_size (N p hp).1)) (fr_grown F hk) (news_grown N hk) ?_
  have e1 : (a + ((0 : Nat) : Int) * c) = a := by simp
  have e2 : ((n : Int) - ((0 : Nat) : Int)) = Builtin.Range.rangeSize a b c := by rw [hn]; simp
  rw [e1, e2]
  exact Heap.get?_push_size _ rfl
/-- a step that keeps all but one object -/
theorem news_but {h h' : Heap} {I : Addr} (N : News h₀ L h news) (hI : ∀ p ∈ news, p.1 ≠ I) (hk : ∀ b o, b ∉ [I] → h.get? b = some o → h'.get? b = some o) : News h₀ L h' news :=
  fun p hp => ⟨hk _ _ (by simpa using hI p hp) (N p hp).1, (N p hp).2⟩
theorem fr_but {h h' : Heap} {I : Addr} (F : Fr h₀ L h m) (hLI : L ≠ I) (hI : h₀.get? I = none) (hk : ∀ b o, b ∉ [I] → h.get? b = some o → h'.get? b = some o) : Fr h₀ L h' m :=
  ⟨F.ns.at' fun o e => hk L o (by simpa using hLI) e, fun b o e => hk b o (by intro q; rw [List.mem_singleton.mp q, hI] at e; cases e) (F.keep b o e), F.above⟩
end
theorem slice_len_to (l : List Nat) (i : Nat) (hi : i ≤ l.length) (hl : l.length ≤ 6) : (Txt.slice (mk l) none (some (0 + (i : Int) * 1))).length ≤ 6 := by
  have e : (0 + (i : Int) * 1) = (i : Int) := by omega
  have hl' : ((mk l).length : Int) = l.length := by rw [mk_len]
  rw [e, ← lst_len, slice_to (by omega) (by omega), show lst (mk l) = l from lst_mk l, List.length_take]
  omega
theorem slice_len_from (l : List Nat) (i : Nat) (hi : i ≤ l.length) (hl : l.length ≤ 6) : (Txt.slice (mk l) (some (0 + (i : Int) * 1)) none).length ≤ 6 := by
  have e : (0 + (i : Int) * 1) = (i : Int) := by omega
  have hl' : ((mk l).length : Int) = l.length := by rw [mk_len]
  rw [e, ← lst_len, slice_from (by omega) (by omega), show lst (mk l) = l from lst_mk l, List.length_drop]
  omega
def rio (x left : Int) : Obj := { cls := .type "range_iterator", data := .fields #[rawInt x, rawInt left, rawInt 1] }
theorem rio_is {h : Heap} {I : Addr} {x left : Int} : h.get? I = some (rio x left) ↔ IsRangeIter h I x left 1 := Iff.rfl
end Mine
open PySem PySem.W PyProof.Rows PySem.Calls PySem.Spec
namespace Mine
local macro_rules | `(tactic| k_room) => `(tactic| ((try simp only [recursionLimit, cLine_is, depth_deeper, units_deeper, depth_in1, units_in1, Around.in1_depth, Around.in1_units, Around.deeper_units] at *); (try dsimp only at *); omega))
local macro_rules | `(tactic| k_enter) => `(tactic| (k_dflt (refine' enterP ?kX ?kT ?hroom ?ho ?hcd ?hbind ?hloc ?h ?hco ?hgen ?hk ?hcell; (case kX => assumption); (case kT => assumption); (case ho => k_is); (case hcd => k_is); (case hroom => k_room); (case hbind => exact BindsTo.of_eq rfl); (case hcell => decide); (case hloc => exact locs rfl); (case hco => exact rfl); (case hgen => exact rfl); (case hk => exact rfl); k_whole; intro g L' h₁ tk hg X' T' F' N'; (try dsimp only); (try k_fold))))
local macro_rules | `(tactic| k_enter) => `(tactic| (k_dflt (refine' enterQC ?kX ?kT ?hroom ?ho ?hcd ?hbind ?hkind ?hnd ?_ ?hco ?hgen ?hk; (case kX => assumption); (case kT => assumption); (case ho => k_is); (case hcd => k_is); (case hroom => k_room); (case hbind => exact BindsTo.of_eq rfl); (case hkind => exact rfl); (case hnd => decide +kernel); (case hco => exact rfl); (case hgen => exact rfl); (case hk => exact rfl); k_whole; intro g L' h₁ tk' cells' hg X' T' F' N' Y'; k_cells Y'; (try simp only [List.cons_append, List.nil_append] at N'); (try dsimp only); (try k_fold))))
local macro_rules | `(tactic| walk_at "eval ListComp") => `(tactic| (refine park ?_))
local macro_rules | `(tactic| walk_at "exec Assign cons ListComp") => `(tactic| (refine park ?_))
local macro_rules | `(tactic| walk_at "call builtin:list.append") => `(tactic| (refine park ?_))
local macro_rules | `(tactic| walk_at "call builtin:str.join") => `(tactic| (refine park ?_))
local macro_rules | `(tactic| walk_at "eval Name") => `(tactic| (with_reducible rename Fr _ _ _ _ => kF; refine' nameB_L kF ?a1 ?a2 ?_ ?a3 ?a4 ?a5; (case a2 => with_reducible assumption); (case a1 => with_unfolding_all exact rfl); (case a3 => with_unfolding_all exact rfl); (case a4 => with_unfolding_all exact rfl); (case a5 => with_unfolding_all exact rfl)))
local macro_rules | `(tactic| walk_at "eval Name") => `(tactic| (with_reducible rename Fr _ _ _ _ => kF; refine' nameB_C kF ?a1 ?a2 ?a6 ?_ ?a3 ?a4 ?a5; (case a4 => with_unfolding_all exact rfl); (case a6 => with_unfolding_all exact rfl);  (case a2 => with_reducible assumption); (case a1 => with_reducible assumption); (case a3 => with_unfolding_all exact rfl); (case a5 => with_unfolding_all exact rfl)))
local macro_rules | `(tactic| walk_at "call builtin:min") => `(tactic| (refine park ?_))
local macro_rules | `(tactic| walk_at "eval Call") => `(tactic| (refine Call_ ?_))
local macro_rules | `(tactic| walk_at "binaryOp Mult str int") => `(tactic| (refine' KXi.mul (n := 1) ?ka ?kb ?kc ?kd ?_; (case ka => exact rfl); (case kb => decide); (case kc => omega); (case kd => omega); intro _ _ hl1 hl2))
local macro_rules | `(tactic| walk_at "binaryOp Add str str") => `(tactic| (refine' KOpn.add ?ka ?_; (case ka => omega); intro _ _ hl))
local macro_rules | `(tactic| walk_at "exec For Name Call cons nil") => `(tactic| (refine park ?_))
local macro_rules | `(tactic| walk_at "pyIter ref") => `(tactic| (refine park ?_))
local macro_rules | `(tactic| walk_at "call ref") => `(tactic| (refine park ?_))
theorem use_check (w : World) (x : Str) (tx : Tok) (hl : x.length ≤ 1000) (hx : Br x) {s : Shared} {A : Around} {E : Value → Shared → Prop} {h₀ : Heap} {L : Addr} {m : Str → Option Value} {news : List (Addr × Obj)} {p : Program} {loose : List Str} {mean : ExcName → Option Value} {mg mb : Str → Option Value}
    (F : Fr h₀ L s.heap m) (N : News h₀ L s.heap news) (X : (Mine.hd.heap_39 w.params).In h₀) (T : Top p loose mean mg mb h₀) (hh : A.handled = none) (hd : A.depth + 20 < recursionLimit) (hu : A.units + 200 < cLine) {Q : Value → Shared → Prop}
    (h : ∀ h' tk' g', (AllBare s.gens → AllBare g') → (∀ b o, s.heap.get? b = some o → h'.get? b = some o) → Fr h₀ L h' m → News h₀ L h' news → Q (.bool (chkL 0 (lst x))) { s with heap := h', toks := tk', gens := g' }) :
    wpAny (model PySem.Challenge.rw_gd0004_01.row.prog w) A (call (.ref 35) [.str x tx]) Q E s := by
  obtain ⟨hd0, dp, fr, gd, un⟩ := A
  obtain rfl : hd0 = none := hh
  refine wpAny_mono (check_pc w x tx hl hx s dp un fr gd p loose mean mg mb (X.keeps F.keep) (T.keeps F.keep) hd hu) (fun v s' hv => ?_) fun _ _ e => e.elim
  obtain ⟨h1, tk1, g1, rfl, hb, hk, rfl⟩ := hv
  exact h h1 tk1 g1 hb hk (fr_grown F hk) (news_grown N hk)
theorem news_add {h₀ h h' : Heap} {L D : Addr} {m : Str → Option Value} {news : List (Addr × Obj)} {o : Obj} (F : Fr h₀ L h m) (N : News h₀ L h' news) (hn : h.get? D = none) (hD : h'.get? D = some o) : News h₀ L h' ((D, o) :: news) := fun p hp => by
  rcases List.mem_cons.mp hp with rfl | hp
  · refine ⟨hD, fun q => ?_, ?_⟩
    · obtain ⟨o, _, _, ho, _⟩ := F.ns; rw [← q, hn] at ho; cases ho
    · cases e : h₀.get? D with
      | none => rfl
      | some o => have e2 := F.keep D o e; rw [hn] at e2; cases e2
  · exact N p hp
theorem law_pc (w : World) (ns : List Int) (vals : List Value) (S : Addr) (s : Shared) (dp un : Nat) (fr : Option (List Env)) (gd : Option (List Code)) (p : Program) (loose : List Str) (mean : ExcName → Option Value) (mg mb : Str → Option Value)
    (X : (Mine.hd.heap_39 w.params).In s.heap) (T : Top p loose mean mg mb s.heap) (hl : s.heap.IsList S vals.toArray) (hI : IntsAre vals ns) (hn : ns.length ≤ 63) (hd : dp + 60 < recursionLimit) (hu : un + 500 < cLine) :
    wpAny (model PySem.Challenge.rw_gd0004_01.row.prog w) { handled := none, depth := dp, frames := fr, guards := gd, units := un } (call (.ref 66) [.ref S]) (RetG s fun _ v _ => v = .bool true) (fun _ _ => False) s := by
  revert X T hd hu
  k_fill
  intro X T hd hu
  k_enter
  rename_i g L' h₁ tk' hg X' T' F' o1 o2 d1' d2' N'
  have hlg : g.IsList S vals.toArray := hg ▸ hl
  have hnn : vals.length = ns.length := hI.length
  have hlen6 : ((ns.take 6).map sg).length ≤ 6 := by rw [List.length_map, List.length_take]; omega
  have hbr6 : ∀ c ∈ (ns.take 6).map sg, c = 40 ∨ c = 41 := by
    intro c hc
    obtain ⟨k, -, rfl⟩ := List.mem_map.mp hc
    exact sg_br k
  refine execs_cut 1 (fun s' => ∃ h tk tkw oW oM m, s' = { s with heap := h, toks := tk } ∧ Fr g L' h m ∧ News g L' h [(L' + 1, oW), (L' + 1 + 1, oM)] ∧ oW.data = .cell (some (.str (mk ((ns.take 6).map sg)) tkw)) ∧ oM.data = .cell none) ?_ ?_
  · k_steps
    refine parked ?_
    refine comp_one (GR := fun a b => b = a) (It := fun v k => ∃ t, v = .int k t) (Is := fun v c => ∃ t, v = .str (mk [c]) t) (fun k => [sg k]) (ns.take 6) (fun _ => rfl) (by with_unfolding_all rfl) (by decide) (by with_unfolding_all rfl) (by decide) (by intro _; with_unfolding_all rfl) (by with_unfolding_all rfl) (fun C => by with_unfolding_all rfl) (fun C => by with_unfolding_all rfl) ?_
    k_steps
    with_reducible rename Fr _ _ _ _ => F1
    with_reducible rename News _ _ _ _ => N1
    have hli := N1 _ (List.Mem.head _)
    refine parked ⟨_, _, rfl, ⟨_, hli.1, rfl, _, rfl⟩, ints_paired (by assumption), ?elt, ?post⟩
    case elt =>
      clear hlg d1' d2' hli
      intro C D i k v s2 hki hv hCs hC hD hDC cs
      obtain ⟨t, rfl⟩ := hv
      refine wpAny_tests_nil ?_
      simp only [if_true]
      unfold TurnLast
      have cs' := cs
      obtain ⟨h2, tk2, g2, m2, ys2, rfl, rfl, hk2, hns2, hm2, hpl2, hp2⟩ := cs
      have F9 : Fr _ C h2 m2 := ⟨hns2, hk2, hCs⟩
      clear F1 N1
      k_steps
      refine parked ?_
      refine append_CS (a := sg k) (cs'.stepK (fun b o e => e)) hD hDC ⟨_, congrArg (fun z => Value.str z _) (item_sg k)⟩ ?hsz ?hfin
      case hsz =>
        have := flat_len ((ns.take 6).take i) (fun k => [sg k]) 1 fun b _ => Nat.le_refl _
        have : ((ns.take 6).take i).length ≤ 6 := by rw [List.length_take, List.length_take]; omega
        omega
      case hfin => exact fun s' cs' mv' => ⟨cs'.mono fun _ _ => trivial, mv'⟩
    case post =>
      intro D h2 tk2 g2 ys hg2 hk2 hnone hpl hpr
      subst hg2
      have F2 := fr_grown F1 hk2
      have N2 := news_grown N1 hk2
      clear F1 N1 hli
      k_steps
      refine parked ?_
      have hfl : (ns.take 6).flatMap (fun k => [sg k]) = (ns.take 6).map sg := flat_single _ _
      rw [hfl] at hpr
      refine join_listC (items := ys) ⟨_, hpl.choose_spec, rfl, _, rfl⟩ (chars_of hpr) (by decide) ?_ ?_
      · have e9 : (List.map (fun c => mk [c]) (List.map sg (List.take 6 ns))).length = (List.map sg (List.take 6 ns)).length := List.length_map _
        rw [sum_ones, e9]; omega
      · intro t3 k3
        rw [join_mk _ hlen6 hbr6]
        k_steps
        with_reducible rename Fr _ _ _ _ => F3
        with_reducible rename News _ _ _ _ => N3
        refine wpAny_execs_nil (cut_next ⟨_, _, _, _, _, _, rfl, F3, ?_, by assumption, d1'⟩)
        intro p hp
        rcases List.mem_cons.mp hp with rfl | hp
        · exact N3 _ (by k_mem)
        · rw [List.mem_singleton.mp hp]; exact N3 _ (by k_mem)
  rintro s1 ⟨h1, tk1, tkw, oW, oM, m1, rfl, F1, N1, dW, dM⟩
  generalize (ns.take 6).map sg = l at hlen6 hbr6 dW
  clear hlg d1' d2' N' F' hnn
  have lw : (mk l).length ≤ 1000 := by rw [mk_len]; omega
  have hbw : Br (mk l) := by intro c hc; exact hbr6 c (by simpa [lst, mk] using hc)
  refine execs_cut 1 (fun s' => ∃ (h : Heap) (tk : Nat) (t1 t2 : Tok) (m : Str → Option Value), s' = { s with heap := h, toks := tk } ∧ Fr g L' h (fun y => if y = Str.ofString "opens" then some (.int (leftI (KStt.codes (mk l))).2 t2) else if y = Str.ofString "shut" then some (.int (leftI (KStt.codes (mk l))).1 t1) else m y) ∧ News g L' h [(L' + 1, oW), (L' + 1 + 1, oM)]) ?_ ?_
  · k_steps
    refine parked ?_
    refine use_pure (left_pc w (mk l) tkw lw) F1 N1 X' T' (by with_unfolding_all rfl) (by show dp + 1 + 5 < recursionLimit; omega) (by show un + 3 + 50 < cLine; omega) ?_
    intro v h2 tk2 hr hk2 F2 N2
    obtain ⟨D, t1, t2, rfl, hnone, hD⟩ := hr
    k_steps
    refine assign_two (T := D) (by with_unfolding_all rfl) ⟨_, hD, rfl, _, rfl⟩ F2.ns rfl rfl rfl fun h3 tk3 hn3 hk3 => ?_
    refine wpAny_execs_nil (cut_next ⟨h3, _, t1, t2, m1, rfl, ⟨hn3, fun b o e => hk3 b o (fun q => absurd (Heap.lt_size e) (Nat.not_lt.mpr (q ▸ F2.above))) (F2.keep b o e), F2.above⟩, fun p hp => ⟨hk3 _ _ (N2 p hp).2.1 (N2 p hp).1, (N2 p hp).2⟩⟩)
  rintro s2 ⟨h2, tk2, t1, t2, m2, rfl, F2, N2⟩
  clear F1 N1
  refine execs_cut 1 (fun s' => ∃ (h : Heap) (tk : Nat) (g' : Array GenState) (m : Str → Option Value), s' = { s with heap := h, toks := tk, gens := g' } ∧ (AllBare s.gens → AllBare g') ∧ Fr g L' h (fun y => if y = Str.ofString "opens" then some (.int (leftI (KStt.codes (mk l))).2 t2) else if y = Str.ofString "shut" then some (.int (leftI (KStt.codes (mk l))).1 t1) else m y) ∧ News g L' h [(L' + 1, oW), (L' + 1 + 1, oM)]) ?_ ?_
  · k_steps
    refine parked ?_
    refine use_check w (mk l) tkw lw hbw F2 N2 X' T' (by with_unfolding_all rfl) (by show dp + 1 + 20 < recursionLimit; omega) (by show un + 3 + 200 < cLine; omega) ?_
    intro h3 tk3 g3 hb3 hk3 F3 N3
    k_steps
    · exfalso
      rename (_ != _) = true => q
      rw [fact1 l hlen6 hbr6] at q
      cases q
    · with_reducible rename Fr _ _ _ _ => F4
      with_reducible rename News _ _ _ _ => N4
      refine wpAny_execs_nil (cut_next ⟨_, _, g3, m2, rfl, hb3, F4, ?_⟩)
      intro p hp
      rcases List.mem_cons.mp hp with rfl | hp
      · exact N4 _ (by k_mem)
      · rw [List.mem_singleton.mp hp]; exact N4 _ (by k_mem)
  rintro s3 ⟨h3, tk3, g3, m3, rfl, hb3, F3, N3⟩
  clear F2 N2
  refine execs_cut 1 (fun s' => ∃ (h : Heap) (tk : Nat) (g' : Array GenState) (m : Str → Option Value) (D : Addr) (vals : List Value) (n : Nat), s' = { s with heap := h, toks := tk, gens := g' } ∧ (AllBare s.gens → AllBare g') ∧ Fr g L' h (fun y => if y = Str.ofString "words" then some (.ref D) else if y = Str.ofString "opens" then some (.int (leftI (KStt.codes (mk l))).2 t2) else if y = Str.ofString "shut" then some (.int (leftI (KStt.codes (mk l))).1 t1) else m y) ∧ News g L' h [(D, listOf vals.toArray n), (L' + 1, oW), (L' + 1 + 1, oM)] ∧ StrsAre vals (VVall.map mk)) ?_ ?_
  · k_steps
    refine parked ?_
    refine comp_assign (GR := fun a b => b = a) (Is := fun v a => ∃ t, v = .str (mk a) t) (out := VVall) (by with_unfolding_all rfl) rfl rfl (fun _ => rfl) (by with_unfolding_all rfl) (by decide) (by with_unfolding_all rfl) (by decide) (by intro _; with_unfolding_all rfl) (by with_unfolding_all rfl) ?_
    k_steps
    refine parked ?_
    with_reducible rename Fr _ _ _ _ => F4
    with_reducible rename News _ _ _ _ => N4
    have hli := N4 _ (List.Mem.head _)
    have X4 := X'.keeps F4.keep
    have T4 := T'.keeps F4.keep
    refine wpAny_mono (it_list ⟨_, hli.1, rfl, _, rfl⟩) (fun it s₂ hit => ⟨_, _, ⟨_, hit⟩, ?body, _, F4.ns, ?post⟩) fun _ _ e => e
    case body =>
      clear hit
      intro I fp wr St C D s' _ W hCs hDs hC hD hDC hCf hDf hwr hst cs hkp
      refine startMore (d := 0) (GR := fun a b => b = a) (Is := fun v a => ∃ t, v = .str (mk a) t) (ws := []) rfl rfl (by intro _; with_unfolding_all rfl) W hst cs hkp rfl rfl rfl hC hD hDC hCf hDf hwr (fun i => (VV i).flatMap fun a => [a]) (fun _ _ _ => trivial) ?_ ?_
      · intro i v s5 hi hv cs5 hkp5
        obtain ⟨k, hk, tv, rfl⟩ := paired_at (ints_paired (.cons 0 _ (.cons 2 _ (.cons 4 _ (.cons 6 _ (.cons 8 _ .nil)))))) (by simpa using hv)
        have hi5 : i < 5 := hi
        obtain rfl : 2 * (i : Int) = k := by rw [sizes_at i hi5] at hk; exact Option.some.inj hk
        refine wpAny_tests_nil ?_
        simp only [if_true]
        unfold TurnMore
        have cs5' := cs5
        obtain ⟨h6, tk6, g6, m6, ys6, rfl, rfl, hk6, hns6, ⟨-, hm6⟩, hpl6, hp6⟩ := cs5
        have F6 : Fr _ C h6 m6 := ⟨hns6, hk6, hCs⟩
        clear F4 N4 hli
        k_steps
        refine parked ?_
        with_reducible rename Fr _ C _ _ => F6
        refine use_pure (words_pc w 4 i (by omega) (by omega) _) F6 News.nil X4 T4 (by with_unfolding_all rfl) (by show dp + 1 + (5 + 5 * 4) < recursionLimit; omega) (by show un + 3 + (50 + 20 * 4) < cLine; omega) ?_
        intro v h7 tk7 hr7 hk7 F7 N7
        refine textsLast (d := 1) (GR := fun a b => b = a) (Is := fun v a => ∃ t, v = .str (mk a) t) (C := C) (D := D) (mc := fun _ => True) (ws := [] ++ (List.range i).flatMap fun i => (VV i).flatMap fun a => [a]) (s := { s with heap := h6, toks := tk6, gens := g6 }) rfl (.inl ⟨rfl, rfl⟩) (by with_unfolding_all rfl) hr7 hk7 (cs5'.mono fun _ _ => trivial) rfl rfl rfl hC hD hDC (fun a => [a]) (fun _ _ _ => trivial) ?turn ?fin
        case fin => exact fun s' cs' mv' => ⟨cs', mv'⟩
        case turn =>
          clear hr7 F6 F7 N7
          intro j a t8 s8 hj cs8 hmv8
          refine wpAny_tests_nil ?_
          simp only [if_true]
          unfold TurnLast
          have cs8' := cs8
          obtain ⟨h9, tk9, g9, m9, ys9, rfl, rfl, hk9, hns9, ⟨-, hm9⟩, hpl9, hp9⟩ := cs8
          have F9 : Fr _ C h9 m9 := ⟨hns9, hk9, hCs⟩
          k_steps
          refine parked ?_
          refine append_CS (a := a) cs8' hD hDC ⟨_, rfl⟩ ?hsz ?hfin
          case hsz =>
            have q2 := flat_len (List.range i) (fun i => (VV i).flatMap fun a => [a]) 14 fun i' hi' => by
              have := flat_len (VV i') (fun a => [a]) 1 fun b _ => Nat.le_refl _
              have := VV_num4 i' (by have := List.mem_range.mp hi'; omega)
              omega
            have q4 := flat_len ((VV i).take j) (fun a => [a]) 1 fun b _ => Nat.le_refl _
            have q5 := VV_num4 i hi5
            have q6 : ((VV i).take j).length ≤ 14 := by rw [List.length_take]; omega
            rw [List.length_range] at q2
            simp only [List.length_append, List.length_nil]
            omega
          case hfin => exact fun s' cs' mv' => ⟨cs'.mono fun _ _ => trivial, mv'⟩
      · exact fun s5 cs5 _ => cs5
    case post =>
      clear hit hli
      intro D h5 tk5 g5 ys hg5 hk5 hnone hpl hpr hns5
      obtain rfl := hg5
      obtain ⟨nD, hD⟩ := hpl
      have neb : ∀ b o, g.get? b = some o → b ≠ L' := fun b o e q => absurd (Heap.lt_size e) (Nat.not_lt.mpr (q ▸ F4.above))
      have gD : g.get? D = none := by
        cases e : g.get? D with
        | none => rfl
        | some o => have e2 := F4.keep D o e; rw [hnone] at e2; cases e2
      have LD : D ≠ L' := fun q => by obtain ⟨o, _, _, ho, _⟩ := F4.ns; rw [← q, hnone] at ho; cases ho
      refine wpAny_execs_nil (cut_next ⟨h5, tk5, _, m3, D, ys.toList, nD, rfl, hb3, ⟨hns5, fun b o e => hk5 b o (neb b o e) (F4.keep b o e), F4.above⟩, ?_, strs_of hpr⟩)
      intro p hp
      rcases List.mem_cons.mp hp with rfl | hp
      · exact ⟨by simpa using hD, LD, gD⟩
      · rcases List.mem_cons.mp hp with rfl | hp
        · have q := N4 (L' + 1, oW) (by k_mem); exact ⟨hk5 _ _ q.2.1 q.1, q.2⟩
        · rw [List.mem_singleton.mp hp]; have q := N4 (L' + 1 + 1, oM) (by k_mem); exact ⟨hk5 _ _ q.2.1 q.1, q.2⟩
  rintro s4 ⟨h4, tk4, g4, m4, D, vals, nD, rfl, hb4, F4, N4, hst⟩
  clear F3 N3 hb3
  refine execs_cut 1 (fun s' => ∃ (h : Heap) (tk : Nat) (g' : Array GenState) (m : Str → Option Value), s' = { s with heap := h, toks := tk, gens := g' } ∧ (AllBare s.gens → AllBare g') ∧ Fr g L' h (fun y => if y = Str.ofString "words" then some (.ref D) else if y = Str.ofString "opens" then some (.int (leftI (KStt.codes (mk l))).2 t2) else if y = Str.ofString "shut" then some (.int (leftI (KStt.codes (mk l))).1 t1) else m y) ∧ News g L' h [(D, listOf vals.toArray nD), (L' + 1, oW), (L' + 1 + 1, oM)]) ?_ ?_
  · have hvals : vals.length = 23 := by rw [hst.length, List.length_map, VVall_num]
    k_steps
    refine parked ?_
    refine comp_one (GR := fun a b => AllBare a → AllBare b) (It := fun v a => ∃ t, v = .str (mk a) t) (Is := fun v a => ∃ t, v = .str (mk a) t) (fun _ => []) VVall (fun _ => id) (by with_unfolding_all rfl) (by decide) (by with_unfolding_all rfl) (by decide) (by intro _; with_unfolding_all rfl) (by with_unfolding_all rfl) (fun C => by with_unfolding_all rfl) (fun C => by with_unfolding_all rfl) ?_
    k_steps
    with_reducible rename Fr _ _ _ _ => F5
    with_reducible rename News _ _ _ _ => N5
    have hli := N5 _ (List.Mem.head _)
    have X5 := X'.keeps F5.keep
    have T5 := T'.keeps F5.keep
    refine parked ⟨_, _, rfl, ⟨_, hli.1, rfl, _, rfl⟩, strs_paired hst, ?elt, ?post⟩
    case elt =>
      intro C D2 i k v s2 hki hv hCs hC hD hDC cs
      obtain ⟨t, rfl⟩ := hv
      have hmem : k ∈ VVall := List.mem_of_getElem? hki
      refine wpAny_tests_one ?_
      have cs' := cs
      obtain ⟨h6, tk6, g6, m6, ys6, rfl, hg6, hk6, hns6, hm6, hpl6, hp6⟩ := cs
      have F9 : Fr _ C h6 m6 := ⟨hns6, hk6, hCs⟩
      clear F5 N5 hli
      k_steps
      refine parked ?_
      with_reducible rename Fr _ C _ _ => F9
      refine use_check w (mk k) t (by rw [mk_len]; have := VVall_len k hmem; omega) (fun c hc => VVall_br k hmem c (by simpa [lst, mk] using hc)) F9 News.nil X5 T5 (by with_unfolding_all rfl) (by show dp + 1 + 20 < recursionLimit; omega) (by show un + 3 + 200 < cLine; omega) ?_
      intro h7 tk7 g7 hb7 hk7 F7 N7
      rw [VVall_chk k hmem]
      k_steps
      · rw [List.append_nil]
        exact (cs'.mono fun _ _ => trivial).step (fun q => hb7 (hg6 q)) hk7
      · exact Mv.of hk7
    case post =>
      intro D2 h6 tk6 g6 ys hg6 hk6 hnone hpl hpr
      have F6 := fr_grown F5 hk6
      have e0 : VVall.flatMap (fun _ => ([] : List (List Nat))) = [] := by simp
      rw [e0] at hpr
      have e1 : ys = #[] := by
        have := hpr.length
        exact Array.eq_empty_of_size_eq_zero (by simpa using this)
      subst e1
      obtain ⟨n2, hD2⟩ := hpl
      have N6 := news_add F5 (news_grown N5 hk6) hnone hD2
      clear F5 N5 hli hk6 hnone hD2
      k_steps
      with_reducible rename Fr _ _ _ _ => F7
      with_reducible rename News _ _ _ _ => N7
      have q7 := N7 (D, listOf vals.toArray nD) (by k_mem)
      refine len_strsA (⟨_, q7.1, rfl, _, rfl⟩ : Heap.IsList _ D vals.toArray) hst (by rw [List.length_map, VVall_num]; decide) ?_
      have e23 : ((VVall.map mk).length : Int) = 23 := by rw [List.length_map, VVall_num]; rfl
      rw [e23]
      k_steps
      refine wpAny_execs_nil (cut_next ⟨_, _, g6, m4, rfl, fun q => hg6 (hb4 q), F7, ?_⟩)
      intro p hp
      rcases List.mem_cons.mp hp with rfl | hp
      · exact N7 _ (by k_mem)
      · rcases List.mem_cons.mp hp with rfl | hp
        · exact N7 _ (by k_mem)
        · rw [List.mem_singleton.mp hp]; exact N7 _ (by k_mem)
  rintro s5 ⟨h5, tk5, g5, m5, rfl, hb5, F5, N5⟩
  clear F4 N4 hb4
  refine execs_cut 1 (fun s' => ∃ (h : Heap) (tk : Nat) (g' : Array GenState) (t5 : Tok), s' = { s with heap := h, toks := tk, gens := g' } ∧ (AllBare s.gens → AllBare g') ∧ Fr g L' h (fun y => if y = Str.ofString "due" then some (.int (due l) t5) else if y = Str.ofString "words" then some (.ref D) else if y = Str.ofString "opens" then some (.int (leftI (KStt.codes (mk l))).2 t2) else if y = Str.ofString "shut" then some (.int (leftI (KStt.codes (mk l))).1 t1) else m5 y) ∧ News g L' h [(D, listOf vals.toArray nD), (L' + 1, oW), (L' + 1 + 1, oM)]) ?_ ?_
  · k_steps
    with_reducible rename Fr _ _ _ _ => F6
    with_reducible rename News _ _ _ _ => N6
    refine wpAny_execs_nil (cut_next ⟨_, _, g5, _, rfl, hb5, F6, N6⟩)
  rintro s6 ⟨h6, tk6, g6, t5, rfl, hb6, F6, N6⟩
  clear F5 N5 hb5
  refine execs_cut 1 (fun s' => ∃ (h : Heap) (tk : Nat) (g' : Array GenState), s' = { s with heap := h, toks := tk, gens := g' } ∧ (AllBare s.gens → AllBare g') ∧ Fr g L' h (fun y => if y = Str.ofString "due" then some (.int (due l) t5) else if y = Str.ofString "words" then some (.ref D) else if y = Str.ofString "opens" then some (.int (leftI (KStt.codes (mk l))).2 t2) else if y = Str.ofString "shut" then some (.int (leftI (KStt.codes (mk l))).1 t1) else m5 y) ∧ News g L' h [(D, listOf vals.toArray nD), (L' + 1, oW), (L' + 1 + 1, oM)]) ?_ ?_
  · k_steps
    refine parked ?_
    refine comp_one (GR := fun a b => b = a) (It := fun v a => ∃ t, v = .str (mk a) t) (Is := fun v k => ∃ t, v = .int k t) (fun a => [levL l a]) VVall (fun _ => rfl) (by with_unfolding_all rfl) (by decide) (by with_unfolding_all rfl) (by decide) (by intro _; with_unfolding_all rfl) (by with_unfolding_all rfl) (fun C => by with_unfolding_all rfl) (fun C => by with_unfolding_all rfl) ?_
    k_steps
    with_reducible rename Fr _ _ _ _ => F6
    with_reducible rename News _ _ _ _ => N6
    have hli := N6 _ (List.Mem.head _)
    have X6 := X'.keeps F6.keep
    have T6 := T'.keeps F6.keep
    have hcw := (N6 (L' + 1, oW) (by k_mem)).1
    dsimp only at hcw
    refine parked ⟨_, _, rfl, ⟨_, hli.1, rfl, _, rfl⟩, strs_paired hst, ?elt, ?post⟩
    case elt =>
      intro C D2 i k v s2 hki hv hCs hC hD hDC cs
      obtain ⟨t, rfl⟩ := hv
      have hmem : k ∈ VVall := List.mem_of_getElem? hki
      refine wpAny_tests_nil ?_
      simp only [if_true]
      unfold TurnLast
      have cs' := cs
      obtain ⟨h7, tk7, g7, m7, ys7, rfl, hg7, hk7, hns7, hm7, hpl7, hp7⟩ := cs
      have F9 : Fr _ C h7 m7 := ⟨hns7, hk7, hCs⟩
      clear F6 N6 hli
      k_steps
      refine parked ?_
      with_reducible rename Fr _ C _ _ => F9
      refine use_pure (lev_pc w (mk l) tkw (mk k) t _ (by rw [mk_len]; omega) (by rw [mk_len]; have := VVall_len k hmem; omega) hbw (fun c hc => VVall_br k hmem c (by simpa [lst, mk] using hc))) F9 News.nil X6 T6 (by with_unfolding_all rfl) (by show dp + 1 + 10 < recursionLimit; omega) (by show un + 3 + 100 < cLine; omega) ?_
      intro v h8 tk8 hr8 hk8 F8 N8
      obtain ⟨t9, rfl⟩ := hr8
      refine append_CS (a := levL l k) (cs'.stepK (fun b o e => hk8 b o e)) hD hDC ⟨t9, by rw [show lst (mk l) = l from lst_mk l, show lst (mk k) = k from lst_mk k]⟩ ?hsz ?hfin
      case hsz =>
        have := flat_len (VVall.take i) (fun a => [levL l a]) 1 fun b _ => Nat.le_refl _
        have : (VVall.take i).length ≤ 23 := by rw [List.length_take, VVall_num]; omega
        omega
      case hfin => exact fun s' cs' mv' => ⟨cs'.mono fun _ _ => trivial, fun b o h1 h2 e => mv' b o h1 h2 (hk8 b o e)⟩
    case post =>
      intro D2 h7 tk7 g7 ys hg7 hk7 hnone hpl hpr
      obtain rfl := hg7
      obtain ⟨n2, hD2⟩ := hpl
      have F7 := fr_grown F6 hk7
      have N7 := news_add F6 (news_grown N6 hk7) hnone hD2
      have hints := ints_of hpr
      rw [flat_single] at hints
      clear F6 N6 hli hk7 hnone hpr
      k_steps
      refine parked ?_
      with_reducible rename Fr _ _ _ _ => F7
      with_reducible rename News _ _ _ _ => N7
      refine min_list_N (by with_unfolding_all rfl) F7 N7 (vs := ys.toList) ⟨_, hD2, rfl, n2, by simp⟩ hints (by rw [List.length_map, VVall_num]; decide) ?_
      intro h8 M t8 tk8 F8 N8 hM hm
      obtain rfl := min_is (fact2 l hlen6 hbr6) hM hm
      clear F7 N7 hm hM hints
      k_steps
      · exact absurd rfl (by assumption : due l ≠ due l)
      · with_reducible rename Fr _ _ _ _ => F9
        with_reducible rename News _ _ _ _ => N9
        refine wpAny_execs_nil (cut_next ⟨_, _, _, rfl, hb6, F9, ?_⟩)
        intro p hp
        rcases List.mem_cons.mp hp with rfl | hp
        · exact N9 _ (by k_mem)
        · rcases List.mem_cons.mp hp with rfl | hp
          · exact N9 _ (by k_mem)
          · rw [List.mem_singleton.mp hp]; exact N9 _ (by k_mem)
  rintro s7 ⟨h7, tk7, g7, rfl, hb7, F7, N7⟩
  clear F6 N6 hb6
  refine execs_cut 1 (fun s' => ∃ (h : Heap) (tk : Nat) (g' : Array GenState), s' = { s with heap := h, toks := tk, gens := g' } ∧ (AllBare s.gens → AllBare g') ∧ Fr g L' h (fun y => if y = Str.ofString "due" then some (.int (due l) t5) else if y = Str.ofString "words" then some (.ref D) else if y = Str.ofString "opens" then some (.int (leftI (KStt.codes (mk l))).2 t2) else if y = Str.ofString "shut" then some (.int (leftI (KStt.codes (mk l))).1 t1) else m5 y) ∧ News g L' h [(D, listOf vals.toArray nD), (L' + 1, oW), (L' + 1 + 1, oM)]) ?_ ?_
  · have hbnd := left_bound l hlen6
    have f3 := fact3 l hlen6 hbr6
    have lext : (mk (ext l)).length ≤ 1000 := by rw [mk_len]; have := ext_len l hlen6; omega
    have hbe : Br (mk (ext l)) := by intro c hc; exact ext_br l hbr6 c (by simpa [lst, mk] using hc)
    k_steps
    refine parked ?_
    with_reducible rename Fr _ _ _ _ => F8
    with_reducible rename News _ _ _ _ => N8
    rw [ext_eq l hlen6]
    refine use_pure (left_pc w (mk (ext l)) _ lext) F8 N8 X' T' (by with_unfolding_all rfl) (by show dp + 1 + 5 < recursionLimit; omega) (by show un + 3 + 50 < cLine; omega) ?_
    intro v h8 tk8 hr hk8 F9 N9
    obtain ⟨D2, t8, t9, rfl, hnone, hD2⟩ := hr
    rw [f3.1, f3.2.1] at hD2
    have N10 := news_add F8 N9 hnone hD2
    clear F8 N8 N9 hnone hD2 hk8
    k_steps
    refine parked ?_
    with_reducible rename Fr _ _ _ _ => F8
    with_reducible rename News _ _ _ _ => N8
    rw [ext_eq l hlen6]
    refine use_check w (mk (ext l)) _ lext hbe F8 N8 X' T' (by with_unfolding_all rfl) (by show dp + 1 + 20 < recursionLimit; omega) (by show un + 3 + 200 < cLine; omega) ?_
    intro h9 tk9 g9 hb9 hk9 F9 N9
    rw [f3.2.2]
    clear F8 N8 hk9
    k_steps
    with_reducible rename Fr _ _ _ _ => F9
    with_reducible rename News _ _ _ _ => N9
    refine wpAny_execs_nil (cut_next ⟨_, _, _, rfl, fun q => hb9 (hb7 q), F9, ?_⟩)
    intro p hp
    rcases List.mem_cons.mp hp with rfl | hp
    · exact N9 _ (by k_mem)
    · rcases List.mem_cons.mp hp with rfl | hp
      · exact N9 _ (by k_mem)
      · rw [List.mem_singleton.mp hp]; exact N9 _ (by k_mem)
  rintro s8 ⟨h8, tk8, g8, rfl, hb8, F8, N8⟩
  clear F7 N7 hb7
  refine execs_cut 1 (fun s' => ∃ (h : Heap) (tk : Nat) (g' : Array GenState) (m : Str → Option Value) (oM' : Obj), s' = { s with heap := h, toks := tk, gens := g' } ∧ (AllBare s.gens → AllBare g') ∧ Fr g L' h m ∧ m (Str.ofString "due") = some (.int (due l) t5) ∧ News g L' h [(L' + 1, oW)]) ?_ ?_
  · k_steps
    refine parked ?_
    refine wpAny_For ?_ (by intro _; with_unfolding_all rfl)
    k_steps
    rename_i hr F9 N9 hk9
    refine parked ?_
    refine pyIter_range_led (n := l.length + 1) F9 N9 hr (by rw [mk_len]; exact small_l _ hlen6) (by rw [mk_len]; exact size_l _ hlen6) ?_
    clear F9 N9 hr hk9
    intro I h9 hLI gI hne F9 N9 hIt
    refine for_walk (Walks.range (by with_unfolding_all rfl) I 0 1 (l.length + 1)) (fun i s' => ∃ (h : Heap) (tk : Nat) (m : Str → Option Value) (oM' : Obj) (mv : Option Value), s' = { s with heap := h, toks := tk, gens := g8 } ∧ Fr g L' h m ∧ m (Str.ofString "due") = some (.int (due l) t5) ∧ m (Str.ofString "words") = some (.ref D) ∧ News g L' h [(D, listOf vals.toArray nD), (L' + 1, oW), (L' + 1 + 1, oM')] ∧ oM'.data = .cell mv) ?hJ ?turn ?fin ?h0 hIt
    case h0 => exact ⟨h9, _, _, oM, _, rfl, F9, rfl, rfl, N9, dM⟩
    case hJ =>
      rintro i _ h' tk' ⟨h, tk, m, oM', mv, rfl, F, hmd, hmw, N, hmv⟩ hk
      exact ⟨h', tk', m, oM', mv, rfl, fr_but F hLI gI hk, hmd, hmw, news_but N (fun p hp => by
        rcases List.mem_cons.mp hp with rfl | hp
        · exact hne _ (List.Mem.head _)
        · rcases List.mem_cons.mp hp with rfl | hp
          · exact hne _ (by k_mem)
          · rw [List.mem_singleton.mp hp]; exact hne (L' + 1 + 1, oM) (by k_mem)) hk, hmv⟩
    case fin =>
      rintro _ ⟨h, tk, m, oM', mv, rfl, F, hmd, hmw, N, hmv⟩
      refine wpAny_execs_nil (cut_next ⟨h, tk, g8, m, oM', rfl, hb8, F, hmd, fun p hp => ?_⟩)
      rw [List.mem_singleton.mp hp]; exact N _ (by k_mem)
    case turn =>
      clear F9 N9 hIt
      rintro i v _ hi ⟨tp, rfl⟩ ⟨h, tk, m, oM', mv, rfl, F, hmd, hmw, N, hmv⟩ hSt
      have Fa := fr_same hmw F
      have Fb := fr_same (x := Str.ofString "due") (v := .int (due l) t5) (by show (if Str.ofString "due" = Str.ofString "words" then _ else _) = _; rw [if_neg (by decide)]; exact hmd) Fa
      refine wpAny_assign_Name (wpAny_storeName_local rfl Fb.ns (fun h2 hn2 hs2 => ?_) rfl)
      have F2 := Fb.set hn2 hs2
      have N2 := N.set hs2
      have hI2 : h2.get? I = some (rio (0 + ((i + 1 : Nat) : Int) * 1) (((l.length + 1 : Nat) : Int) - ((i + 1 : Nat) : Int))) := rio_is.mpr (hs2.extBut I _ (Ne.symm hLI) hSt)
      have N3 : News g L' h2 ((I, rio (0 + ((i + 1 : Nat) : Int) * 1) (((l.length + 1 : Nat) : Int) - ((i + 1 : Nat) : Int))) :: [(D, listOf vals.toArray nD), (L' + 1, oW), (L' + 1 + 1, oM')]) := fun p hp => by
        rcases List.mem_cons.mp hp with rfl | hp
        · exact ⟨hI2, Ne.symm hLI, gI⟩
        · exact N2 p hp
      have neI : D ≠ I ∧ L' + 1 ≠ I ∧ L' + 1 + 1 ≠ I := ⟨hne _ (List.Mem.head _), hne (L' + 1, oW) (by k_mem), hne (L' + 1 + 1, oM) (by k_mem)⟩
      clear Fa Fb F N N2 hn2 hs2 hSt hI2
      have hil : i ≤ l.length := by omega
      have hs1 := slice_len_to l i hil hlen6
      have hs2 := slice_len_from l i hil hlen6
      refine execs_cut 1 (fun s' => ∃ (h : Heap) (tk : Nat) (m' : Str → Option Value) (oM'' : Obj) (t7 : Tok), s' = { s with heap := h, toks := tk, gens := g8 } ∧ Fr g L' h m' ∧ m' (Str.ofString "due") = some (.int (due l) t5) ∧ m' (Str.ofString "words") = some (.ref D) ∧ News g L' h [(I, rio (0 + ((i + 1 : Nat) : Int) * 1) (((l.length + 1 : Nat) : Int) - ((i + 1 : Nat) : Int))), (D, listOf vals.toArray nD), (L' + 1, oW), (L' + 1 + 1, oM'')] ∧ oM''.data = .cell (some (.str (mk (ins l i)) t7))) ?_ ?_
      · k_steps
        rename_i Fz Nz dz
        rw [ins_eq l i hil] at dz
        exact wpAny_execs_nil (cut_next ⟨_, _, _, _, _, rfl, Fz, rfl, rfl, Nz, dz⟩)
      rintro s10 ⟨h10, tk10, m10, oM10, t7, rfl, F10, hmd10, hmw10, N10, dM10⟩
      clear F2 N3 hmd hmw hmv
      have Fa := fr_same hmw10 F10
      have Fb := fr_same (x := Str.ofString "due") (v := .int (due l) t5) (by show (if Str.ofString "due" = Str.ofString "words" then _ else _) = _; rw [if_neg (by decide)]; exact hmd10) Fa
      clear Fa F10
      have lin : (ins l i).length ≤ 7 := by rw [ins_len]; omega
      have hbin := ins_br l i hbr6
      k_steps
      · refine parked ?_
        have h0 : due l = 0 := by assumption
        refine comp_one (GR := fun a b => b = a) (It := fun v a => ∃ t, v = .str (mk a) t) (Is := fun v k => ∃ t, v = .int k t) (fun a => [levL (ins l i) a]) VVall (fun _ => rfl) (by with_unfolding_all rfl) (by decide) (by with_unfolding_all rfl) (by decide) (by intro _; with_unfolding_all rfl) (by with_unfolding_all rfl) (fun C => by with_unfolding_all rfl) (fun C => by with_unfolding_all rfl) ?_
        k_steps
        with_reducible rename Fr _ _ h10 _ => F6
        with_reducible rename News _ _ h10 _ => N6
        have hli := (N6 (D, listOf vals.toArray nD) (by k_mem)).1
        have X6 := X'.keeps F6.keep
        have T6 := T'.keeps F6.keep
        have hcw := (N6 (L' + 1 + 1, oM10) (by k_mem)).1
        dsimp only at hcw
        refine parked ⟨_, _, rfl, ⟨_, hli, rfl, _, rfl⟩, strs_paired hst, ?elt, ?post⟩
        case elt =>
          intro C D2 j k v s2 hki hv hCs hC hD hDC cs
          obtain ⟨t, rfl⟩ := hv
          have hmem : k ∈ VVall := List.mem_of_getElem? hki
          refine wpAny_tests_nil ?_
          simp only [if_true]
          unfold TurnLast
          have cs' := cs
          obtain ⟨h7, tk7, g7, m7, ys7, rfl, hg7, hk7, hns7, hm7, hpl7, hp7⟩ := cs
          have F9 : Fr _ C h7 m7 := ⟨hns7, hk7, hCs⟩
          clear F6 N6 hli
          k_steps
          refine parked ?_
          with_reducible rename Fr _ C _ _ => F9
          refine use_pure (lev_pc w (mk (ins l i)) t7 (mk k) t _ (by rw [mk_len]; omega) (by rw [mk_len]; have := VVall_len k hmem; omega) (fun c hc => hbin c (by simpa [lst, mk] using hc)) (fun c hc => VVall_br k hmem c (by simpa [lst, mk] using hc))) F9 News.nil X6 T6 (by with_unfolding_all rfl) (by show dp + 1 + 10 < recursionLimit; omega) (by show un + 3 + 100 < cLine; omega) ?_
          intro v h8 tk8 hr8 hk8 F8 N8
          obtain ⟨t9, rfl⟩ := hr8
          refine append_CS (a := levL (ins l i) k) (cs'.stepK (fun b o e => hk8 b o e)) hD hDC ⟨t9, by rw [show lst (mk (ins l i)) = ins l i from lst_mk _, show lst (mk k) = k from lst_mk k]⟩ ?hsz ?hfin
          case hsz =>
            have := flat_len (VVall.take j) (fun a => [levL (ins l i) a]) 1 fun b _ => Nat.le_refl _
            have : (VVall.take j).length ≤ 23 := by rw [List.length_take, VVall_num]; omega
            omega
          case hfin => exact fun s' cs' mv' => ⟨cs'.mono fun _ _ => trivial, fun b o h1 h2 e => mv' b o h1 h2 (hk8 b o e)⟩
        case post =>
          intro D2 h7 tk7 g7 ys hg7 hk7 hnone hpl hpr
          obtain rfl := hg7
          obtain ⟨n2, hD2⟩ := hpl
          have F7 := fr_grown F6 hk7
          have N7 := news_add F6 (news_grown N6 hk7) hnone hD2
          have hints := ints_of hpr
          rw [flat_single] at hints
          clear F6 N6 hli hk7 hnone hpr
          k_steps
          refine parked ?_
          with_reducible rename Fr _ _ h7 _ => F7
          with_reducible rename News _ _ h7 _ => N7
          refine min_list_N (by with_unfolding_all rfl) F7 N7 (vs := ys.toList) ⟨_, hD2, rfl, n2, by simp⟩ hints (by rw [List.length_map, VVall_num]; decide) ?_
          intro h8 M t8 tk8 F8 N8 hM hm
          obtain rfl : M = 2 := min_is (fact4 l hlen6 hbr6 h0 i hil) hM hm
          clear F7 N7 hm hM hints
          k_steps
          with_reducible rename Fr _ _ h8 _ => F8
          with_reducible rename News _ _ h8 _ => N8
          refine ⟨rfl, ⟨h8, _, _, oM10, _, rfl, F8, rfl, rfl, ?_, dM10⟩, rio_is.mp (N8 (I, rio (0 + ((i + 1 : Nat) : Int) * 1) (((l.length + 1 : Nat) : Int) - ((i + 1 : Nat) : Int))) (by k_mem)).1⟩
          exact fun p hp => N8 p (List.mem_cons_of_mem _ (List.mem_cons_of_mem _ hp))
      · refine ⟨rfl, ⟨h10, _, _, oM10, _, rfl, Fb, rfl, rfl, ?_, dM10⟩, rio_is.mp (N10 (I, rio (0 + ((i + 1 : Nat) : Int) * 1) (((l.length + 1 : Nat) : Int) - ((i + 1 : Nat) : Int))) (by k_mem)).1⟩
        exact fun p hp => N10 p (List.mem_cons_of_mem _ hp)
  rintro s9 ⟨h9, tk9, g9, m9, oM9, rfl, hb9, F9, hmd9, N9⟩
  clear F8 N8 hb8
  have Fb := fr_same hmd9 F9
  clear F9
  k_steps
  have q := fact5 l hlen6 hbr6
  rw [mk_len, decide_eq_true q]
  exact ⟨h9, _, g9, rfl, hb9, fun b o e => Fb.keep b o (hg ▸ e), rfl⟩
end Mine
open PySem PySem.W PyProof.Rows PySem.Calls PySem.Spec
namespace Mine
local macro_rules | `(tactic| k_room) => `(tactic| ((try simp only [recursionLimit, cLine_is, depth_deeper, units_deeper, depth_in1, units_in1, Around.in1_depth, Around.in1_units, Around.deeper_units] at *); (try dsimp only at *); omega))
local macro_rules | `(tactic| k_enter) => `(tactic| (k_dflt (refine' enterP ?kX ?kT ?hroom ?ho ?hcd ?hbind ?hloc ?h ?hco ?hgen ?hk ?hcell; (case kX => assumption); (case kT => assumption); (case ho => k_is); (case hcd => k_is); (case hroom => k_room); (case hbind => exact BindsTo.of_eq rfl); (case hcell => decide); (case hloc => exact locs rfl); (case hco => exact rfl); (case hgen => exact rfl); (case hk => exact rfl); k_whole; intro g L' h₁ tk hg X' T' F' N'; (try dsimp only); (try k_fold))))
theorem use_law (w : World) (ns : List Int) (vals : List Value) (S : Addr) {s : Shared} {A : Around} {E : Value → Shared → Prop} {p : Program} {loose : List Str} {mean : ExcName → Option Value} {mg mb : Str → Option Value}
    (X : (Mine.hd.heap_39 w.params).In s.heap) (T : Top p loose mean mg mb s.heap) (hl : s.heap.IsList S vals.toArray) (hI : IntsAre vals ns) (hn : ns.length ≤ 63) (hh : A.handled = none) (hd : A.depth + 60 < recursionLimit) (hu : A.units + 500 < cLine) {Q : Value → Shared → Prop}
    (h : ∀ h' tk' g', (AllBare s.gens → AllBare g') → (∀ b o, s.heap.get? b = some o → h'.get? b = some o) → Q (.bool true) { s with heap := h', toks := tk', gens := g' }) :
    wpAny (model PySem.Challenge.rw_gd0004_01.row.prog w) A (call (.ref 66) [.ref S]) Q E s := by
  obtain ⟨hd0, dp, fr, gd, un⟩ := A
  obtain rfl : hd0 = none := hh
  refine wpAny_mono (law_pc w ns vals S s dp un fr gd p loose mean mg mb X T hl hI hn hd hu) (fun v s' hv => ?_) fun _ _ e => e.elim
  obtain ⟨h1, tk1, g1, rfl, hb, hk, rfl⟩ := hv
  exact h h1 tk1 g1 hb hk
end Mine
open Mine
theorem PySem.Challenge.cw_gd0004_01_holds : PySem.Challenge.rw_gd0004_01.Holds := by
  refine Mine.hd ?_
  k_fill
  intro w s₀ s₁ mg mb G Y fa o pm cd doc dV kV ho hd hcd hD hmg hg args vals as hpre hlay hrd hwl hlo
  have KX := kIn_of Y
  refine Ground.open G ?_
  intro T B D TE TW
  clear hcd hd hD ho TE TW B D
  have e66 := mg_of (n := Str.ofString "law") (v := .ref 66) KX T.g (by k_is)
  have e67 := e66.symm.trans hmg
  cases e67
  clear hmg e66
  wrow_args hpre hlay hrd hwl hlo
  rename IntsAre _ _ => hI
  rename Heap.IsList _ _ _ => hL
  refine use_law w _ _ _ KX T hL hI (by omega) (by with_unfolding_all rfl) (by decide) (by decide) ?_
  intro h' tk' g' hb hk
  refine ⟨.inl ⟨_, _, [], rfl, ?_, ReadsW.bool true, ?_, fun _ => ⟨List.nodup_nil, fun _ hm => (nomatch hm)⟩⟩, ?_, rfl, hb (by rw [hg]; exact AllBare.empty)⟩
  · intro cls; rfl
  · first | wrow_post | (with_unfolding_all rfl)
  · exact OldK.of_keep hk
