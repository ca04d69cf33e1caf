import PyProof.Rows.All
import Wide.All
import OpenK.AllK
import Wide.FinOn
import KE.KLcTest
import PyProof.StrLawsReplace
import PyProof.TableTree
import PyProof.FactsTree
import PyProof.PlainAttrs
import Lean
import PySem.Challenge.RW_sw0075_01
set_option maxRecDepth 100000
set_option Elab.async false
set_option linter.unusedVariables false
set_option linter.unusedSimpArgs false
section
open PySem PySem.W PyProof.Rows
namespace Mine
set_option maxRecDepth 100000 in
set_option maxHeartbeats 8000000 in
open_top hd for PySem.Challenge.rw_sw0075_01
end Mine
end
section
open PySem PySem.W PySem.Spec PySem.Calls PyProof.Rows
namespace Mine
noncomputable abbrev HK (w : World) : Frag := hd.heap_39 w.params
noncomputable abbrev LOOSE : List Str := looseW hd.view_39 [Str.ofString "tspecials", Str.ofString "_name_disallowed_re", Str.ofString "_value_disallowed_re", Str.ofString "_formatparam"]
def Hold (P : Prop) : Prop := P
theorem Hold.to {P : Prop} (h : Hold P) : P := h
theorem Hold.by {P : Prop} (h : P) : Hold P := h
section
variable {prog : Program} {w : World} {A₀ A : Around} {s : Shared} {base h₀ : Heap} {outer : List Env} {L : Addr} {m : Str → Option Value} {env : Env} {K : Frag} {mean : ExcName → Option Value} {mg mb : Str → Option Value} {p : Program} {loose : List Str}
  {R : Result → Shared → Prop} {name qual : Str} {params : Arguments} {body : List Stmt} {scope : Scope} {dV kV doc pm cdv ct oc : Value} {an od : Option Addr} {osl : Array (Option Value)} {f : Addr} {args : Args} {binds ps : List (Str × Value)}
theorem enterK (B : Below A₀ base outer h₀) (F : Fr h₀ L s.heap m) (X₀ : K.In h₀) (T : Top p loose mean mg mb h₀) (hA : A.frames = some (env :: outer)) (hf : env.frame = some L) (hke : env.scope.kind = .function)
    (ho : K.lookup f = some ⟨oc, od, .func (fnOf name qual params body scope dV kV doc pm an cdv ct), osl⟩) (hcd : codeIn K cdv qual = true) (hroom : A.depth < recursionLimit)
    (hbind : BindsTo s (fnOf name qual params body scope dV kV doc pm an cdv ct) args binds) (hloc : ∀ y ∈ binds, scope.names.lookup y.1 = some .local) (hps : binds.reverse = ps)
    (h : ∀ L' h₁, Fr s.heap L' h₁ (fun y => ps.lookup y) → News s.heap L' h₁ [] → Below A base (env :: outer) s.heap → K.In s.heap → Top p loose mean mg mb s.heap →
      wpAny (model prog w) (A.deeper (envOf qual scope L' f cdv)) (execs body (envOf qual scope L' f cdv))
        (fun fl s' => LeaveK h₀ L m s.heap R (match fl with | .ret v => v | _ => .none) s')
        (fun e s' => wpAny (model prog w) (A.deeper (envOf qual scope L' f cdv)) (leaving (envOf qual scope L' f cdv) e) (fun _ s'' => R (.error e) s'') (fun e' s'' => R (.error e') s'') s')
        { s with heap := h₁, toks := s.toks + binds.length })
    (hco : scope.isCoroutine = false) (hgen : scope.isGenerator = false) (hk : scope.kind = .function)
    (hcell : ∀ x ∈ scope.names, x.2 ≠ .cell) : codeAny (model prog w) A (.call (.ref f) args) R s := by
  subst hps
  have st : h₀.StaysIn s.heap := F.keep
  have N : News h₀ L s.heap [] := News.nil
  obtain ⟨FG, BG, _, lv⟩ := groundX (R := R) B F N hA hf hke
  have X := X₀.keeps F.keep
  refine codeAny_call_def (fd := fnX name qual params body scope [] dV kV doc pm an cdv ct) (body := body) (binds := binds) hroom (X _ _ ho) rfl (T.nolimit.keeps F.keep) (codeRec_of X hcd) rfl hbind hcell hloc (fun h₁ hns hk₁ => ?_) hco hgen hk
  exact wpAny_mono (h s.heap.objs.size h₁ ⟨hns, fun b o e => hk₁ b o e, Nat.le_refl _⟩ News.nil BG X (T.keeps st)) (fun fl s' hl => lv _ _ hl) fun _ _ y => y
end
section
variable {prog : Program} {w : World} {A : Around} {E : Value → Shared → Prop} {Q : Flow → Shared → Prop} {s : Shared} {env : Env} {h₀ : Heap} {L : Addr}
def WOut {σ : Type} (h₀ : Heap) (L : Addr) (s : Shared) (Led : σ → List (Addr × Obj)) (ps : σ → List (Str × Value)) (Facts : σ → Prop) (stored : List Str) (m₀ : Str → Option Value) (Post : σ → Prop) (s₂ : Shared) : Prop :=
  ∃ (c' : σ) (h' : Heap) (tk : Nat) (m' : Str → Option Value) (news' : List (Addr × Obj)), s₂ = { s with heap := h', toks := tk } ∧ Fr h₀ L h' m' ∧ News h₀ L h' news' ∧ (∀ p ∈ Led c', p ∈ news') ∧ Facts c' ∧ (∀ p ∈ ps c', m' p.1 = some p.2) ∧ (∀ z, (∀ p ∈ ps c', z ≠ p.1) → stored.contains z = false → m' z = m₀ z) ∧ Post c'
theorem wout {σ : Type} {Led : σ → List (Addr × Obj)} {ps : σ → List (Str × Value)} {Facts : σ → Prop} {stored : List Str} {m₀ m' : Str → Option Value} {Post : σ → Prop} {h' : Heap} {tk : Nat} {news' : List (Addr × Obj)} (c' : σ)
    (F : Fr h₀ L h' m') (N : News h₀ L h' news') (hn : ∀ p ∈ Led c', p ∈ news') (hf : Facts c') (hk : ∀ p ∈ ps c', m' p.1 = some p.2) (hr : ∀ z, (∀ p ∈ ps c', z ≠ p.1) → stored.contains z = false → m' z = m₀ z) (hp : Post c') :
    WOut h₀ L s Led ps Facts stored m₀ Post { s with heap := h', toks := tk } := ⟨c', h', tk, m', news', rfl, F, N, hn, hf, hk, hr, hp⟩
def WMid {σ : Type} (h₀ : Heap) (L : Addr) (s : Shared) (Led : σ → List (Addr × Obj)) (ps : σ → List (Str × Value)) (Facts : σ → Prop) (stored : List Str) (m₀ : Str → Option Value) (Post : σ → Prop) (Q : Flow → Shared → Prop) (f : Flow) (s₂ : Shared) : Prop :=
  match f with
  | .next => WOut h₀ L s Led ps Facts stored m₀ Post s₂
  | f => Q f s₂
theorem kwh_while {σ : Type} {test : Expr} {body : List Stmt} {pos : Pos} {m₀ : Str → Option Value} (Led : σ → List (Addr × Obj)) (ps : σ → List (Str × Value)) (Facts : σ → Prop) (stored : List Str) (P : σ → Prop) (μ : σ → Nat) (Post : σ → Prop) (c₀ : σ)
    (F : Fr h₀ L s.heap m₀) (N : News h₀ L s.heap (Led c₀)) (hf : Facts c₀) (hk : ∀ p ∈ ps c₀, m₀ p.1 = some p.2) (hp : P c₀)
    (turn : ∀ (c : σ) (u : Str → Option Value) h tk, Facts c → P c → Fr h₀ L h (kstB (fun z => if stored.contains z then u z else m₀ z) (ps c)) → News h₀ L h (Led c) →
      wpAny (model prog w) A (isTrue test env (eval test env)) (fun b s₂ =>
        if b = true then wpAny (model prog w) A (execs body env) (KswPost h₀ L s Led ps Facts stored m₀ P μ (WMid h₀ L s Led ps Facts stored m₀ Post Q) c) E s₂ else WOut h₀ L s Led ps Facts stored m₀ Post s₂) E { s with heap := h, toks := tk })
    (done : ∀ (c : σ) (u : Str → Option Value) h tk, Facts c → Post c → Fr h₀ L h (kstB (fun z => if stored.contains z then u z else m₀ z) (ps c)) → News h₀ L h (Led c) → Q .next { s with heap := h, toks := tk })
    (hE : PassesOwn (model prog w) A env E := by passes_own) :
    wpAny (model prog w) A (exec (.While test body [] pos) env) Q E s := by
  refine wpAny_mono (ksw_while (Q := WMid h₀ L s Led ps Facts stored m₀ Post Q) Led ps Facts stored P μ c₀ F N hf hk hp turn hE) (fun f s₂ q => ?_) fun _ _ x => x
  cases f with
  | next =>
    obtain ⟨c', h', tk, m', news', rfl, F', N', hn, hf', hk', hr, hp'⟩ := q
    exact done c' m' h' tk hf' hp' (ksw_fr hk' hr F') fun p hp => N' p (hn p hp)
  | ret v => exact q
  | brk => exact q
  | cont => exact q
theorem execs_app_eq (env : Env) : ∀ (l₁ l₂ : List Stmt), execs (l₁ ++ l₂) env = (execs l₁ env >>= fun f => match f with | .next => execs l₂ env | f => pure f)
  | [], _ => rfl
  | st :: r, l₂ => by
    have e1 : execs (st :: r) env = (exec st env >>= fun f => match f with | .next => execs r env | f => pure f) := rfl
    have e2 : execs ((st :: r) ++ l₂) env = (exec st env >>= fun f => match f with | .next => execs (r ++ l₂) env | f => pure f) := rfl
    rw [e1, e2, bind_assoc]
    congr 1
    funext f
    cases f with
    | next => exact execs_app_eq env r l₂
    | ret v => exact (pure_bind _ _).symm
    | brk => exact (pure_bind _ _).symm
    | cont => exact (pure_bind _ _).symm
theorem execs_app {M : Model} {l₁ l₂ : List Stmt} (h : wpAny M A (execs l₁ env) (fun f s' => match f with | .next => wpAny M A (execs l₂ env) Q E s' | f => Q f s') E s) : wpAny M A (execs (l₁ ++ l₂) env) Q E s := by
  rw [execs_app_eq]
  refine wpAny_bind (wpAny_mono h (fun f s' q => ?_) fun _ _ x => x)
  cases f with
  | next => exact q
  | ret v => exact wpAny_pure q
  | brk => exact wpAny_pure q
  | cont => exact wpAny_pure q
/-- a cut behind the first k statements -/
theorem cut_at {σ : Type} {l : List Stmt} {m₀ : Str → Option Value} (k : Nat) (Led : σ → List (Addr × Obj)) (ps : σ → List (Str × Value)) (Facts : σ → Prop) (stored : List Str) (Post : σ → Prop) (_F : Fr h₀ L s.heap m₀)
    (first : wpAny (model prog w) A (execs (l.take k) env) (WMid h₀ L s Led ps Facts stored m₀ Post Q) E s)
    (done : ∀ (c : σ) (u : Str → Option Value) h tk, Facts c → Post c → Fr h₀ L h (kstB (fun z => if stored.contains z then u z else m₀ z) (ps c)) → News h₀ L h (Led c) → wpAny (model prog w) A (execs (l.drop k) env) Q E { s with heap := h, toks := tk }) :
    wpAny (model prog w) A (execs l env) Q E s := by
  rw [← List.take_append_drop k l]
  refine execs_app (wpAny_mono first (fun f s₂ q => ?_) fun _ _ x => x)
  cases f with
  | next =>
    obtain ⟨c', h', tk, m', news', rfl, F', N', hn, hf', hk', hr, hp'⟩ := q
    exact done c' m' h' tk hf' hp' (ksw_fr hk' hr F') fun p hp => N' p (hn p hp)
  | ret v => exact q
  | brk => exact q
  | cont => exact q
end
section
variable {prog : Program} {w : World} {A : Around} {E : Value → Shared → Prop} {Q : Flow → Shared → Prop} {s : Shared} {env : Env} {h₀ : Heap} {L : Addr}
def FOut {σ : Type} (h₀ : Heap) (L : Addr) (s : Shared) (Led : σ → List (Addr × Obj)) (ps : σ → List (Str × Value)) (Facts : σ → Prop) (Post : σ → Prop) (s₂ : Shared) : Prop :=
  ∃ (c' : σ) (h' : Heap) (tk : Nat) (m' : Str → Option Value) (news' : List (Addr × Obj)), s₂ = { s with heap := h', toks := tk } ∧ Fr h₀ L h' m' ∧ News h₀ L h' news' ∧ (∀ p ∈ Led c', p ∈ news') ∧ Facts c' ∧ (∀ p ∈ ps c', m' p.1 = some p.2) ∧ Post c'
theorem fout {σ : Type} {Led : σ → List (Addr × Obj)} {ps : σ → List (Str × Value)} {Facts : σ → Prop} {m' : Str → Option Value} {Post : σ → Prop} {h' : Heap} {tk : Nat} {news' : List (Addr × Obj)} (c' : σ)
    (F : Fr h₀ L h' m') (N : News h₀ L h' news') (hn : ∀ p ∈ Led c', p ∈ news') (hf : Facts c') (hk : ∀ p ∈ ps c', m' p.1 = some p.2) (hp : Post c') :
    FOut h₀ L s Led ps Facts Post { s with heap := h', toks := tk } := ⟨c', h', tk, m', news', rfl, F, N, hn, hf, hk, hp⟩
def FMid {σ : Type} (h₀ : Heap) (L : Addr) (s : Shared) (Led : σ → List (Addr × Obj)) (ps : σ → List (Str × Value)) (Facts : σ → Prop) (Post : σ → Prop) (Q : Flow → Shared → Prop) (f : Flow) (s₂ : Shared) : Prop :=
  match f with
  | .next => FOut h₀ L s Led ps Facts Post s₂
  | f => Q f s₂
theorem frF {h : Heap} {ps : List (Str × Value)} {m₁ : Str → Option Value} (h1 : ∀ p ∈ ps, m₁ p.1 = some p.2) (F : Fr h₀ L h m₁) : Fr h₀ L h (kstB m₁ ps) := by
  have em : kstB m₁ ps = m₁ := funext fun y => kstB_eq h1 fun _ => rfl
  rw [em]
  exact F
/-- a cut behind the first k statements: the frame is forgotten but for the names said -/
theorem cut_fresh {σ : Type} {l : List Stmt} {m₀ : Str → Option Value} (k : Nat) (Led : σ → List (Addr × Obj)) (ps : σ → List (Str × Value)) (Facts : σ → Prop) (Post : σ → Prop) (_F : Fr h₀ L s.heap m₀)
    (first : wpAny (model prog w) A (execs (l.take k) env) (FMid h₀ L s Led ps Facts Post Q) E s)
    (done : ∀ (c : σ) (u : Str → Option Value) h tk, Facts c → Post c → Fr h₀ L h (kstB u (ps c)) → News h₀ L h (Led c) → wpAny (model prog w) A (execs (l.drop k) env) Q E { s with heap := h, toks := tk }) :
    wpAny (model prog w) A (execs l env) Q E s := by
  rw [← List.take_append_drop k l]
  refine execs_app (wpAny_mono first (fun f s₂ q => ?_) fun _ _ x => x)
  cases f with
  | next =>
    obtain ⟨c', h', tk, m', news', rfl, F', N', hn, hf', hk', hp'⟩ := q
    exact done c' m' h' tk hf' hp' (frF hk' F') fun p hp => N' p (hn p hp)
  | ret v => exact q
  | brk => exact q
  | cont => exact q
/-- a while, what holds behind it; the frame is forgotten but for the names said -/
theorem while_fresh {σ : Type} {test : Expr} {body : List Stmt} {pos : Pos} {m₀ : Str → Option Value} (Led : σ → List (Addr × Obj)) (ps : σ → List (Str × Value)) (Facts : σ → Prop) (stored : List Str) (P : σ → Prop) (μ : σ → Nat) (Post : σ → Prop) (c₀ : σ)
    (F : Fr h₀ L s.heap m₀) (N : News h₀ L s.heap (Led c₀)) (hf : Facts c₀) (hk : ∀ p ∈ ps c₀, m₀ p.1 = some p.2) (hp : P c₀)
    (turn : ∀ (c : σ) (u : Str → Option Value) h tk, Facts c → P c → Fr h₀ L h (kstB (fun z => if stored.contains z then u z else m₀ z) (ps c)) → News h₀ L h (Led c) →
      wpAny (model prog w) A (isTrue test env (eval test env)) (fun b s₂ =>
        if b = true then wpAny (model prog w) A (execs body env) (KswPost h₀ L s Led ps Facts stored m₀ P μ (FMid h₀ L s Led ps Facts Post Q) c) E s₂ else FOut h₀ L s Led ps Facts Post s₂) E { s with heap := h, toks := tk })
    (done : ∀ (c : σ) (u : Str → Option Value) h tk, Facts c → Post c → Fr h₀ L h (kstB u (ps c)) → News h₀ L h (Led c) → Q .next { s with heap := h, toks := tk })
    (hE : PassesOwn (model prog w) A env E := by passes_own) :
    wpAny (model prog w) A (exec (.While test body [] pos) env) Q E s := by
  refine wpAny_mono (ksw_while (Q := FMid h₀ L s Led ps Facts Post Q) Led ps Facts stored P μ c₀ F N hf hk hp turn hE) (fun f s₂ q => ?_) fun _ _ x => x
  cases f with
  | next =>
    obtain ⟨c', h', tk, m', news', rfl, F', N', hn, hf', hk', hp'⟩ := q
    exact done c' m' h' tk hf' hp' (frF hk' F') fun p hp => N' p (hn p hp)
  | ret v => exact q
  | brk => exact q
  | cont => exact q
end
theorem newsKeep {h₀ h h' : Heap} {L : Addr} {news : List (Addr × Obj)} (N : News h₀ L h news) (k : h.StaysIn h') : News h₀ L h' news := fun p hp => ⟨k _ _ (N p hp).1, (N p hp).2⟩
/-- the room at a law's or a def's call -/
noncomputable abbrev PR : Program := PySem.Challenge.rw_sw0075_01.row.prog
end Mine
end
section
open PySem PySem.W PySem.Spec PySem.Calls PyProof.Rows PyProof
namespace Mine
/-- a text of its signs -/
def S (l : List Nat) : Str := ⟨l.toArray⟩
theorem S_len (l : List Nat) : (S l).length = l.length := by simp [S, Str.length]
theorem S_inj {l k : List Nat} : S l = S k ↔ l = k := by
  unfold S
  constructor
  · intro h
    have := congrArg Str.cps h
    simpa using this
  · rintro rfl; rfl
theorem S_beq (l k : List Nat) : (S l == S k) = decide (l = k) := by
  by_cases h : l = k
  · subst h; simp
  · have : S l ≠ S k := fun e => h (S_inj.mp e)
    simp [h, this]
theorem slice_from {xs : List Nat} {n : Int} (h0 : 0 ≤ n) (h1 : n ≤ xs.length) : Txt.slice (S xs) (some n) none = S (xs.drop n.toNat) := by
  rw [slice_from_eq h0 (by rw [S_len]; exact h1) rfl]
  unfold S
  simp [Str.length]
  exact List.take_of_length_le (by rw [List.length_drop]; omega)
theorem slice_all {xs : List Nat} : Txt.slice (S xs) none none = S xs := by
  have := StrLaws.sliceText_from (x := S xs) (i := 0) ⟨by omega, by omega⟩
  unfold Txt.slice
  rw [StrLaws.sliceIdx_none_lo]
  have e : StrLaws.sliceText (S xs) (some 0) none = S xs := by rw [this]; simp [S]
  exact e
theorem slice_upto {xs : List Nat} {k : Nat} {j : Int} (hj : j = -(k : Int)) (h0 : 0 < k) (h1 : k ≤ xs.length) : Txt.slice (S xs) none (some j) = S (xs.take (xs.length - k)) := by
  have := beq_iff_eq.mp (slice_closes_to_neg (x := S xs) (j := j) (k := j + (S xs).length) (by omega) (by rw [S_len]; omega) rfl)
  rw [this, S_len]
  unfold S
  simp
  congr 1
  omega
theorem item_at {xs : List Nat} {n : Int} (h0 : 0 ≤ n) (h1 : n < xs.length) : Txt.item (S xs) n = S [xs.getD n.toNat 0] := by
  have := beq_iff_eq.mp (item_closes (x := S xs) (i := n) ⟨h0, by rw [S_len]; exact h1⟩)
  rw [this]
  simp [S]
theorem item_neg {xs : List Nat} {k : Nat} {n : Int} (hn : n = -(k : Int) - 1) (h1 : k < xs.length) : Txt.item (S xs) n = S [xs.reverse.getD k 0] := by
  have := beq_iff_eq.mp (item_closes_neg (x := S xs) (i := n) (j := n + (S xs).length) (by omega) (by rw [S_len]; omega) rfl)
  rw [this, S_len]
  unfold S
  simp
  rw [List.getElem?_reverse h1]
  congr 2
  omega
end Mine
end
section
open PySem PySem.W PySem.Spec PySem.Calls PyProof.Rows PyProof
namespace Mine
/-- how long two rows are alike from the first on -/
def pfx : List Nat → List Nat → Nat
  | a :: as, b :: bs => if a = b then pfx as bs + 1 else 0
  | _, _ => 0
def subC (c d : Nat) : Int := if c = d then 0 else 2
def innerF (bc : Nat) : List Nat → List Int → Int → Int → Int → List Int × Int × Int
  | c :: cs, o :: os, d, r, m =>
    let i := (if o < r then o else r) + 2
    let r' := if d + subC bc c < i then d + subC bc c else i
    let t := innerF bc cs os o r' (if r' < m then r' else m)
    (r' :: t.1, t.2)
  | _, _, _, r, m => ([], r, m)
def BIG : Int := 9223372036854775807
def outerF (as : List Nat) (mx : Int) : List Nat → Int → List Int → Int → Int
  | [], _, _, res => res
  | b :: bs, i, row, _ =>
    let t := innerF b as row (i * 2) (i * 2) BIG
    if t.2.2 > mx then mx + 1 else outerF as mx bs (i + 1) t.1 t.2.1
def rowStart (n : Nat) : List Int := (List.range n).map fun (k : Nat) => 2 + (k : Int) * 2
def levCore (a b : List Nat) (mx : Int) : Int :=
  if ((b.length : Int) - a.length) * 2 > mx then mx + 1 else outerF a mx b 0 (rowStart a.length) 0
def levMid (a b : List Nat) (mx : Int) : Int :=
  if a = [] ∨ b = [] then 2 * ((a.length : Int) + b.length)
  else if 40 < a.length ∨ 40 < b.length then mx + 1
  else if b.length < a.length then levCore b a mx else levCore a b mx
def levEnd (a b : List Nat) (mx : Int) : Int :=
  let q := pfx a.reverse b.reverse
  levMid (a.take (a.length - q)) (b.take (b.length - q)) mx
def levF (x y : List Nat) (mx : Int) : Int :=
  if x = y then 0 else levEnd (x.drop (pfx x y)) (y.drop (pfx x y)) mx
theorem pfx_le : ∀ (x y : List Nat), pfx x y ≤ x.length ∧ pfx x y ≤ y.length
  | [], y => by simp [pfx]
  | a :: as, [] => by simp [pfx]
  | a :: as, b :: bs => by
    have := pfx_le as bs
    unfold pfx
    split <;> simp only [List.length_cons] <;> omega
theorem pfx_nil_right (x : List Nat) : pfx x [] = 0 := by cases x <;> rfl
theorem pfx_step {x y : List Nat} {k : Nat} (hx : k < x.length) (hy : k < y.length) (h : x.getD k 0 = y.getD k 0) : pfx (x.drop k) (y.drop k) = pfx (x.drop (k + 1)) (y.drop (k + 1)) + 1 := by
  rw [List.getD_eq_getElem?_getD, List.getElem?_eq_getElem hx, List.getD_eq_getElem?_getD, List.getElem?_eq_getElem hy] at h
  rw [List.drop_eq_getElem_cons hx, List.drop_eq_getElem_cons hy, pfx]
  simp only [Option.getD_some] at h
  rw [if_pos h]
theorem pfx_stop {x y : List Nat} {k : Nat} (hx : k < x.length) (hy : k < y.length) (h : x.getD k 0 ≠ y.getD k 0) : pfx (x.drop k) (y.drop k) = 0 := by
  rw [List.getD_eq_getElem?_getD, List.getElem?_eq_getElem hx, List.getD_eq_getElem?_getD, List.getElem?_eq_getElem hy] at h
  rw [List.drop_eq_getElem_cons hx, List.drop_eq_getElem_cons hy, pfx]
  simp only [Option.getD_some] at h
  rw [if_neg h]
theorem pfx_endx {x y : List Nat} {k : Nat} (hx : x.length ≤ k) : pfx (x.drop k) (y.drop k) = 0 := by
  rw [List.drop_of_length_le hx]; rfl
theorem pfx_endy {x y : List Nat} {k : Nat} (hy : y.length ≤ k) : pfx (x.drop k) (y.drop k) = 0 := by
  rw [List.drop_of_length_le hy]; exact pfx_nil_right _
/-- the first loop's word, and what holds behind it -/
def Pre (x y : List Nat) (n : Int) : Prop := 0 ≤ n ∧ n ≤ x.length ∧ n ≤ y.length ∧ (pfx x y : Int) = n + pfx (x.drop n.toNat) (y.drop n.toNat)
theorem pre_init {x y : List Nat} : Pre x y 0 := ⟨by omega, by omega, by omega, by simp⟩
theorem pre_step {x y : List Nat} {n : Int} (h : Pre x y n) (hx : n < x.length) (hy : n < y.length) (e : x.getD n.toNat 0 = y.getD n.toNat 0) : Pre x y (n + 1) := by
  obtain ⟨h0, h1, h2, h3⟩ := h
  refine ⟨by omega, by omega, by omega, ?_⟩
  have e1 : (n + 1).toNat = n.toNat + 1 := by omega
  have := pfx_step (x := x) (y := y) (k := n.toNat) (by omega) (by omega) e
  rw [e1]
  omega
theorem pre_stop {x y : List Nat} {n : Int} (h : Pre x y n) (hx : n < x.length) (hy : n < y.length) (e : x.getD n.toNat 0 ≠ y.getD n.toNat 0) : n = pfx x y := by
  obtain ⟨h0, h1, h2, h3⟩ := h
  have := pfx_stop (x := x) (y := y) (k := n.toNat) (by omega) (by omega) e
  omega
theorem pre_endx {x y : List Nat} {n : Int} (h : Pre x y n) (hx : (x.length : Int) ≤ n) : n = pfx x y := by
  obtain ⟨h0, h1, h2, h3⟩ := h
  have := pfx_endx (x := x) (y := y) (k := n.toNat) (by omega)
  omega
theorem pre_endy {x y : List Nat} {n : Int} (h : Pre x y n) (hy : (y.length : Int) ≤ n) : n = pfx x y := by
  obtain ⟨h0, h1, h2, h3⟩ := h
  have := pfx_endy (x := x) (y := y) (k := n.toNat) (by omega)
  omega
end Mine
end
section
open PySem PySem.W PySem.Spec PySem.Calls PyProof.Rows PyProof
namespace Mine
theorem slen {xs : List Nat} {n : Int} (h0 : 0 ≤ n) (h1 : n ≤ xs.length) : ((Txt.slice (S xs) (some n) none).length : Int) = xs.length - n := by
  rw [slice_from h0 h1, S_len, List.length_drop]
  omega
theorem pre_go {x y : List Nat} {n : Int} (h : Pre x y n) (h1 : ((Txt.slice (S x) (some n) none).length : Int) ≠ 0) (h2 : ((Txt.slice (S y) (some n) none).length : Int) ≠ 0)
    (h3 : (Txt.item (S x) n == Txt.item (S y) n) = true) : Pre x y (n + 1) := by
  have h' := h
  obtain ⟨a0, a1, a2, a3⟩ := h
  rw [slen a0 a1] at h1
  rw [slen a0 a2] at h2
  rw [item_at a0 (by omega), item_at a0 (by omega), S_beq] at h3
  exact pre_step h' (by omega) (by omega) (by simpa using h3)
theorem pre_no {x y : List Nat} {n : Int} (h : Pre x y n) (h1 : ((Txt.slice (S x) (some n) none).length : Int) ≠ 0) (h2 : ((Txt.slice (S y) (some n) none).length : Int) ≠ 0)
    (h3 : (Txt.item (S x) n == Txt.item (S y) n) = false) : n = pfx x y := by
  have h' := h
  obtain ⟨a0, a1, a2, a3⟩ := h
  rw [slen a0 a1] at h1
  rw [slen a0 a2] at h2
  rw [item_at a0 (by omega), item_at a0 (by omega), S_beq] at h3
  exact pre_stop h' (by omega) (by omega) (by simpa using h3)
theorem pre_nox {x y : List Nat} {n : Int} (h : Pre x y n) (h1 : ((Txt.slice (S x) (some n) none).length : Int) = 0) : n = pfx x y := by
  have h' := h
  obtain ⟨a0, a1, a2, a3⟩ := h
  rw [slen a0 a1] at h1
  exact pre_endx h' (by omega)
theorem pre_noy {x y : List Nat} {n : Int} (h : Pre x y n) (h1 : ((Txt.slice (S y) (some n) none).length : Int) = 0) : n = pfx x y := by
  have h' := h
  obtain ⟨a0, a1, a2, a3⟩ := h
  rw [slen a0 a2] at h1
  exact pre_endy h' (by omega)
theorem pre_less {x y : List Nat} {n : Int} (h : Pre x y n) (h1 : ((Txt.slice (S x) (some n) none).length : Int) ≠ 0) : x.length - (n + 1).toNat < x.length - n.toNat := by
  obtain ⟨a0, a1, a2, a3⟩ := h
  rw [slen a0 a1] at h1
  omega
theorem pre_a {x y : List Nat} : Txt.slice (S x) (some (pfx x y : Int)) none = S (x.drop (pfx x y)) := by
  have := pfx_le x y
  rw [slice_from (by omega) (by omega)]
  simp
theorem pre_b {x y : List Nat} : Txt.slice (S y) (some (pfx x y : Int)) none = S (y.drop (pfx x y)) := by
  have := pfx_le x y
  rw [slice_from (by omega) (by omega)]
  simp
/-- the second loop's word -/
def Pst (A Z : List Nat) (n : Int) : Prop := n ≤ 0 ∧ -n ≤ A.length ∧ -n ≤ Z.length ∧ (pfx A.reverse Z.reverse : Int) = -n + pfx (A.reverse.drop (-n).toNat) (Z.reverse.drop (-n).toNat)
theorem pst_init {A Z : List Nat} : Pst A Z 0 := ⟨by omega, by omega, by omega, by simp⟩
theorem slen_neg {A : List Nat} {n : Int} (h0 : n < 0) (h1 : -n ≤ A.length) : ((Txt.slice (S A) none (some n)).length : Int) = A.length + n := by
  rw [slice_upto (k := (-n).toNat) (by omega) (by omega) (by omega), S_len, List.length_take]
  omega
theorem slen_all {A : List Nat} : ((Txt.slice (S A) none none).length : Int) = A.length := by
  rw [slice_all, S_len]
theorem pst_go {A Z : List Nat} {n : Int} (h : Pst A Z n) (h1 : -n < A.length) (h2 : -n < Z.length)
    (h3 : (Txt.item (S A) (n - 1) == Txt.item (S Z) (n - 1)) = true) : Pst A Z (n - 1) := by
  obtain ⟨a0, a1, a2, a3⟩ := h
  rw [item_neg (k := (-n).toNat) (by omega) (by omega), item_neg (k := (-n).toNat) (by omega) (by omega), S_beq] at h3
  have e := pfx_step (x := A.reverse) (y := Z.reverse) (k := (-n).toNat) (by simp; omega) (by simp; omega) (by simpa using h3)
  have e1 : (-(n - 1)).toNat = (-n).toNat + 1 := by omega
  refine ⟨by omega, by omega, by omega, ?_⟩
  rw [e1]
  omega
theorem pst_no {A Z : List Nat} {n : Int} (h : Pst A Z n) (h1 : -n < A.length) (h2 : -n < Z.length)
    (h3 : (Txt.item (S A) (n - 1) == Txt.item (S Z) (n - 1)) = false) : n = -(pfx A.reverse Z.reverse : Int) := by
  obtain ⟨a0, a1, a2, a3⟩ := h
  rw [item_neg (k := (-n).toNat) (by omega) (by omega), item_neg (k := (-n).toNat) (by omega) (by omega), S_beq] at h3
  have e := pfx_stop (x := A.reverse) (y := Z.reverse) (k := (-n).toNat) (by simp; omega) (by simp; omega) (by simpa using h3)
  omega
theorem pst_nox {A Z : List Nat} {n : Int} (h : Pst A Z n) (h1 : (A.length : Int) ≤ -n) : n = -(pfx A.reverse Z.reverse : Int) := by
  obtain ⟨a0, a1, a2, a3⟩ := h
  have e := pfx_endx (x := A.reverse) (y := Z.reverse) (k := (-n).toNat) (by simp; omega)
  omega
theorem pst_noy {A Z : List Nat} {n : Int} (h : Pst A Z n) (h1 : (Z.length : Int) ≤ -n) : n = -(pfx A.reverse Z.reverse : Int) := by
  obtain ⟨a0, a1, a2, a3⟩ := h
  have e := pfx_endy (x := A.reverse) (y := Z.reverse) (k := (-n).toNat) (by simp; omega)
  omega
section
variable {prog : Program} {w : World} {A : Around} {E : Value → Shared → Prop} {s : Shared} {h₀ : Heap} {L r : Addr} {m : Str → Option Value} {news : List (Addr × Obj)} {t₀ u₀ v₀ : Tok} {Q : Value → Shared → Prop}
theorem ints_of : ∀ (vs : List Value) (a c : Int), (∀ (j : Nat) (v : Value), vs[j]? = some v → ∃ t, v = .int (a + j * c) t) → IntsAre vs ((List.range vs.length).map fun (k : Nat) => a + (k : Int) * c)
  | [], a, c, _ => IntsAre.nil
  | v :: r, a, c, h => by
    obtain ⟨t, ht⟩ := h 0 v rfl
    have hv : v = .int a t := by rw [ht]; simp
    subst hv
    rw [List.length_cons, List.range_succ_eq_map, List.map_cons, List.map_map]
    have e0 : a + ((0 : Nat) : Int) * c = a := by simp
    rw [e0]
    have ih := ints_of r (a + c) c fun j v hj => by
      obtain ⟨t', ht'⟩ := h (j + 1) v hj
      refine ⟨t', ht'.trans ?_⟩
      congr 1
      rw [Int.natCast_add, Int.add_mul]
      omega
    have e1 : ((fun (k : Nat) => a + (k : Int) * c) ∘ Nat.succ) = fun (k : Nat) => (a + c) + (k : Int) * c := by
      funext k
      simp only [Function.comp]
      rw [Nat.succ_eq_add_one, Int.natCast_add, Int.add_mul]
      omega
    rw [e1]
    exact IntsAre.cons _ _ ih
theorem size_two (n : Nat) : Builtin.Range.rangeSize 2 (2 * ((n : Int) + 1)) 2 = (n : Int) := by
  unfold Builtin.Range.rangeSize
  rw [if_pos (by decide)]
  split <;> omega
theorem small_two {n : Nat} (hz : n ≤ 1000) : Builtin.Range.small 2 (2 * ((n : Int) + 1)) 2 = true := by
  unfold Builtin.Range.small
  rw [size_two]
  rw [if_pos (by decide)]
  simp only [Builtin.Range.rangeFitsLong, Bool.and_eq_true, Bool.or_eq_true, decide_eq_true_eq, beq_iff_eq]
  omega
theorem list_two {n : Nat} {b : Int} (hh : A.handled = none) (F : Fr h₀ L s.heap m) (N : News h₀ L s.heap news) (hr : IsRange s.heap r 2 b 2 t₀ u₀ v₀) (hb : b = 2 * ((n : Int) + 1)) (hz : n ≤ 1000)
    (h : ∀ D us c h' tk, Fr h₀ L h' m → News h₀ L h' ((D, W.listOf (List.toArray us) c) :: news) → (∀ p ∈ news, p.1 < D) → IntsAre us (rowStart n) → Q (.ref D) { s with heap := h', toks := tk }) :
    wpAny (model prog w) A (call (.type "list") [.ref r]) Q E s := by
  subst hb
  refine call_list_range hh hr (small_two hz) (size_two n) (by omega) fun h' tk acc c hk hD hI => ?_
  have hD' : h'.get? s.heap.objs.size = some (W.listOf (List.toArray acc.toList) c) := by
    rw [Array.toArray_toList]
    exact hD
  refine h _ acc.toList c h' tk (F.keeps hk) (news_pushed F N hk hD' rfl) (fun p hp => Heap.lt_size (N p hp).1) ?_
  have e := ints_of acc.toList 2 2 fun j v hj => hI.2 j v (by rw [← hj, Array.getElem?_toList])
  rw [Array.length_toList, hI.1] at e
  exact e
end
theorem lev_ne {x y : List Nat} {mx : Int} (h : (S x == S y) = false) : levF x y mx = levEnd (x.drop (pfx x y)) (y.drop (pfx x y)) mx := by
  rw [S_beq] at h
  unfold levF
  rw [if_neg (of_decide_eq_false h)]
theorem mid_nil {a b : List Nat} {mx : Int} (h : a.length = 0 ∨ b.length = 0) : levMid a b mx = 2 * ((a.length : Int) + b.length) := by
  unfold levMid
  rw [if_pos (h.imp List.length_eq_zero_iff.mp List.length_eq_zero_iff.mp)]
theorem mid_long {a b : List Nat} {mx : Int} (h1 : a.length ≠ 0) (h2 : b.length ≠ 0) (h : 40 < a.length ∨ 40 < b.length) : levMid a b mx = mx + 1 := by
  unfold levMid
  rw [if_neg (fun q => q.elim (fun e => h1 (by rw [e]; rfl)) fun e => h2 (by rw [e]; rfl)), if_pos h]
theorem mid_swap {a b : List Nat} {mx : Int} (h1 : a.length ≠ 0) (h2 : b.length ≠ 0) (h : a.length ≤ 40) (h' : b.length ≤ 40) (q : b.length < a.length) : levMid a b mx = levCore b a mx := by
  unfold levMid
  rw [if_neg (fun q => q.elim (fun e => h1 (by rw [e]; rfl)) fun e => h2 (by rw [e]; rfl)), if_neg (by omega), if_pos q]
theorem mid_stay {a b : List Nat} {mx : Int} (h1 : a.length ≠ 0) (h2 : b.length ≠ 0) (h : a.length ≤ 40) (h' : b.length ≤ 40) (q : ¬ b.length < a.length) : levMid a b mx = levCore a b mx := by
  unfold levMid
  rw [if_neg (fun q => q.elim (fun e => h1 (by rw [e]; rfl)) fun e => h2 (by rw [e]; rfl)), if_neg (by omega), if_neg q]
theorem pst_slice {A : List Nat} {n : Int} {q : Nat} (hn : n = -(q : Int)) (hq : q ≤ A.length) (h0 : n ≠ 0) : Txt.slice (S A) none (some n) = S (A.take (A.length - q)) :=
  slice_upto hn (by omega) hq
theorem pst_slice0 {A : List Nat} {n : Int} {q : Nat} (hn : n = -(q : Int)) (h0 : n = 0) : Txt.slice (S A) none none = S (A.take (A.length - q)) := by
  have : q = 0 := by omega
  subst this
  rw [slice_all, Nat.sub_zero, List.take_length]
def okSigns : List Nat := [38, 59, 103, 108, 116, 110, 58, 32, 112, 61, 34, 13, 10]
theorem ok_lower : ∀ c ∈ okSigns, Txt.lower (S [c]) = S [c] := by decide +kernel
def Ok (x : List Nat) : Prop := ∀ c ∈ x, c ∈ okSigns
theorem Ok.drop {x : List Nat} (h : Ok x) (k : Nat) : Ok (x.drop k) := fun c hc => h c (List.mem_of_mem_drop hc)
theorem Ok.take {x : List Nat} (h : Ok x) (k : Nat) : Ok (x.take k) := fun c hc => h c (List.mem_of_mem_take hc)
theorem Ok.at {x : List Nat} (h : Ok x) {k : Nat} (hk : k < x.length) : x.getD k 0 ∈ okSigns := by
  rw [List.getD_eq_getElem?_getD, List.getElem?_eq_getElem hk]
  exact h _ (List.getElem_mem hk)
theorem size_one (n : Nat) : Builtin.Range.rangeSize 0 (n : Int) 1 = (n : Int) := by
  rw [rangeSize_one]
  split <;> omega
def OutInv (P R : List Nat) (mx : Int) (k : Nat) (row : List Int) (res : Int) : Prop := row.length = P.length ∧ outerF P mx (R.drop k) k row res = levCore P R mx
theorem out_init {P R : List Nat} {mx : Int} (h : ¬ ((R.length : Int) - P.length) * 2 > mx) : OutInv P R mx 0 (rowStart P.length) 0 := by
  refine ⟨by simp [rowStart], ?_⟩
  unfold levCore
  rw [if_neg h]
  rfl
def InInv (bc : Nat) (P : List Nat) (old : List Int) (d0 : Int) (k : Nat) (row : List Int) (d r m : Int) : Prop :=
  ∃ done : List Int, done.length = k ∧ row = done ++ old.drop k ∧ innerF bc P old d0 d0 BIG = (done ++ (innerF bc (P.drop k) (old.drop k) d r m).1, (innerF bc (P.drop k) (old.drop k) d r m).2)
theorem in_init {bc : Nat} {P : List Nat} {old : List Int} {d0 : Int} : InInv bc P old d0 0 old d0 d0 BIG := ⟨[], rfl, rfl, rfl⟩
theorem in_len {bc : Nat} {P : List Nat} {old row : List Int} {d0 d r m : Int} {k : Nat} (h : InInv bc P old d0 k row d r m) (hk : k ≤ old.length) : row.length = old.length := by
  obtain ⟨done, h1, h2, _⟩ := h
  rw [h2, List.length_append, List.length_drop, h1]
  omega
theorem in_at {bc : Nat} {P : List Nat} {old row : List Int} {d0 d r m : Int} {k : Nat} (h : InInv bc P old d0 k row d r m) (hk : k < old.length) : row.getD k 0 = old.getD k 0 := by
  obtain ⟨done, h1, h2, _⟩ := h
  rw [h2, List.getD_eq_getElem?_getD, List.getD_eq_getElem?_getD, List.getElem?_append_right (by omega), h1, Nat.sub_self, List.getElem?_drop]
  rfl
theorem in_step {bc : Nat} {P : List Nat} {old row : List Int} {d0 d r m r' : Int} {k : Nat} (h : InInv bc P old d0 k row d r m) (hk : k < old.length) (hP : old.length = P.length)
    (hr : r' = if d + subC bc (P.getD k 0) < (if row.getD k 0 < r then row.getD k 0 else r) + 2 then d + subC bc (P.getD k 0) else (if row.getD k 0 < r then row.getD k 0 else r) + 2) : InInv bc P old d0 (k + 1) (row.set k r') (row.getD k 0) r' (if r' < m then r' else m) := by
  have ha := in_at h hk
  rw [ha] at hr ⊢
  obtain ⟨done, h1, h2, h3⟩ := h
  have hkP : k < P.length := by omega
  have e1 : old.drop k = old.getD k 0 :: old.drop (k + 1) := by
    rw [List.drop_eq_getElem_cons hk, List.getD_eq_getElem?_getD, List.getElem?_eq_getElem hk]; rfl
  have e2 : P.drop k = P.getD k 0 :: P.drop (k + 1) := by
    rw [List.drop_eq_getElem_cons hkP, List.getD_eq_getElem?_getD, List.getElem?_eq_getElem hkP]; rfl
  refine ⟨done ++ [r'], by simp [h1], ?_, ?_⟩
  · rw [h2, e1, List.set_append_right _ _ (by omega), h1, Nat.sub_self, List.set_cons_zero, List.append_assoc]; rfl
  · rw [h3, e1, e2, innerF]
    simp only [← hr]
    simp
theorem in_done {bc : Nat} {P : List Nat} {old row : List Int} {d0 d r m : Int} (h : InInv bc P old d0 P.length row d r m) (hP : old.length = P.length) : innerF bc P old d0 d0 BIG = (row, r, m) := by
  obtain ⟨done, h1, h2, h3⟩ := h
  rw [List.drop_length] at h3
  rw [List.drop_of_length_le (by omega), List.append_nil] at h2
  rw [h3, h2]
  simp [innerF]
theorem out_step {P R : List Nat} {mx : Int} {k : Nat} {old row : List Int} {res r m d : Int} (h : OutInv P R mx k old res) (hk : k < R.length) (hin : InInv (R.getD k 0) P old ((k : Int) * 2) P.length row d r m) (hm : ¬ m > mx) : OutInv P R mx (k + 1) row r := by
  obtain ⟨h1, h2⟩ := h
  have e := in_done hin h1
  have e2 : R.drop k = R.getD k 0 :: R.drop (k + 1) := by
    rw [List.drop_eq_getElem_cons hk, List.getD_eq_getElem?_getD, List.getElem?_eq_getElem hk]; rfl
  refine ⟨by have := in_len hin (by omega); omega, ?_⟩
  rw [e2, outerF, e] at h2
  simp only [if_neg hm] at h2
  exact h2
theorem out_stop {P R : List Nat} {mx : Int} {k : Nat} {old row : List Int} {res r m d : Int} (h : OutInv P R mx k old res) (hk : k < R.length) (hin : InInv (R.getD k 0) P old ((k : Int) * 2) P.length row d r m) (hm : m > mx) : levCore P R mx = mx + 1 := by
  obtain ⟨h1, h2⟩ := h
  have e := in_done hin h1
  have e2 : R.drop k = R.getD k 0 :: R.drop (k + 1) := by
    rw [List.drop_eq_getElem_cons hk, List.getD_eq_getElem?_getD, List.getElem?_eq_getElem hk]; rfl
  rw [e2, outerF, e] at h2
  simp only [if_pos hm] at h2
  exact h2.symm
theorem out_done {P R : List Nat} {mx : Int} {row : List Int} {res : Int} (h : OutInv P R mx R.length row res) : levCore P R mx = res := by
  obtain ⟨h1, h2⟩ := h
  rw [List.drop_length] at h2
  exact h2.symm
theorem in_turn {bc : Nat} {P : List Nat} {old row pre2 : List Int} {d0 d r m r' m' j : Int} (h : InInv bc P old d0 pre2.length row d r m) (hj : j.toNat = pre2.length) (hk : pre2.length < old.length) (hP : old.length = P.length)
    (hr : r' = if d + subC bc (P.getD j.toNat 0) < (if row.getD j.toNat 0 < r then row.getD j.toNat 0 else r) + 2 then d + subC bc (P.getD j.toNat 0) else (if row.getD j.toNat 0 < r then row.getD j.toNat 0 else r) + 2)
    (hm : m' = if r' < m then r' else m) : InInv bc P old d0 (pre2 ++ [j]).length (row.set j.toNat r') (row.getD j.toNat 0) r' m' := by
  rw [hm]
  rw [hj] at hr ⊢
  rw [List.length_append]
  exact in_step h hk hP hr
theorem out_turn {P R : List Nat} {mx k : Int} {pre old row ks : List Int} {res r m d : Int} (h : OutInv P R mx pre.length old res) (hk : k.toNat = pre.length) (hk0 : 0 ≤ k) (hkR : k.toNat < R.length) (hks : ks.length = P.length)
    (hin : InInv (R.getD k.toNat 0) P old (k * 2) ks.length row d r m) (hm : ¬ m > mx) : OutInv P R mx (pre ++ [k]).length row r := by
  rw [List.length_append]
  rw [hks] at hin
  rw [hk] at hin hkR
  have e : k = (pre.length : Int) := by omega
  rw [e] at hin
  exact out_step h hkR hin hm
theorem out_leave {P R : List Nat} {mx k : Int} {pre old row ks : List Int} {res r m d : Int} (h : OutInv P R mx pre.length old res) (hk : k.toNat = pre.length) (hk0 : 0 ≤ k) (hkR : k.toNat < R.length) (hks : ks.length = P.length)
    (hin : InInv (R.getD k.toNat 0) P old (k * 2) ks.length row d r m) (hm : m > mx) : levCore P R mx = mx + 1 := by
  rw [hks] at hin
  rw [hk] at hin hkR
  have e : k = (pre.length : Int) := by omega
  rw [e] at hin
  exact out_stop h hkR hin hm
theorem ok_small : ∀ c ∈ okSigns, c < 128 := by decide
theorem ok_ascii {x : List Nat} (h : Ok x) : (S x).cps.all (· < 128) = true := by
  have e : (S x).cps.all (· < 128) = x.all (· < 128) := by simp [S]
  rw [e]
  exact List.all_eq_true.mpr fun c hc => decide_eq_true (ok_small c (h c hc))
end Mine
end
section
open PySem PySem.W PySem.Spec PySem.Calls PyProof.Rows PyProof
namespace Mine
theorem fillK : PySem.Challenge.rw_sw0075_01 = PySem.Challenge.rw_sw0075_01 ∧ hd.heap_39 = hd.heap_39 := by
  k_with_none
  w_top off
  k_fill
  exact ⟨rfl, rfl⟩
set_option pp.deepTerms false in
set_option pp.maxSteps 3000 in
set_option maxHeartbeats 400000 in
theorem sub_c {w : World} {mean : ExcName → Option Value} {mg mb : Str → Option Value} {c d : Nat} {x1 x2 : Str} {tx ty : Tok}
   {dp un : Nat} {gd : Option (List Code)} {cn : Str} {cs : Scope} {a : Addr} {ccd : Value} {cl : List (Str × Addr)} {outer : List Env} {A₀ : Around} {base h₀ : Heap} {L : Addr} {m : Str → Option Value} {s : Shared} {Q E : Value → Shared → Prop}
   (B : Below A₀ base outer h₀) (F : Fr h₀ L s.heap m) (X : (hd.heap_39 w.params).In h₀) (T : Top hd.view_39 LOOSE mean mg mb h₀) (hck : cs.kind = .function) (hdp : dp + 1 < recursionLimit) (hun : un + 8 < cLine)
   (hc : c ∈ okSigns) (hd' : d ∈ okSigns) (e1 : x1 = S [c]) (e2 : x2 = S [d])
   (hret : ∀ t h' tk', Fr h₀ L h' m → s.heap.StaysIn h' → Q (.int (subC c d) t) { s with heap := h', toks := tk' }) :
   wpAny (model PySem.Challenge.rw_sw0075_01.row.prog w) (ktrTop dp un gd cn cs L a ccd cl outer) (call (.ref 45) [.str x1 tx, .str x2 ty]) Q E s := by
  subst e1 e2
  refine wpAny_call ?_
  k_dflt (refine' enterK (ps := [(Str.ofString "ch_b", .str (S [d]) ty), (Str.ofString "ch_a", .str (S [c]) tx)]) ?k1 ?k2 ?k3 ?k5 ?kA ?kF ?kK ?k6 ?k7 ?k8 ?k9 ?kB ?kP ?_ ?c2 ?c3 ?c4 ?c5; (case kA => exact rfl); (case kF => exact rfl); (case kK => assumption); (case k1 => k_asm); (case k2 => k_asm); (case k3 => k_asm); (case k5 => k_asm); (case k6 => k_is); (case k7 => k_is); (case k8 => ktr_room); (case k9 => exact BindsTo.of_eq rfl); (case c5 => decide); (case kB => exact locs rfl); (case kP => exact rfl); (case c2 => exact rfl); (case c3 => exact rfl); (case c4 => exact rfl); k_whole; intro L' h' F' N' B' X' T'; (try dsimp only); (try k_fold))
  have hs1 : (S [c]).length = 1 := rfl
  have hs2 : (S [d]).length = 1 := rfl
  have hl1 := ok_lower c hc
  have hl2 := ok_lower d hd'
  k_steps
  · rename Fr s.heap _ _ _ => FG
    have e : subC c d = 0 := by
      have : (S [c] == S [d]) = true := by assumption
      rw [S_beq] at this
      unfold subC
      rw [if_pos (by simpa using this)]
    rw [e] at hret
    exact hret _ _ _ (by assumption) FG.keep
  · exfalso
    have q1 : (S [c] == S [d]) = false := by assumption
    have q2 : (Txt.lower (S [c]) == Txt.lower (S [d])) = true := by assumption
    rw [hl1, hl2, q1] at q2
    cases q2
  · rename Fr s.heap _ _ _ => FG
    have e : subC c d = 2 := by
      have : (S [c] == S [d]) = false := by assumption
      rw [S_beq] at this
      unfold subC
      rw [if_neg (by simpa using this)]
    rw [e] at hret
    exact hret _ _ _ (by assumption) FG.keep
end Mine
end
section
open PySem PySem.W PySem.Spec PySem.Calls PyProof.Rows PyProof
namespace Mine
theorem fillL : PySem.Challenge.rw_sw0075_01 = PySem.Challenge.rw_sw0075_01 ∧ hd.heap_39 = hd.heap_39 := by
  k_with_none
  w_top off
  k_fill
  exact ⟨rfl, rfl⟩
set_option pp.deepTerms false in
set_option pp.maxSteps 3000 in
set_option maxHeartbeats 2000000 in
theorem lev_c {w : World} {mean : ExcName → Option Value} {mg mb : Str → Option Value} {x y : List Nat} {mx : Int} {tx ty tm : Tok} 
   {dp un : Nat} {gd : Option (List Code)} {cn : Str} {cs : Scope} {a : Addr} {ccd : Value} {cl : List (Str × Addr)} {outer : List Env} {A₀ : Around} {base h₀ : Heap} {L : Addr} {m : Str → Option Value} {s : Shared} {Q E : Value → Shared → Prop}
   (B : Below A₀ base outer h₀) (F : Fr h₀ L s.heap m) (X : (hd.heap_39 w.params).In h₀) (T : Top hd.view_39 LOOSE mean mg mb h₀) (hck : cs.kind = .function) (hdp : dp + 2 < recursionLimit) (hun : un + 16 < cLine)
   (hlx : x.length ≤ 100) (hly : y.length ≤ 100) (hox : Ok x) (hoy : Ok y)
   (hret : ∀ t h' tk', Fr h₀ L h' m → s.heap.StaysIn h' → Q (.int (levF x y mx) t) { s with heap := h', toks := tk' }) :
   wpAny (model PySem.Challenge.rw_sw0075_01.row.prog w) (ktrTop dp un gd cn cs L a ccd cl outer) (call (.ref 52) [.str (S x) tx, .str (S y) ty, .int mx tm]) Q E s := by
  refine wpAny_call ?_
  k_dflt (refine' enterK (ps := [(Str.ofString "max_cost", .int mx tm), (Str.ofString "b", .str (S y) ty), (Str.ofString "a", .str (S x) tx)]) ?k1 ?k2 ?k3 ?k5 ?kA ?kF ?kK ?k6 ?k7 ?k8 ?k9 ?kB ?kP ?_ ?c2 ?c3 ?c4 ?c5; (case kA => exact rfl); (case kF => exact rfl); (case kK => assumption); (case k1 => k_asm); (case k2 => k_asm); (case k3 => k_asm); (case k5 => k_asm); (case k6 => k_is); (case k7 => k_is); (case k8 => ktr_room); (case k9 => exact BindsTo.of_eq rfl); (case c5 => decide); (case kB => exact locs rfl); (case kP => exact rfl); (case c2 => exact rfl); (case c3 => exact rfl); (case c4 => exact rfl); k_whole; intro L' h' F' N' B' X' T'; (try dsimp only); (try k_fold))
  have hsx := S_len x
  have hsy := S_len y
  k_with "subscriptTail Name Slice str ref" => ((with_reducible rename Fr _ _ _ _ => F'); (with_reducible rename News _ _ _ _ => N'); (refine slice_strN_nn_len (hsz := ?hsz) (s := ⟨_, _, _, _, _⟩) F' N' ?_); (case hsz => size_fits); intro _ _ _ F' N' _)
  k_with "exec While" => refine Hold.to ?_
  k_with "KswEnd" => refine Hold.to ?_
  k_with "FMid" => dsimp only [FMid]
  k_with "FOut" => refine Hold.to ?_
  k_with "pyIter ref" => refine Hold.to ?_
  k_steps
  · rename Fr s.heap _ _ _ => FG
    have e : levF x y mx = 0 := by
      have : (S x == S y) = true := by assumption
      rw [S_beq] at this
      unfold levF
      rw [if_pos (of_decide_eq_true this)]
    rw [e] at hret
    exact hret _ _ _ (by assumption) FG.keep
  refine Hold.by ?_
  (rename Fr _ _ _ _ => lF'); (rename News _ _ _ _ => lN')
  refine' while_fresh (σ := Int × Tok) (fun c => []) (fun c => [(Str.ofString "pre", .int c.1 c.2), (Str.ofString "a", .str (S x) tx), (Str.ofString "b", .str (S y) ty), (Str.ofString "max_cost", .int mx tm)]) (fun c => True) [] (fun c => Pre x y c.1) (fun c => x.length - c.1.toNat) (fun c => c.1 = pfx x y) (0, ?tk) lF' lN' trivial ?kk pre_init ?turn ?done
  case kk => kst_all
  case turn =>
    -- BEGIN turn
    clear lF' lN'
    rintro ⟨n, tk⟩ u h tk' hf hp F N
    dsimp only at hp F N ⊢
    k_fold
    have hq0 := hp.1
    have hq1 : n ≤ ((S x).length : Int) := by rw [hsx]; exact hp.2.1
    have hq2 : n ≤ ((S y).length : Int) := by rw [hsy]; exact hp.2.2.1
    k_steps
    · refine Hold.by ?_
      rename News _ _ _ _ => nE
      refine ksw_end (_, _) (by assumption) nE (by kst_in) trivial (by kst_all) (by intro z h2 h3; simp only [List.forall_mem_cons, List.not_mem_nil, false_implies, implies_true, and_true, ne_eq] at h2; simp [h2, kstB]) (pre_go hp (by assumption) (by assumption) (by assumption)) (pre_less hp (by assumption))
    · refine Hold.by ?_
      rename News _ _ _ _ => nE
      exact fout (_, _) (by assumption) nE (by kst_in) trivial (by kst_all) (pre_no hp (by assumption) (by assumption) (by assumption))
    · refine Hold.by ?_
      rename News _ _ _ _ => nE
      exact fout (_, _) (by assumption) nE (by kst_in) trivial (by kst_all) (pre_noy hp (by assumption))
    · refine Hold.by ?_
      rename News _ _ _ _ => nE
      exact fout (_, _) (by assumption) nE (by kst_in) trivial (by kst_all) (pre_nox hp (by assumption))
    -- END turn
  case done =>
    clear lF' lN'
    rintro ⟨n, tk⟩ u h tk' hf hp F N
    dsimp only at hp F N ⊢
    subst hp
    k_steps
    refine Hold.by ?_
    obtain ⟨A, hA⟩ : ∃ A, A = x.drop (pfx x y) := ⟨_, rfl⟩
    obtain ⟨Z, hZ⟩ : ∃ Z, Z = y.drop (pfx x y) := ⟨_, rfl⟩
    have eA : Txt.slice (S x) (some (pfx x y : Int)) none = S A := by rw [hA]; exact pre_a
    have eZ : Txt.slice (S y) (some (pfx x y : Int)) none = S Z := by rw [hZ]; exact pre_b
    have hlA : A.length ≤ 100 := by rw [hA, List.length_drop]; omega
    have hlZ : Z.length ≤ 100 := by rw [hZ, List.length_drop]; omega
    have hsA := S_len A
    have hsZ := S_len Z
    (rename Fr _ _ _ _ => lF'); (rename News _ _ _ _ => lN')
    refine' while_fresh (σ := Int × Tok × Tok × Tok) (fun c => []) (fun c => [(Str.ofString "post", .int c.1 c.2.1), (Str.ofString "a", .str (S A) c.2.2.1), (Str.ofString "b", .str (S Z) c.2.2.2), (Str.ofString "max_cost", .int mx tm)]) (fun c => True) [] (fun c => Pst A Z c.1) (fun c => A.length - (-c.1).toNat) (fun c => c.1 = -(pfx A.reverse Z.reverse : Int)) (0, ?tk2, ?ta2, ?tb2) lF' lN' trivial ?kk2 pst_init ?turn2 ?done2
    case kk2 => exact List.forall_mem_cons.mpr ⟨by with_unfolding_all rfl, List.forall_mem_cons.mpr ⟨by rw [← eA]; with_unfolding_all rfl, List.forall_mem_cons.mpr ⟨by rw [← eZ]; with_unfolding_all rfl, by kst_all⟩⟩⟩
    case turn2 =>
      -- BEGIN turnb
      clear lF' lN'
      rintro ⟨n, tk, ta, tb⟩ u h tk' hf hp F N
      dsimp only at hp F N ⊢
      k_fold
      have hq0 := hp.1
      have hq1 : -n ≤ ((S A).length : Int) := by rw [hsA]; exact hp.2.1
      have hq2 : -n ≤ ((S Z).length : Int) := by rw [hsZ]; exact hp.2.2.1
      have hf1 : n < 0 → ((Txt.slice (S A) none (some n)).length : Int) = (S A).length + n := fun a => by rw [hsA]; exact slen_neg a hp.2.1
      have hf2 : n < 0 → ((Txt.slice (S Z) none (some n)).length : Int) = (S Z).length + n := fun a => by rw [hsZ]; exact slen_neg a hp.2.2.1
      have hf3 : ((Txt.slice (S A) none none).length : Int) = (S A).length := by rw [hsA]; exact slen_all
      have hf4 : ((Txt.slice (S Z) none none).length : Int) = (S Z).length := by rw [hsZ]; exact slen_all
      k_steps
      all_goals refine Hold.by ?_
      all_goals rename News _ _ _ _ => nE
      all_goals (first
        | (exfalso; omega)
        | (goal_lacks KswEnd; exact fout (_, _, _, _) (by assumption) nE (by kst_in) trivial (by kst_all) (pst_no hp (by omega) (by omega) (by assumption)))
        | (goal_lacks KswEnd; exact fout (_, _, _, _) (by assumption) nE (by kst_in) trivial (by kst_all) (pst_nox hp (by omega)))
        | (goal_lacks KswEnd; exact fout (_, _, _, _) (by assumption) nE (by kst_in) trivial (by kst_all) (pst_noy hp (by omega)))
        | refine ksw_end (_, _, _, _) (by assumption) nE (by kst_in) trivial (by kst_all) (by intro z h2 h3; simp only [List.forall_mem_cons, List.not_mem_nil, false_implies, implies_true, and_true, ne_eq] at h2; simp [h2, kstB]) (pst_go hp (by omega) (by omega) (by assumption)) (by show A.length - (-(n-1)).toNat < A.length - (-n).toNat; omega))
      -- END turnb
    case done2 =>
      clear lF' lN'
      rintro ⟨n, tk, ta, tb⟩ u h tk' hf hp F N
      dsimp only at hp F N ⊢
      have hqA := (pfx_le A.reverse Z.reverse).1
      have hqZ := (pfx_le A.reverse Z.reverse).2
      rw [List.length_reverse] at hqA hqZ
      obtain ⟨A1, hA1⟩ : ∃ A1, A1 = A.take (A.length - pfx A.reverse Z.reverse) := ⟨_, rfl⟩
      obtain ⟨Z1, hZ1⟩ : ∃ Z1, Z1 = Z.take (Z.length - pfx A.reverse Z.reverse) := ⟨_, rfl⟩
      have hlA1 : A1.length ≤ 100 := by rw [hA1, List.length_take]; omega
      have hlZ1 : Z1.length ≤ 100 := by rw [hZ1, List.length_take]; omega
      have hoA1 : Ok A1 := by rw [hA1, hA]; exact (hox.drop _).take _
      have hoZ1 : Ok Z1 := by rw [hZ1, hZ]; exact (hoy.drop _).take _
      have hev : levF x y mx = levMid A1 Z1 mx := by
        rw [lev_ne (by assumption), ← hA, ← hZ, hA1, hZ1]; rfl
      rw [hev] at hret
      refine cut_fresh (σ := Tok × Tok) 2 (fun c => []) (fun c => [(Str.ofString "a", .str (S A1) c.1), (Str.ofString "b", .str (S Z1) c.2), (Str.ofString "max_cost", .int mx tm)]) (fun c => True) (fun c => True) F ?first3 ?done3
      case first3 =>
        -- BEGIN firstc
        dsimp only [List.take, List.drop]
        k_fold
        by_cases hn : n = 0
        · have w1 := pst_slice0 (A := A) hp hn
          have w2 := pst_slice0 (A := Z) hp hn
          rw [← hA1] at w1
          rw [← hZ1] at w2
          k_steps
          all_goals (first
            | (exfalso; omega)
            | (refine Hold.by ?_
               rename News _ _ _ _ => nE
               refine fout (_, _) (by assumption) nE (by kst_in) trivial (by refine List.forall_mem_cons.mpr ⟨?_, List.forall_mem_cons.mpr ⟨?_, by kst_all⟩⟩ <;> first | (rw [← w1]; with_unfolding_all rfl) | (rw [← w2]; with_unfolding_all rfl)) trivial))
        · have w1 := pst_slice hp hqA hn
          have w2 := pst_slice hp hqZ hn
          rw [← hA1] at w1
          rw [← hZ1] at w2
          k_steps
          all_goals (first
            | (exfalso; omega)
            | (refine Hold.by ?_
               rename News _ _ _ _ => nE
               refine fout (_, _) (by assumption) nE (by kst_in) trivial (by refine List.forall_mem_cons.mpr ⟨?_, List.forall_mem_cons.mpr ⟨?_, by kst_all⟩⟩ <;> first | (rw [← w1]; with_unfolding_all rfl) | (rw [← w2]; with_unfolding_all rfl)) trivial))
        -- END firstc
      case done3 =>
        clear F N
        rintro ⟨ta, tb⟩ u h tk' hf _ F N
        dsimp only [List.drop] at F N ⊢
        have hsA1 := S_len A1
        have hsZ1 := S_len Z1
        refine cut_fresh (σ := List Nat × List Nat × Tok × Tok) 3 (fun c => []) (fun c => [(Str.ofString "a", .str (S c.1) c.2.2.1), (Str.ofString "b", .str (S c.2.1) c.2.2.2), (Str.ofString "max_cost", .int mx tm)]) (fun c => True) (fun c => levMid A1 Z1 mx = levCore c.1 c.2.1 mx ∧ c.1.length ≤ c.2.1.length ∧ 0 < c.1.length ∧ c.2.1.length ≤ 40 ∧ Ok c.1 ∧ Ok c.2.1) F ?first4 ?done4
        case first4 =>
          -- BEGIN firstd
          dsimp only [List.take, List.drop]
          k_fold
          k_steps
          · rename Fr s.heap _ _ _ => FG
            have e : levMid A1 Z1 mx = mx + 1 := mid_long (by omega) (by omega) (by omega)
            rw [e] at hret
            exact hret _ _ _ (by assumption) FG.keep
          · rename Fr s.heap _ _ _ => FG
            have e : levMid A1 Z1 mx = mx + 1 := mid_long (by omega) (by omega) (by omega)
            rw [e] at hret
            exact hret _ _ _ (by assumption) FG.keep
          · refine Hold.by ?_
            rename News _ _ _ _ => nE
            refine fout (Z1, A1, _, _) (by assumption) nE (by kst_in) trivial (by kst_all) ⟨mid_swap (by omega) (by omega) (by omega) (by omega) (by omega), by show Z1.length ≤ A1.length; omega, by show 0 < Z1.length; omega, by show A1.length ≤ 40; omega, hoZ1, hoA1⟩
          · refine Hold.by ?_
            rename News _ _ _ _ => nE
            refine fout (A1, Z1, _, _) (by assumption) nE (by kst_in) trivial (by kst_all) ⟨mid_stay (by omega) (by omega) (by omega) (by omega) (by omega), by show A1.length ≤ Z1.length; omega, by show 0 < A1.length; omega, by show Z1.length ≤ 40; omega, hoA1, hoZ1⟩
          · rename Fr s.heap _ _ _ => FG
            have e : levMid A1 Z1 mx = 2 * (((S A1).length : Int) + (S Z1).length) := by rw [hsA1, hsZ1]; exact mid_nil (by omega)
            rw [e] at hret
            exact hret _ _ _ (by assumption) FG.keep
          · rename Fr s.heap _ _ _ => FG
            have e : levMid A1 Z1 mx = 2 * (((S A1).length : Int) + (S Z1).length) := by rw [hsA1, hsZ1]; exact mid_nil (by omega)
            rw [e] at hret
            exact hret _ _ _ (by assumption) FG.keep
          -- END firstd
        case done4 =>
          clear F N
          rintro ⟨P, R, ta, tb⟩ u h tk' hf hp F N
          dsimp only [List.drop] at hp F N ⊢
          obtain ⟨hco, hpr, hp0, hr40, hop, hor⟩ := hp
          rw [hco] at hret
          have hsP := S_len P
          have hsR := S_len R
          k_with "call type:list" => (
            (rename IsRange _ _ _ _ _ _ _ _ => rgX)
            (rename Fr _ _ _ _ => F')
            (rename News _ _ _ _ => N')
            (refine' list_two (n := P.length) rfl F' N' rgX ?e1 ?e2 ?_); (case e1 => rw [hsP]); (case e2 => omega); intro D' us' c' h' tk' F' N' l1 hI'; (try k_lt l1); (try k_sweep))
          k_steps
          · rename Fr s.heap _ _ _ => FG
            have e : levCore P R mx = mx + 1 := by unfold levCore; rw [if_pos (by omega)]
            rw [e] at hret
            exact hret _ _ _ (by assumption) FG.keep
          refine Hold.by ?_
          (rename Fr _ _ _ _ => lF'); (rename News _ _ _ _ => lN'); (rename IsRange _ _ _ _ _ _ _ _ => rgX)
          rename IntsAre _ _ => hI
          have hn := size_one (S R).length
          refine' kst_range (σ := Int × Tok × List Value × List Int × Nat) (fun c => [(_, W.listOf c.2.2.1.toArray c.2.2.2.2)]) (fun c => [(Str.ofString "result", .int c.1 c.2.1), (Str.ofString "row", .ref _), (Str.ofString "a", .str (S P) ta), (Str.ofString "b", .str (S R) tb), (Str.ofString "max_cost", .int mx tm)]) (fun c => IntsAre c.2.2.1 c.2.2.2.1) [Str.ofString "bchar", Str.ofString "distance", Str.ofString "minimum", Str.ofString "index", Str.ofString "substitute", Str.ofString "insert_delete"] (fun pre c => OutInv P R mx pre.length c.2.2.2.1 c.1) (0, ?tk5, _, rowStart P.length, _) rfl rgX (small_one (by omega) (by omega) (by omega) (by omega)) hn lF' lN' hI ?kk5 ?kp5 ?turn5 ?done5
          case kk5 => kst_all
          case kp5 => exact out_init (by rw [← hsP, ← hsR]; omega)
          case turn5 =>
            -- BEGIN turne
            clear lF' lN' rgX hI
            rintro ⟨res, tr, vs, ns, kc⟩ pre k t u h tk' own hk hlt hoff hi hp F N
            dsimp only at hi hp F N ⊢
            k_fold
            have hk0 : 0 ≤ k := by omega
            have hk1 : k < ((S R).length : Int) := by omega
            k_steps
            refine Hold.by ?_
            have hkn : k.toNat = pre.length := by omega
            have hkR : k.toNat < R.length := by omega
            have hbc : Txt.item (S R) k = S [R.getD k.toNat 0] := item_at hk0 (by omega)
            have hnl := hp.1
            have hvl := hi.length
            have hn2 := size_one (S P).length
            (rename Fr _ _ _ _ => lF'); (rename News _ _ _ _ => lN'); (rename IsRange _ _ _ _ _ _ _ _ => rgX)
            refine' kst_range (σ := Int × Tok × Int × Tok × Int × Tok × List Value × List Int × Nat) (fun c => (_, W.listOf c.2.2.2.2.2.2.1.toArray c.2.2.2.2.2.2.2.2) :: own) (fun c => [(Str.ofString "distance", .int c.1 c.2.1), (Str.ofString "result", .int c.2.2.1 c.2.2.2.1), (Str.ofString "minimum", .int c.2.2.2.2.1 c.2.2.2.2.2.1), (Str.ofString "bchar", .str (Txt.item (S R) k) tk'), (Str.ofString "bindex", .int k t), (Str.ofString "row", .ref _), (Str.ofString "a", .str (S P) ta), (Str.ofString "b", .str (S R) tb), (Str.ofString "max_cost", .int mx tm)]) (fun c => IntsAre c.2.2.2.2.2.2.1 c.2.2.2.2.2.2.2.1) [Str.ofString "substitute", Str.ofString "insert_delete"] (fun pre2 c => InInv (R.getD k.toNat 0) P ns (k * 2) pre2.length c.2.2.2.2.2.2.2.1 c.1 c.2.2.1 c.2.2.2.2.1) (k * 2, ?tk6, k * 2, ?tk7, BIG, ?tk8, vs, ns, kc) rfl rgX (small_one (by omega) (by omega) (by omega) (by omega)) hn2 lF' lN' hi ?kk6 in_init ?turn6 ?done6
            case kk6 => kst_all
            case turn6 =>
              clear lF' lN' rgX F N
              rintro ⟨d, td, r, tr2, mi, tmi, vs2, ns2, kc2⟩ pre2 j t2 u2 h2 tk2 own2 hj hlt2 hoff2 hi2 hp2 F N
              dsimp only at hi2 hp2 F N ⊢
              k_fold
              have hj0 : 0 ≤ j := by omega
              have hj1 : j < ((S P).length : Int) := by omega
              have hjn : j.toNat = pre2.length := by omega
              have hit : Txt.item (S P) j = S [P.getD j.toNat 0] := item_at hj0 (by omega)
              have hl2 := in_len hp2 (by omega)
              have hvl2 := hi2.length
              have hj2 : j < (ns2.length : Int) := by omega
              k_with "call ref" => (
                k_here
                (rename News _ _ _ _ => nOld)
                k_dflt (refine' sub_c ?cB ?cF ?cX ?cT ?ck ?cd ?cu (hor.at hkR) (hop.at (k := j.toNat) (by omega)) hbc hit ?_; (case cB => k_asm); (case cF => k_asm); (case cX => k_asm); (case cT => k_asm); (case ck => first | exact rfl | assumption); (case cd => ktr_room); (case cu => ktr_units))
                intro t9 h9 tk9 F9 K9
                have N9 := newsKeep nOld K9
                clear K9 nOld
                (try dsimp only); (try k_fold); (try k_sweep))
              have hne : ∀ p ∈ own ++ own2, p.1 ≠ D' := fun p hp => (List.mem_append.mp hp).elim (fun h => hoff p h D' (.head _)) (fun h => hoff2 p h D' (.head _))
              k_with "setItem ref int" => (
                k_dflt (refine' ksa_set ?k1 ?k2 (.head hne) hi2 hj0 hj2 (by omega) ?_; (case k1 => k_asm); (case k2 => k_asm))
                intro h' F' N' hi' hl' hs'; (try k_sweep))
              k_with "InvEndN" => refine Hold.to ?_
              k_steps
              · refine Hold.by ?_
                rename Fr _ _ _ _ => FE
                rename News _ _ _ _ => NE
                rename IntsAre _ _ => IE
                exact kst_end (_, _, _, _, _, _, _, _, _) FE NE (fun p hp => (List.mem_cons.mp hp).elim (fun e => e ▸ .head _) (fun hp => .tail _ (List.mem_append.mpr (.inl hp)))) (fun p hp => .tail _ (List.mem_append.mpr (.inr hp))) rfl IE (by kst_all) (by intro z hz h2 h3; simp only [List.forall_mem_cons, List.not_mem_nil, false_implies, implies_true, and_true, ne_eq] at h2; simp only [List.contains_cons, List.contains_nil, Bool.or_false, Bool.or_eq_false_iff, beq_eq_false_iff_ne, ne_eq] at h3; simp [hz, h2, h3, kstB]) (in_turn hp2 hjn (by omega) hnl rfl (if_pos (by assumption)).symm)
              · refine Hold.by ?_
                rename Fr _ _ _ _ => FE
                rename News _ _ _ _ => NE
                rename IntsAre _ _ => IE
                exact kst_end (_, _, _, _, _, _, _, _, _) FE NE (fun p hp => (List.mem_cons.mp hp).elim (fun e => e ▸ .head _) (fun hp => .tail _ (List.mem_append.mpr (.inl hp)))) (fun p hp => .tail _ (List.mem_append.mpr (.inr hp))) rfl IE (by kst_all) (by intro z hz h2 h3; simp only [List.forall_mem_cons, List.not_mem_nil, false_implies, implies_true, and_true, ne_eq] at h2; simp only [List.contains_cons, List.contains_nil, Bool.or_false, Bool.or_eq_false_iff, beq_eq_false_iff_ne, ne_eq] at h3; simp [hz, h2, h3, kstB]) (in_turn hp2 hjn (by omega) hnl rfl (if_neg (by assumption)).symm)
            case done6 =>
              clear lF' lN' rgX F N
              rintro ⟨d, td, r, tr2, mi, tmi, vs2, ns2, kc2⟩ u2 h2 tk2 hi2 hp2 F N
              dsimp only at hi2 hp2 F N ⊢
              have hks : (rangeKs 0 (S P).length).length = P.length := by rw [rangeKs_length, hsP]
              k_steps
              · rw [out_leave hp hkn hk0 hkR hks hp2 (by assumption)] at hret
                exact hret _ _ _ (by assumption) F.keep
              · refine Hold.by ?_
                refine kst_end (_, _, _, _, _) F N (fun p hp => (List.mem_cons.mp hp).elim (fun e => e ▸ .head _) (fun hp => nomatch hp)) (fun p hp => .tail _ hp) rfl hi2 (by kst_all) (by intro z hz h2 h3; simp only [List.forall_mem_cons, List.not_mem_nil, false_implies, implies_true, and_true, ne_eq] at h2; simp only [List.contains_cons, List.contains_nil, Bool.or_false, Bool.or_eq_false_iff, beq_eq_false_iff_ne, ne_eq] at h3; simp [hz, h2, h3, kstB]) (out_turn hp hkn hk0 hkR hks hp2 (by assumption))
            -- END turne
          case done5 =>
            clear lF' lN' rgX hI
            rintro ⟨res, tr, vs, ns, kc⟩ u h tk' hi hp F N
            dsimp only at hi hp F N ⊢
            rw [rangeKs_length, hsR] at hp
            rw [out_done hp] at hret
            k_steps
            exact hret _ _ _ (by assumption) F.keep
end Mine
end
section
open PySem PySem.W PySem.Spec PySem.Calls PyProof.Rows
namespace Mine
theorem fillRow : PySem.Challenge.rw_sw0075_01 = PySem.Challenge.rw_sw0075_01 ∧ hd.heap_39 = hd.heap_39 := by
  k_with_none
  w_top off
  k_fill
  exact ⟨rfl, rfl⟩
def rowF : Nat → Nat → List Int
  | 0, _ => []
  | f + 1, n => if 1 < n then (if n % 2 = 0 then 60 else 62) :: rowF f (n / 2) else []
theorem rowF_ok : ∀ n < 32, 1 < n → rowF 5 n = (if n % 2 = 0 then 60 else 62) :: rowF 5 (n / 2) := by decide
theorem rowF_end : rowF 5 1 = [] := by decide
def RowInv (x n : Int) (row : List Int) : Prop := 1 ≤ n ∧ n ≤ 31 ∧ (row.length : Int) + n ≤ 32 ∧ row ++ rowF 5 n.toNat = rowF 5 (2 + x.fmod 30).toNat
theorem row_init {x : Int} : RowInv x (2 + x.fmod 30) [] := by
  have h1 := Int.fmod_nonneg_of_pos x (show (0:Int) < 30 by decide)
  have h2 := Int.fmod_lt_of_pos x (show (0:Int) < 30 by decide)
  refine ⟨by omega, by omega, ?_, by simp⟩
  simp only [List.length_nil]
  omega
theorem row_step {x n d : Int} {row : List Int} (h : RowInv x n row) (hn : 1 < n) (hd : d = if n.fmod 2 = 0 then 60 else 62) : RowInv x (n.fdiv 2) (row ++ [d]) := by
  obtain ⟨h1, h2, h3, h4⟩ := h
  have e2 : n.fdiv 2 = n / 2 := Int.fdiv_eq_ediv_of_nonneg _ (by decide)
  have e3 : n.fmod 2 = n % 2 := Int.fmod_eq_emod_of_nonneg _ (by decide)
  rw [e3] at hd
  rw [e2]
  refine ⟨by omega, by omega, ?_, ?_⟩
  · simp only [List.length_append, List.length_cons, List.length_nil]
    omega
  · have hk := rowF_ok n.toNat (by omega) (by omega)
    have e5 : (n / 2).toNat = n.toNat / 2 := by omega
    rw [← h4, hk, e5, List.append_assoc]
    have : d = if n.toNat % 2 = 0 then 60 else 62 := by
      rw [hd]
      by_cases q : n % 2 = 0
      · rw [if_pos q, if_pos (by omega)]
      · rw [if_neg q, if_neg (by omega)]
    rw [this]; rfl
theorem row_len {x n : Int} {row : List Int} (h : RowInv x n row) : (row.length : Int) + n ≤ 32 := h.2.2.1
theorem row_one {x n : Int} {row : List Int} (h : RowInv x n row) : 1 ≤ n := h.1
theorem row_done {x n : Int} {row : List Int} (h : RowInv x n row) (hn : ¬ 1 < n) : row = rowF 5 (2 + x.fmod 30).toNat := by
  obtain ⟨h1, h2, h3, h4⟩ := h
  have : n = 1 := by omega
  subst this
  simpa [rowF_end] using h4
set_option pp.deepTerms false in
set_option pp.maxSteps 3000 in
set_option maxHeartbeats 400000 in
theorem row_c (w : World) (mean : ExcName → Option Value) (mg mb : Str → Option Value) (x : Int) (t : Tok) 
   (dp un : Nat) (gd : Option (List Code)) (cn : Str) (cs : Scope) (a : Addr) (ccd : Value) (cl : List (Str × Addr)) (outer : List Env) (A₀ : Around) (base h₀ : Heap) (L : Addr) (m : Str → Option Value) (s : Shared) (Q E : Value → Shared → Prop)
   (B : Below A₀ base outer h₀) (F : Fr h₀ L s.heap m) (X : (hd.heap_39 w.params).In h₀) (T : Top hd.view_39 LOOSE mean mg mb h₀) (hck : cs.kind = .function) (hdp : dp + 1 < recursionLimit) (hun : un + 8 < cLine)
   (hret : ∀ l vs n h' tk', Fr h₀ L h' m → s.heap.StaysIn h' → h'.get? l = some (listOf vs.toArray n) → s.heap.get? l = none → IntsAre vs (rowF 5 (2 + x.fmod 30).toNat) → Q (.ref l) { s with heap := h', toks := tk' }) :
   wpAny (model PySem.Challenge.rw_sw0075_01.row.prog w) (ktrTop dp un gd cn cs L a ccd cl outer) (call (.ref 244) [.int x t]) Q E s := by
  refine wpAny_call ?_
  k_dflt (refine' enterK ?k1 ?k2 ?k3 ?k5 ?kA ?kF ?kK ?k6 ?k7 ?k8 ?k9 ?kB ?kP ?_ ?c2 ?c3 ?c4 ?c5; (case kA => exact rfl); (case kF => exact rfl); (case kK => assumption); (case k1 => k_asm); (case k2 => k_asm); (case k3 => k_asm); (case k5 => k_asm); (case k6 => k_is); (case k7 => k_is); (case k8 => ktr_room); (case k9 => exact BindsTo.of_eq rfl); (case c5 => decide); (case kB => exact locs rfl); (case kP => exact rfl); (case c2 => exact rfl); (case c3 => exact rfl); (case c4 => exact rfl); k_whole; intro L' h' F' N' B' X' T'; (try dsimp only); (try k_fold))
  k_with "exec While Compare cons nil" => refine Hold.to ?_
  k_steps
  refine Hold.by ?_
  (rename Fr _ _ _ _ => lF'); (rename News _ _ _ _ => lN')
  refine' ksw_while (σ := Int × Tok × List Value × List Int × Nat) (fun c => [(_, W.listOf c.2.2.1.toArray c.2.2.2.2)]) (fun c => [(Str.ofString "n", .int c.1 c.2.1)]) (fun c => IntsAre c.2.2.1 c.2.2.2.1) [] (fun c => RowInv x c.1 c.2.2.2.1) (fun c => c.1.toNat) (2 + x.fmod 30, ?tk, [], [], 0) lF' lN' .nil ?kk ?kp ?_
  case kk => exact List.forall_mem_cons.mpr ⟨by with_unfolding_all rfl, List.forall_mem_nil _⟩
  case kp => exact row_init
  rintro ⟨n, tk, vs, ns, k⟩ u h tk' hf hp F N
  dsimp only at *
  k_fold
  have hl1 := row_len hp
  have hl2 := row_one hp
  have hl3 := hf.length
  k_with "KswEnd" => refine Hold.to ?_
  k_steps
  · refine Hold.by ?_
    rename News _ _ _ _ => nE
    simp only [List.push_toArray] at nE
    refine ksw_end (_, _, _, _, _) (by assumption) nE (by kst_in) (by kst_facts) (by kst_all) (by intro z h2 h3; simp only [List.forall_mem_cons, List.not_mem_nil, false_implies, implies_true, and_true, ne_eq] at h2; simp [h2, kstB]) (row_step hp (by assumption) (by rw [if_pos (by assumption)])) ?_
    have := Int.fdiv_eq_ediv_of_nonneg n (show (0:Int) ≤ 2 by decide)
    show (n.fdiv 2).toNat < n.toNat
    omega
  · refine Hold.by ?_
    rename News _ _ _ _ => nE
    simp only [List.push_toArray] at nE
    refine ksw_end (_, _, _, _, _) (by assumption) nE (by kst_in) (by kst_facts) (by kst_all) (by intro z h2 h3; simp only [List.forall_mem_cons, List.not_mem_nil, false_implies, implies_true, and_true, ne_eq] at h2; simp [h2, kstB]) (row_step hp (by assumption) (by rw [if_neg (by omega)])) ?_
    have := Int.fdiv_eq_ediv_of_nonneg n (show (0:Int) ≤ 2 by decide)
    show (n.fdiv 2).toNat < n.toNat
    omega
  · refine hret _ vs k _ _ (by assumption) F.keep (N _ (.head _)).1 (N _ (.head _)).2.2 ?_
    rw [← row_done hp (by assumption)]
    exact hf
end Mine
end
section
open PySem PySem.W PySem.Spec PySem.Calls PyProof.Rows PyProof
namespace Mine
section
variable {prog : Program} {w : World} {A : Around} {E : Value → Shared → Prop} {s : Shared} {h₀ : Heap} {L : Addr} {m : Str → Option Value} {env : Env}
theorem ascii_st {xt : Str} {t : Tok} {I : Addr} : ∀ i (h h' : Heap) (o : Obj) (nw : List (Addr × Obj)), h.IsStrIter I "str_ascii_iterator" xt t i → h.get? I = some o → h'.get? I = some o → (∀ b o, h₀.get? b = some o → h'.get? b = some o) → News h₀ L h' nw → True → h'.IsStrIter I "str_ascii_iterator" xt t i :=
  fun i h h' o nw st e e' k N S => by obtain ⟨o', q, r⟩ := st; rw [e] at q; cases q; exact ⟨o, e', r⟩
/-- a comprehension over a text of plain signs -/
theorem ListComp_S {elt iter : Expr} {x : Str} {px : Pos} {scope : Scope} {cl : List (Str × Addr)} {pos : Pos} {Q : Value → Shared → Prop} (F₀ : Fr h₀ L s.heap m)
    (hclos : closureFor scope env = pure cl) (hcell : ∀ y ∈ scope.names, y.2 ≠ .cell) (hkind : scope.kind = .function)
    (hnames : ∀ y ∈ scope.names, y.2 = .local → scope.names.lookup y.1 = some .local) (hx : scope.names.lookup x = some .local)
    (h : wpAny (model prog w) A (eval iter env) (fun xv s₁ => ∃ xt t news, xv = .str xt t ∧ xt.cps.all (· < 128) = true ∧ A.handled = none ∧ Fr h₀ L s₁.heap m ∧ News h₀ L s₁.heap news ∧ xt.cps.size ≤ sizeLine ∧
      ∀ g : Heap, LCg.CompRest prog w A h₀ L m env elt x scope cl { s₁ with heap := g } (fun _ => True) (SignAt xt) (LCg.FinE h₀ L m { s₁ with heap := g } Q) xt.cps.size 0 [] news) E s)
    (hs : ∀ x, foldedSetIterable iter env x = pure x := by intro _; rfl) :
    wpAny (model prog w) A (eval (.ListComp elt [⟨.Name x px, iter, [], 0⟩] scope pos) env) Q E s := by
  rw [eval_ListComp]
  refine wpAny_comprehension_free (use := none) rfl hs hclos hkind hnames (wpAny_mono h (fun xv s₁ h₁ => ?_) fun _ _ e => e)
  obtain ⟨xt, t, news, rfl, ha, hh, F, N, hsz, R⟩ := h₁
  refine wpAny_pyIter_ascii ha ?_
  refine LCg.block_U (Walks.strAscii hh s₁.heap.objs.size xt t) hsz (fun i h st => by obtain ⟨o, e, _⟩ := st; exact ⟨o, e⟩) ascii_st hcell hkind hx ⟨_, Heap.get?_push_size _ rfl, rfl, rfl⟩ (fun b hb => ?_)
    (F.keeps fun _ _ e => Heap.get?_push_of_some _ e) (N.grown fun _ _ e => Heap.get?_push_of_some _ e) (Nat.ne_of_lt F.ns.lt) (next_is_new F) (fun p hp => Nat.ne_of_lt (Heap.lt_size (N p hp).1)) trivial (R _) ?_
  · rw [List.mem_singleton.mp hb]
    show s₁.heap.objs.size < (s₁.heap.push _).objs.size
    rw [Heap.size_push]; exact Nat.lt_succ_self _
  · intro D C h' tk m' ys news' F' N' o1 hn hC₀ hD₀ hCL hDL hCD offC fin
    refine ⟨m', hn, fun h'' hs'' => fin D h'' tk (F'.change hs'' hCL hC₀) (fun p hp => ?_) o1⟩
    refine ⟨hs''.extBut _ _ ?_ (N' p hp).1, (N' p hp).2⟩
    rcases List.mem_cons.mp hp with rfl | hp
    · exact Ne.symm hCD
    · exact offC p hp
/-- its turns, where each gives an int -/
theorem comp_ints {elt : Expr} {x : Str} {scope : Scope} {cl : List (Str × Addr)} {Fin : List Value → List (Addr × Obj) → Prop} {news : List (Addr × Obj)} {xs : List Nat} (g : Nat → Int)
    (turn : ∀ c t I oI C oC D m₂ ys h tk (E' : Value → Shared → Prop), c ∈ xs → LCg.NsObj oC m₂ → m₂ x = some (.str (S [c]) t) → Fr h₀ L h m → News h₀ L h ((I, oI) :: (C, oC) :: (D, LCg.lst ys) :: news) → LCg.Off3 I C D news → ((@Ne Nat I C) ∧ (@Ne Nat I D) ∧ (@Ne Nat C D)) →
      wpAny (model prog w) A (eval elt (compEnvC scope cl C env)) (LCg.CompEnd h₀ L m { s with heap := h, toks := tk } I oI C oC D (LCg.lst ys) (fun _ => True) (fun y news' => news' = news ∧ ∃ t', y = .int (g c) t')) E' { s with heap := h, toks := tk })
    (fin : ∀ ys, IntsAre ys (xs.map g) → Fin ys news) :
    LCg.CompRest prog w A h₀ L m env elt x scope cl s (fun _ => True) (SignAt (Mine.S xs)) Fin (Mine.S xs).cps.size 0 [] news := by
  have key : ∀ (j i : Nat) (ys : List Value), i + j = xs.length → IntsAre ys ((xs.take i).map g) → LCg.CompRest prog w A h₀ L m env elt x scope cl s (fun _ => True) (SignAt (Mine.S xs)) Fin j i ys news := by
    intro j
    induction j with
    | zero =>
      intro i ys hi hy
      have e : i = xs.length := by omega
      subst e
      rw [List.take_length] at hy
      exact LCg.CompRest.zero (fin ys hy)
    | succ j ih =>
      intro i ys hi hy
      refine LCg.CompRest.succ ?_
      intro v I oI C oC D m₂ h tk E' hv hC hx F N off ne
      obtain ⟨c, t, hk, hv'⟩ := hv
      have hk' : xs[i]? = some c := by simpa [S] using hk
      rw [hv'] at hx
      refine wpAny_mono (turn c t I oI C oC D m₂ ys h tk E' (List.mem_of_getElem? hk') hC hx F N off ne) (fun y s₂ hq => ?_) fun _ _ e => e
      obtain ⟨h', tk', nw, e, F', N', off', hS, hn, t', hy'⟩ := hq
      rw [hn] at N' off'
      refine ⟨h', tk', news, e, F', N', off', hS, ?_⟩
      rw [hy']
      refine ih (i + 1) _ (by omega) ?_
      rw [List.take_add_one, hk', List.map_append]
      exact IntsAre.append hy (.cons _ _ .nil)
  have e : (Mine.S xs).cps.size = xs.length := by simp [S]
  rw [e]
  exact key xs.length 0 [] (by omega) (by simp only [List.take_zero, List.map_nil]; exact .nil)
end
/-- an iterator over a list, i items on -/
def LIter (o : Obj) (l : Addr) (i : Nat) : Prop := o.cls = .type "list_iterator" ∧ o.data = .fields #[.ref l, .int i 0]
theorem LIter.at {o : Obj} {l it : Addr} {i : Nat} {h : Heap} (a : LIter o l i) (ho : h.get? it = some o) : h.IsListIter it l i := ⟨o, ho, a.1, a.2⟩
section
variable {prog : Program} {w : World} {A : Around} {E : Value → Shared → Prop} {s : Shared} {h₀ : Heap} {L : Addr} {m : Str → Option Value} {news post : List (Addr × Obj)} {l it : Addr} {io : Obj} {i n : Nat} {vs : List Value}
theorem iter_list {Q : Value → Shared → Prop} (F : Fr h₀ L s.heap m) (N : News h₀ L s.heap news) (hl : (l, W.listOf vs.toArray n) ∈ news)
    (h : ∀ (I : Addr) h' o, Fr h₀ L h' m → News h₀ L h' ((I, o) :: news) → (∀ p ∈ news, p.1 < I) → LIter o l 0 → Q (.ref I) { s with heap := h' }) :
    wpAny (model prog w) A (call (.builtin "iter") [.ref l]) Q E s := by
  refine call_function_entry (by decide +kernel) (by decide +kernel) kdk_entry_iter (kdk_args_iter _) ?_
  unfold Builtin.«iter»
  refine wpAny_bind (m := someArgs "iter" 1 2 _) (wpAny_of_eq (a := [Value.ref l]) (by first | rfl | kernel_rfl!) ?_)
  show wpAny _ _ (pyIter (.ref l) >>= _) _ _ _
  have hL : s.heap.IsList l vs.toArray := ⟨_, (N _ hl).1, rfl, _, rfl⟩
  refine wpAny_bind (wpAny_pyIter_list hL ?_)
  exact wpAny_pure ⟨_, rfl, h _ _ _ (F.push _) (News.push F N _ rfl) (fun q hq => Heap.lt_size (N q hq).1) ⟨rfl, rfl⟩⟩
/-- the special call behind next: an item -/
theorem special_item {items : Array Value} {x : Value} {Q : Option Value → Shared → Prop} (hit : s.heap.IsListIter it l i) (hl : s.heap.IsList l items) (hx : items[i]? = some x)
    (hQ : ∀ h', h'.IsListIter it l (i + 1) → Heap.SameBut it s.heap h' → Q (some x) { s with heap := h' }) :
    wpAny (model prog w) A (callSpecial? (.ref it) (Str.ofString "__next__")) Q E s := by
  obtain ⟨o, ho, hc, hd⟩ := id hit
  obtain ⟨ol, hol, _, nl, hdl⟩ := hl
  refine wpAny_callSpecial?_slot (name := Str.ofString "__next__") hit.typeIs slot_listiter_next
    (wpAny_call_entry slot_listiter_next hit.typeIs entry_listiter_next ?_ (args_listiter_next _))
  show wpAny _ _ (field (.ref it) 0 >>= _) _ _ s
  refine wpAny_bind (wpAny_field ho hd (x := .ref l) rfl ?_)
  show wpAny _ _ (if (Value.ref l == Value.none) = true then _ else _) _ _ s
  rw [if_neg (show ¬ ((Value.ref l == Value.none) = true) from Bool.false_ne_true)]
  show wpAny _ _ (field (.ref it) 1 >>= _) _ _ s
  refine wpAny_bind (wpAny_field ho hd (x := .int i 0) rfl ?_)
  show wpAny _ _ (seqItems? (.ref l) >>= _) _ _ s
  refine wpAny_bind (wpAny_seqItems hol hdl ?_)
  simp only [Int.toNat_natCast, hx]
  refine wpAny_bind (wpAny_setField ho hd (by simp) (wpAny_pure ⟨x, rfl, hQ _ ?_ (Heap.SameBut.update ..)⟩))
  exact ⟨_, Heap.get?_update_self _ ho (Obj.isFreed_of_fields (Obj.data_mapFields hd _)), (Obj.cls_mapFields ..).trans hc, by
    rw [Obj.data_mapFields hd]; simp [rawInt]⟩
/-- and its end: the iterator lets its list go, then StopIteration is made -/
theorem special_end {items : Array Value} {Q : Option Value → Shared → Prop} (hh : A.handled = none) (hit : s.heap.IsListIter it l i) (hl : s.heap.IsList l items) (hx : items[i]? = none)
    (hE : ∀ h1 h' e, Heap.SameBut it s.heap h1 → (∃ o, h1.get? it = some o) → Heap.MadeExc h1 h' e "StopIteration" [] → E (.ref e) { s with heap := h' }) :
    wpAny (model prog w) A (callSpecial? (.ref it) (Str.ofString "__next__")) Q E s := by
  obtain ⟨o, ho, hc, hd⟩ := id hit
  obtain ⟨ol, hol, _, nl, hdl⟩ := hl
  refine wpAny_callSpecial?_slot (name := Str.ofString "__next__") hit.typeIs slot_listiter_next
    (wpAny_call_entry slot_listiter_next hit.typeIs entry_listiter_next ?_ (args_listiter_next _))
  show wpAny _ _ (field (.ref it) 0 >>= _) _ _ s
  refine wpAny_bind (wpAny_field ho hd (x := .ref l) rfl ?_)
  show wpAny _ _ (if (Value.ref l == Value.none) = true then _ else _) _ _ s
  rw [if_neg (show ¬ ((Value.ref l == Value.none) = true) from Bool.false_ne_true)]
  show wpAny _ _ (field (.ref it) 1 >>= _) _ _ s
  refine wpAny_bind (wpAny_field ho hd (x := .int i 0) rfl ?_)
  show wpAny _ _ (seqItems? (.ref l) >>= _) _ _ s
  refine wpAny_bind (wpAny_seqItems hol hdl ?_)
  simp only [Int.toNat_natCast, hx]
  refine wpAny_bind (wpAny_rule (wpAny_bind (wpAny_setField ho hd (by simp) ?_)))
  generalize hh1 : s.heap.update it _ = h1
  have hsb : Heap.SameBut it s.heap h1 := hh1 ▸ Heap.SameBut.update ..
  have hi1 : ∃ o, h1.get? it = some o := ⟨_, hh1 ▸ Heap.get?_update_self _ ho (Obj.isFreed_of_fields (Obj.data_mapFields hd _))⟩
  clear hh1
  show wpAny _ _ (newExc (.type "StopIteration") [] >>= _) _ _ _
  refine wpAny_bind ?_
  simp only [newExc, newTuple]
  refine wpAny_bind (wpAny_newObj_type ?_ (by size_fits))
  refine wpAny_bind (m := firstArgMember _ _) (wpAny_of_eq (a := Value.none) (by first | rfl | (simp only [firstArgMember]; rfl)) ?_)
  refine wpAny_newObj_type ?_ (by size_fits)
  simp only [raiseNew]
  refine wpAny_bind (wpAny_handled ?_)
  first | rw [show A.in1.handled = none from hh] | rw [hh]
  refine wpAny_bind (wpAny_pure (wpAny_throw ?_))
  refine hE h1 _ _ hsb hi1 ⟨fun b o e => Heap.get?_push_of_some _ (Heap.get?_push_of_some _ e), Heap.get?_none_of_le (by simp), _, Heap.get?_push_size _ rfl, Heap.get?_none_of_le (Nat.le_refl _), Heap.get?_push_of_some _ (Heap.get?_push_size _ rfl)⟩
theorem next_item {Q : Value → Shared → Prop} {ns : List Int} {k : Int} (F : Fr h₀ L s.heap m) (N : News h₀ L s.heap ((it, io) :: post)) (hne : ∀ p ∈ post, p.1 ≠ it) (hi : LIter io l i) (hl : (l, W.listOf vs.toArray n) ∈ post) (hI : IntsAre vs ns) (hk : ns[i]? = some k)
    (h : ∀ h' o' t, Fr h₀ L h' m → News h₀ L h' ((it, o') :: post) → LIter o' l (i + 1) → Q (.int k t) { s with heap := h' }) :
    wpAny (model prog w) A (call (.builtin "next") [.ref it]) Q E s := by
  have hm := N (it, io) (.head _)
  have hit := hi.at hm.1
  have hL : s.heap.IsList l vs.toArray := ⟨_, (N _ (.tail _ hl)).1, rfl, _, rfl⟩
  obtain ⟨t, hv⟩ : ∃ t, vs[i]? = some (.int k t) := by
    have hlt : i < ns.length := (List.getElem?_eq_some_iff.mp hk).1
    have hlv : i < vs.length := by rw [hI.length]; exact hlt
    obtain ⟨k', t, e, hk'⟩ := IntsAre.at hI i vs[i] (by simp [hlv])
    rw [hk] at hk'
    cases hk'
    exact ⟨t, by simp [hlv, e]⟩
  refine call_function_entry (by decide +kernel) (by decide +kernel) kdk_entry_next (kdk_args_next _) ?_
  unfold Builtin.«next»
  refine wpAny_bind (m := someArgs "next" 1 2 _) (wpAny_of_eq (a := [Value.ref it]) (by first | rfl | kernel_rfl!) ?_)
  dsimp only
  refine wpAny_bind (wpAny_specialOf (name := Str.ofString "__next__") hit.typeIs slot_listiter_next.lookup ?_)
  refine wpAny_ite_split (fun hab => absurd hab (by decide)) (fun _ => ?_)
  refine wpAny_bind (special_item hit hL (by simpa using hv) fun h' hit' hs => ?_)
  obtain ⟨o', ho', hc', hd'⟩ := hit'
  refine wpAny_pure ⟨_, rfl, h h' o' t (F.change hs hm.2.1 hm.2.2) (fun p hp => ?_) ⟨hc', hd'⟩⟩
  rcases List.mem_cons.mp hp with rfl | hp
  · exact ⟨ho', hm.2⟩
  · exact ⟨hs.extBut _ _ (hne p hp) (N p (.tail _ hp)).1, (N p (.tail _ hp)).2⟩
theorem next_end {Q : Value → Shared → Prop} (hh : A.handled = none) (F : Fr h₀ L s.heap m) (N : News h₀ L s.heap ((it, io) :: post)) (hne : ∀ p ∈ post, p.1 ≠ it) (hi : LIter io l i) (hl : (l, W.listOf vs.toArray n) ∈ post) (hk : vs.length ≤ i)
    (h : ∀ h1 h' e, Fr h₀ L h1 m → News h₀ L h1 post → Heap.MadeExc h1 h' e "StopIteration" [] → E (.ref e) { s with heap := h' }) :
    wpAny (model prog w) A (call (.builtin "next") [.ref it]) Q E s := by
  have hm := N (it, io) (.head _)
  have hit := hi.at hm.1
  have hL : s.heap.IsList l vs.toArray := ⟨_, (N _ (.tail _ hl)).1, rfl, _, rfl⟩
  refine call_function_entry (by decide +kernel) (by decide +kernel) kdk_entry_next (kdk_args_next _) ?_
  unfold Builtin.«next»
  refine wpAny_bind (m := someArgs "next" 1 2 _) (wpAny_of_eq (a := [Value.ref it]) (by first | rfl | kernel_rfl!) ?_)
  dsimp only
  refine wpAny_bind (wpAny_specialOf (name := Str.ofString "__next__") hit.typeIs slot_listiter_next.lookup ?_)
  refine wpAny_ite_split (fun hab => absurd hab (by decide)) (fun _ => ?_)
  refine wpAny_bind (special_end hh hit hL (by simp; omega) fun h1 h' e hs _ hx => ?_)
  refine h h1 h' e (F.change hs hm.2.1 hm.2.2) (fun p hp => ⟨hs.extBut _ _ (hne p hp) (N p (.tail _ hp)).1, (N p (.tail _ hp)).2⟩) hx
end
end Mine
end
section
open PySem PySem.W PySem.Spec PySem.Calls PyProof.Rows PyProof
namespace Mine
def escS (c : Int) : List Nat := if c = 60 then [38, 108, 116, 59] else [38, 103, 116, 59]
def escL (r : List Int) : List Nat := r.flatMap escS
def numS (c : Int) : List Int := [38, if c = 60 then 183611 else 163131]
def numL (r : List Int) : List Int := r.flatMap numS
/-- what the reader's iterator holds -/
def itemsL (r : List Int) : List Int := (escL r).map (fun (c : Nat) => (c : Int)) ++ [5]
theorem escS_len (c : Int) : (escS c).length = 4 := by unfold escS; split <;> rfl
theorem escL_len (r : List Int) : (escL r).length = 4 * r.length := by
  induction r with
  | nil => rfl
  | cons a r ih =>
    show (escS a ++ escL r).length = _
    rw [List.length_append, escS_len, ih, List.length_cons]
    omega
theorem itemsL_len (r : List Int) : (itemsL r).length = 4 * r.length + 1 := by
  unfold itemsL
  rw [List.length_append, List.length_map, escL_len]
  rfl
theorem escL_append (a b : List Int) : escL (a ++ b) = escL a ++ escL b := by unfold escL; exact List.flatMap_append
theorem numL_append (a b : List Int) : numL (a ++ b) = numL a ++ numL b := by unfold numL; exact List.flatMap_append
theorem numL_len (r : List Int) : (numL r).length = 2 * r.length := by
  induction r with
  | nil => rfl
  | cons a r ih =>
    show (numS a ++ numL r).length = _
    rw [List.length_append, ih, List.length_cons]
    show 2 + _ = _
    omega
theorem items_at {done rest : List Int} {n : Int} (j : Nat) (hj : j < 4) : (itemsL (done ++ n :: rest))[4 * done.length + j]? = ((escS n).map (fun (c : Nat) => (c : Int)))[j]? := by
  have e : itemsL (done ++ n :: rest) = (escL done).map (fun (c : Nat) => (c : Int)) ++ ((escS n).map (fun (c : Nat) => (c : Int)) ++ itemsL rest) := by
    unfold itemsL
    rw [escL_append]
    show List.map _ (escL done ++ (escS n ++ escL rest)) ++ [5] = _
    simp
  rw [e, List.getElem?_append_right (by rw [List.length_map, escL_len]; omega), List.length_map, escL_len]
  rw [List.getElem?_append_left (by rw [List.length_map, escS_len]; omega)]
  congr 1
  omega
theorem items_end {r : List Int} : (itemsL r)[4 * r.length]? = some 5 := by
  unfold itemsL
  rw [List.getElem?_append_right (by rw [List.length_map, escL_len]; omega), List.length_map, escL_len, Nat.sub_self]
  rfl
inductive Rd (r : List Int) : Nat → List Int → Prop where
  | at (done rest : List Int) (n : Int) : r = done ++ n :: rest → Rd r (4 * done.length) (numL done)
  | mid (done rest : List Int) (n : Int) : r = done ++ n :: rest → Rd r (4 * done.length + 1) (numL done ++ [38])
  | last : Rd r (4 * r.length) (numL r)
  | over : Rd r (4 * r.length + 1) (numL r ++ [5])
theorem rd_of (r done rest : List Int) (h : r = done ++ rest) : Rd r (4 * done.length) (numL done) := by
  cases rest with
  | nil =>
    rw [List.append_nil] at h
    subst h
    exact .last
  | cons n t => exact .at done t n h
theorem rd_init (r : List Int) : Rd r 0 [] := rd_of r [] r rfl
theorem rd_next {r done rest : List Int} {n : Int} (h : r = done ++ n :: rest) {told : List Int} (ht : told = (numL done ++ [38]) ++ [if n = 60 then 183611 else 163131]) : Rd r (4 * done.length + 1 + 1 + 1 + 1) told := by
  have := rd_of r (done ++ [n]) rest (by rw [h]; simp)
  rw [numL_append, List.length_append] at this
  rw [ht]
  have e1 : 4 * (done.length + [n].length) = 4 * done.length + 1 + 1 + 1 + 1 := by simp; omega
  have e2 : numL done ++ numL [n] = (numL done ++ [38]) ++ [if n = 60 then 183611 else 163131] := by
    rw [List.append_assoc]; rfl
  rw [e1, e2] at this
  exact this
theorem rd_len {r told : List Int} {i : Nat} (h : Rd r i told) : told.length ≤ 2 * r.length + 1 ∧ i ≤ 4 * r.length + 1 := by
  cases h with
  | «at» done rest n h => rw [numL_len]; have := congrArg List.length h; rw [List.length_append, List.length_cons] at this; omega
  | mid done rest n h => rw [List.length_append, numL_len]; have := congrArg List.length h; rw [List.length_append, List.length_cons] at this; simp; omega
  | last => rw [numL_len]; omega
  | over => rw [List.length_append, numL_len]; simp
theorem escL_ok (r : List Int) : Ok (escL r) := by
  intro c hc
  obtain ⟨n, _, hn⟩ := List.mem_flatMap.mp hc
  unfold escS at hn
  split at hn
  · exact (show ∀ c ∈ [38, 108, 116, 59], c ∈ okSigns by decide) c hn
  · exact (show ∀ c ∈ [38, 103, 116, 59], c ∈ okSigns by decide) c hn
end Mine
end
section
open PySem PySem.W PySem.Spec PySem.Calls PyProof.Rows PyProof
namespace Mine
section
variable {prog : Program} {w : World} {A₀ A : Around} {s : Shared} {h₀ : Heap} {L a : Addr} {m : Str → Option Value} {env : Env} {K : Frag} {mean : ExcName → Option Value} {mg mb : Str → Option Value} {p : Program} {loose : List Str}
  {R : Result → Shared → Prop} {name qual : Str} {params : Arguments} {body : List Stmt} {scope : Scope} {dV kV doc pm cdv ct oc : Value} {an od : Option Addr} {osl : Array (Option Value)} {f : Addr} {args : Args} {binds ps : List (Str × Value)}
def LeaveKS (fs : List Addr) (h₀ : Heap) (L : Addr) (m : Str → Option Value) (g : Heap) (R : Result → Shared → Prop) (v : Value) (s' : Shared) : Prop :=
  ∃ g' L' m', KtsTurn fs g g' ∧ Fr g' L' s'.heap m' ∧ (Fr h₀ L s'.heap m → (∀ b o, g.get? b = some o → b ≠ L → s'.heap.get? b = some o) → R (.ok (.ret v)) s')
theorem leaveKS {fs : List Addr} {g g' : Heap} {L' : Addr} {m' : Str → Option Value} {v : Value} {s' : Shared} (T' : KtsTurn fs g g') (F' : Fr g' L' s'.heap m')
    (k : Fr h₀ L s'.heap m → (∀ b o, g.get? b = some o → b ≠ L → s'.heap.get? b = some o) → R (.ok (.ret v)) s') : LeaveKS fs h₀ L m g R v s' := ⟨g', L', m', T', F', k⟩
theorem enterKS (B : Below A₀ h₀ [] h₀) (F : Fr h₀ L s.heap m) (X₀ : K.In h₀) (T : Top p loose mean mg mb h₀) (hA : A.frames = some [env]) (hf : env.frame = some L) (hke : env.scope.kind = .function)
    (ho : K.lookup f = some ⟨oc, od, .func (fnOf name qual params body scope dV kV doc pm an cdv ct), osl⟩) (hcd : codeIn K cdv qual = true) (hroom : A.depth < recursionLimit)
    (hbind : BindsTo s (fnOf name qual params body scope dV kV doc pm an cdv ct) args binds) (hloc : ∀ y ∈ binds, scope.names.lookup y.1 = some .local) (hps : binds.reverse = ps)
    (h : ∀ L' h₁, Fr s.heap L' h₁ (fun y => ps.lookup y) → News s.heap L' h₁ [] → Below A h₀ [env] s.heap → K.In s.heap → Top p loose mean mg mb s.heap → KtsDicts ([env].filterMap (·.frame)) s.heap →
      wpAny (model prog w) (A.deeper (envOf qual scope L' f cdv)) (execs body (envOf qual scope L' f cdv))
        (fun fl s' => LeaveKS ([env].filterMap (·.frame)) h₀ L m s.heap R (match fl with | .ret v => v | _ => .none) s')
        (fun e s' => wpAny (model prog w) (A.deeper (envOf qual scope L' f cdv)) (leaving (envOf qual scope L' f cdv) e) (fun _ s'' => R (.error e) s'') (fun e' s'' => R (.error e') s'') s')
        { s with heap := h₁, toks := s.toks + binds.length })
    (hco : scope.isCoroutine = false) (hgen : scope.isGenerator = false) (hk : scope.kind = .function)
    (hcell : ∀ x ∈ scope.names, x.2 ≠ .cell) : codeAny (model prog w) A (.call (.ref f) args) R s := by
  subst hps
  have st : h₀.StaysIn s.heap := F.keep
  have N : News h₀ L s.heap [] := News.nil
  obtain ⟨FG, BG, _, lv⟩ := groundX (R := R) B F N hA hf hke
  have X := X₀.keeps F.keep
  refine codeAny_call_def (fd := fnX name qual params body scope [] dV kV doc pm an cdv ct) (body := body) (binds := binds) hroom (X _ _ ho) rfl (T.nolimit.keeps F.keep) (codeRec_of X hcd) rfl hbind hcell hloc (fun h₁ hns hk₁ => ?_) hco hgen hk
  obtain ⟨oL, es, ep, hL, hLd, hLk, hLf⟩ := F.ns
  have hfs : ∀ b, b ∈ [env].filterMap (·.frame) → b = L := fun b hb => by
    obtain ⟨e', he, hfr⟩ := List.mem_filterMap.mp hb
    obtain rfl := List.mem_singleton.mp he
    exact (Option.some.inj (hf.symm.trans hfr)).symm
  have D : KtsDicts ([env].filterMap (·.frame)) s.heap := fun b hb => by
    obtain rfl := hfs b hb
    exact ⟨oL, es, ep, hL, hLd⟩
  refine wpAny_mono (h s.heap.objs.size h₁ ⟨hns, fun b o e => hk₁ b o e, Nat.le_refl _⟩ News.nil BG X (T.keeps st) D) (fun fl s' hl => ?_) fun _ _ y => y
  obtain ⟨g', L', m', T', F', k⟩ := hl
  have nL₀ : h₀.get? L = none := kts_self F
  obtain ⟨sl, hs⟩ := T'.up hL
  refine k ⟨⟨_, es, ep, F'.keep _ _ hs, hLd, hLk, hLf⟩, fun b o e => F'.keep b o (T'.other b o (st b o e) (fun q => ?_)), F.above⟩ fun b o e ne => F'.keep b o (T'.other b o e (fun q => ne (hfs b q)))
  rw [hfs b q, nL₀] at e
  cases e
theorem turn_none {fs : List Addr} {g g' : Heap} (T : KtsTurn fs g g') {b : Addr} (e : g'.get? b = none) : g.get? b = none := by
  cases q : g.get? b with
  | none => rfl
  | some o =>
    obtain ⟨sl, hs⟩ := T.up q
    rw [hs] at e
    cases e
end
theorem fillR : PySem.Challenge.rw_sw0075_01 = PySem.Challenge.rw_sw0075_01 ∧ hd.heap_39 = hd.heap_39 := by
  k_with_none
  w_top off
  k_fill
  exact ⟨rfl, rfl⟩
set_option pp.deepTerms false in
set_option pp.maxSteps 3000 in
set_option maxHeartbeats 1000000 in
theorem read_c {w : World} {mean : ExcName → Option Value} {mg mb : Str → Option Value} {r : List Int} {tx : Tok}
   {dp un : Nat} {gd : Option (List Code)} {cn : Str} {cs : Scope} {a : Addr} {ccd : Value} {cl : List (Str × Addr)} {A₀ : Around} {h₀ : Heap} {L : Addr} {m : Str → Option Value} {s : Shared} {Q E : Value → Shared → Prop}
   (B : Below A₀ h₀ [] h₀) (F : Fr h₀ L s.heap m) (X : (hd.heap_39 w.params).In h₀) (T : Top hd.view_39 LOOSE mean mg mb h₀) (hck : cs.kind = .function) (hdp : dp + 2 < recursionLimit) (hun : un + 16 < cLine)
   (hr : r.length ≤ 10)
   (hret : ∀ l vs n h' tk', Fr h₀ L h' m → (∀ b o, s.heap.get? b = some o → b ≠ L → h'.get? b = some o) → h'.get? l = some (W.listOf vs.toArray n) → s.heap.get? l = none → IntsAre vs (numL r ++ [5]) → Q (.ref l) { s with heap := h', toks := tk' }) :
   wpAny (model PySem.Challenge.rw_sw0075_01.row.prog w) (ktrTop dp un gd cn cs L a ccd cl []) (call (.ref 249) [.str (S (escL r)) tx]) Q E s := by
  obtain ⟨x, hx⟩ : ∃ x, x = escL r := ⟨_, rfl⟩
  have hlx : x.length ≤ 100 := by rw [hx, escL_len]; omega
  have hox : Ok x := by rw [hx]; exact escL_ok r
  rw [← hx]
  refine wpAny_call ?_
  k_dflt (refine' enterKS (ps := [(Str.ofString "text", .str (S x) tx)]) ?k1 ?k2 ?k3 ?k5 ?kA ?kF ?kK ?k6 ?k7 ?k8 ?k9 ?kB ?kP ?_ ?c2 ?c3 ?c4 ?c5; (case kA => exact rfl); (case kF => exact rfl); (case kK => assumption); (case k1 => k_asm); (case k2 => k_asm); (case k3 => k_asm); (case k5 => k_asm); (case k6 => k_is); (case k7 => k_is); (case k8 => ktr_room); (case k9 => exact BindsTo.of_eq rfl); (case c5 => decide); (case kB => exact locs rfl); (case kP => exact rfl); (case c2 => exact rfl); (case c3 => exact rfl); (case c4 => exact rfl); k_whole; intro L' h' F' N' B' X' T' D'; (try dsimp only); (try k_fold))
  have hsx := S_len x
  k_with "exec While Constant cons nil" => refine Hold.to ?_
  k_with "Exists" => refine Hold.to ?_
  k_with "CompEnd" => refine Hold.to ?_
  k_with "eval ListComp" => (k_dflt (refine' ListComp_S (F₀ := ?f) ?a ?b ?c ?d ?e ?_; (case f => k_asm); (case a => rfl); (case b => decide); (case c => rfl); (case d => decide); (case e => rfl)))
  k_steps
  refine Hold.by ?_
  have hasc : (S x).cps.all (· < 128) = true := ok_ascii hox
  have hsz : (S x).cps.size ≤ sizeLine := Nat.le_trans (Nat.le_of_eq hsx) (Nat.le_trans hlx (by decide))
  refine ⟨S x, tx, [], rfl, hasc, rfl, F', N', hsz, fun g => comp_ints (fun c => (c : Int)) ?turn ?fin⟩
  case turn =>
    intro c t I oI C oC D m₂ ys h tk E' hc hC hx F N off ne
    k_steps
    refine Hold.by ?_
    refine LCg.CompEnd.intro F N [] (fun p hp => hp) trivial trivial ⟨rfl, _, rfl⟩
  case fin =>
    intro ys hys
    unfold LCg.FinE
    intro D h tk F N o1
    k_with "call builtin:iter" => (k_dflt (refine' iter_list ?cF ?cN ?cl ?_; (case cF => k_asm); (case cN => k_asm); (case cl => k_mem)); intro I' h' o' F' N' l1 hLI; (try k_lt l1); (try k_sweep))
    k_steps
    refine Hold.by ?_
    have hns : (List.map (fun (c : Nat) => (c : Int)) x ++ [5]) = itemsL r := by rw [hx]; rfl
    rename IntsAre _ (_ ++ [5]) => hI
    rw [hns] at hI
    (rename Fr _ _ _ _ => lF'); (rename News _ _ _ _ => lN'); (rename LIter _ _ _ => hLI)
    have lN2 := kst_newsOf (l' := [_, _, _]) lN' (List.forall_mem_cons.mpr ⟨.tail _ (.head _), List.forall_mem_cons.mpr ⟨.head _, List.forall_mem_cons.mpr ⟨.tail _ (.tail _ (.head _)), List.forall_mem_nil _⟩⟩⟩)
    refine' ksw_while (σ := Obj × Nat × List Value × List Int × Nat) (fun c => [(_, c.1), (_, W.listOf c.2.2.1.toArray c.2.2.2.2), (_, _)]) (fun c => []) (fun c => LIter c.1 _ c.2.1 ∧ IntsAre c.2.2.1 c.2.2.2.1) [] (fun c => Rd r c.2.1 c.2.2.2.1) (fun c => 50 - c.2.1) (_, 0, [], [], 0) lF' lN2 ⟨hLI, .nil⟩ (List.forall_mem_nil _) (rd_init r) ?turn
    case turn =>
      clear lF' lN' lN2 hLI
      rintro ⟨io, i, vs, ns, kc⟩ u h tk' ⟨hLI, hIv⟩ hp F N
      dsimp only at hLI hIv hp F N ⊢
      have hln := rd_len hp
      have hvl := hIv.length
      have hwl := hI.length
      have hil := itemsL_len r
      k_with "call builtin:next" => (first
        | (k_dflt (refine' next_item ?cF ?cN ?cne ?ci ?cl ?cI ?ck ?_; (case cF => k_asm); (case cN => k_asm); (case cne => k_all); (case ci => assumption); (case cl => k_mem); (case cI => assumption); (case ck => assumption)); intro h' o' t' F' N' hL'; (try k_sweep))
        | (k_dflt (refine' next_end ?ch ?cF ?cN ?cne ?ci ?cl ?ck ?_; (case ch => rfl); (case cF => k_asm); (case cN => k_asm); (case cne => k_all); (case ci => assumption); (case cl => k_mem); (case ck => omega)); intro h1' h' e' F' N' hM'; (try k_sweep)))
      k_with "KswEnd" => refine Hold.to ?_
      k_with "noteFrame ref" => refine Hold.to ?_
      k_with "call ref" => (k_here; k_dflt (refine wpAny_call ?_; (refine' code_def ?k1 ?k2 ?k3 ?k4 ?k5 ?kA ?kF ?kK ?k6 ?k7 ?k8 ?k9 ?kB ?_ ?c2 ?c3 ?c4 ?c5; (case kA => exact rfl); (case kF => exact rfl); (case kK => first | exact rfl | assumption); (case k1 => k_asm); (case k2 => k_asm); (case k3 => k_asm); (case k4 => k_asm); (case k5 => k_asm); (case k6 => k_is); (case k7 => k_is); (case k8 => ktr_room); (case k9 => exact BindsTo.of_eq rfl); (case c5 => decide); (case kB => exact locs rfl); (case c2 => exact rfl); (case c3 => exact rfl); (case c4 => exact rfl); k_whole; intro g' L' h' FG' F' N' B' X' T'; (try dsimp only); (try k_lift B'); (try k_fold))))
      cases hp with
      | «at» done rest n hd =>
        have h0 : (itemsL r)[4 * done.length]? = some 38 := by
          rw [hd]
          have := items_at (done := done) (rest := rest) (n := n) 0 (by decide)
          rw [Nat.add_zero] at this
          rw [this]
          unfold escS
          split <;> rfl
        k_steps
        refine Hold.by ?_
        rename Fr _ _ _ _ => FE
        rename News _ _ _ _ => NE
        rename LIter _ _ _ => LE
        simp only [List.push_toArray] at NE
        refine ksw_end (_, _, _, _, _) FE NE (fun p hp => hp) ⟨LE, hIv.append (.cons _ _ .nil)⟩ (List.forall_mem_nil _) (by intro z h2 h3; simp [kstB]) ?_ (by show 50 - (4 * done.length + 1) < 50 - 4 * done.length; omega)
        show Rd r _ (numL done ++ [Builtin.bitAnd 38 63])
        rw [show Builtin.bitAnd 38 63 = 38 by decide +kernel]
        exact .mid done rest n hd
      | mid done rest n hd =>
        have h0 := items_at (done := done) (rest := rest) (n := n) 1 (by decide)
        have h1 := items_at (done := done) (rest := rest) (n := n) 2 (by decide)
        have h2 := items_at (done := done) (rest := rest) (n := n) 3 (by decide)
        rw [← hd] at h0 h1 h2
        by_cases hn : n = 60
        · have g0 : (itemsL r)[4 * done.length + 1]? = some 108 := by rw [h0, hn]; rfl
          have g1 : (itemsL r)[4 * done.length + 1 + 1]? = some 116 := h1.trans (by rw [hn]; rfl)
          have g2 : (itemsL r)[4 * done.length + 1 + 1 + 1]? = some 59 := h2.trans (by rw [hn]; rfl)
          k_steps
          refine Hold.by ?_
          rename Fr _ _ _ _ => FE
          rename News _ _ _ _ => NE
          rename LIter _ _ _ => LE
          simp only [List.push_toArray] at NE
          refine ksw_end (_, _, _, _, _) FE NE (fun p hp => hp) ⟨LE, hIv.append (.cons _ _ .nil)⟩ (List.forall_mem_nil _) (by intro z h2 h3; simp [kstB]) ?_ (by show 50 - (4 * done.length + 1 + 1 + 1 + 1) < 50 - (4 * done.length + 1); omega)
          refine rd_next hd ?_
          rw [if_pos hn]
          congr 2
        · have g0 : (itemsL r)[4 * done.length + 1]? = some 103 := by rw [h0]; unfold escS; rw [if_neg hn]; rfl
          have g1 : (itemsL r)[4 * done.length + 1 + 1]? = some 116 := h1.trans (by unfold escS; rw [if_neg hn]; rfl)
          have g2 : (itemsL r)[4 * done.length + 1 + 1 + 1]? = some 59 := h2.trans (by unfold escS; rw [if_neg hn]; rfl)
          k_steps
          refine Hold.by ?_
          rename Fr _ _ _ _ => FE
          rename News _ _ _ _ => NE
          rename LIter _ _ _ => LE
          simp only [List.push_toArray] at NE
          refine ksw_end (_, _, _, _, _) FE NE (fun p hp => hp) ⟨LE, hIv.append (.cons _ _ .nil)⟩ (List.forall_mem_nil _) (by intro z h2 h3; simp [kstB]) ?_ (by show 50 - (4 * done.length + 1 + 1 + 1 + 1) < 50 - (4 * done.length + 1); omega)
          refine rd_next hd ?_
          rw [if_neg hn]
          congr 2
      | last =>
        have h0 := items_end (r := r)
        k_steps
        refine Hold.by ?_
        rename Fr _ _ _ _ => FE
        rename News _ _ _ _ => NE
        rename LIter _ _ _ => LE
        simp only [List.push_toArray] at NE
        refine ksw_end (_, _, _, _, _) FE NE (fun p hp => hp) ⟨LE, hIv.append (.cons _ _ .nil)⟩ (List.forall_mem_nil _) (by intro z h2 h3; simp [kstB]) ?_ (by show 50 - (4 * r.length + 1) < 50 - 4 * r.length; omega)
        show Rd r _ (numL r ++ [Builtin.bitAnd 5 63])
        rw [show Builtin.bitAnd 5 63 = 5 by decide +kernel]
        exact .over
      | over =>
        k_steps
        refine Hold.by ?_
        (rename KtsTurn _ _ _ => tE)
        (rename Fr _ _ _ _ => FE)
        (rename Got _ _ _ _ _ => GE)
        (rename News _ _ _ _ => NE)
        refine ⟨_, _, _, tE, FE, fun F9 K9 => ?_⟩
        exact hret _ vs kc _ _ F9 K9 (NE _ (.head _)).1 (turn_none tE (NE _ (.head _)).2.2) hIv
end Mine
end
section
open PySem PySem.W PySem.Spec PySem.Calls PyProof.Rows PyProof
namespace Mine
def repl (c : Nat) (z l : List Nat) : List Nat := l.flatMap fun d => if d = c then z else [d]
theorem repl_nil (c : Nat) (z : List Nat) : repl c z [] = [] := rfl
theorem repl_cons (c : Nat) (z l : List Nat) (d : Nat) : repl c z (d :: l) = (if d = c then z else [d]) ++ repl c z l := rfl
theorem repl_append (c : Nat) (z a b : List Nat) : repl c z (a ++ b) = repl c z a ++ repl c z b := by unfold repl; exact List.flatMap_append
theorem repl_free {c : Nat} {z : List Nat} : ∀ {l : List Nat}, c ∉ l → repl c z l = l
  | [], _ => rfl
  | d :: r, h => by
    rw [repl_cons, if_neg (fun e : d = c => h (e ▸ List.mem_cons_self ..)), repl_free fun m => h (List.mem_cons_of_mem _ m)]
    rfl
theorem repl_join (c : Nat) (z : List Nat) : ∀ parts : List Str, (∀ p ∈ parts, c ∉ p.cps.toList) → repl c z (Str.join ⟨#[c]⟩ parts).cps.toList = (Str.join (S z) parts).cps.toList
  | [], _ => rfl
  | [p], h => repl_free (h p (List.mem_singleton.mpr rfl))
  | p :: q :: r, h => by
    have ih := repl_join c z (q :: r) fun a ha => h a (List.mem_cons_of_mem _ ha)
    show repl c z (p ++ ⟨#[c]⟩ ++ Str.join ⟨#[c]⟩ (q :: r)).cps.toList = (p ++ S z ++ Str.join (S z) (q :: r)).cps.toList
    simp only [Str.cps_append, Array.toList_append]
    rw [repl_append, repl_append, ih, repl_free (h p (List.mem_cons_self ..))]
    show p.cps.toList ++ repl c z [c] ++ _ = _
    have e : repl c z [c] = z := by rw [repl_cons, if_pos rfl, repl_nil, List.append_nil]
    rw [e]
    rfl
theorem replace_S (c : Nat) (z l : List Nat) : Txt.replace (S l) (S [c]) (S z) = S (repl c z l) := by
  have e := StrLaws.replace_one (S l) (S z) c
  have j := repl_join c z (Txt.split (S l) ⟨#[c]⟩) (StrLaws.split_free (S l) c)
  rw [StrLaws.join_split] at j
  show Txt.replace (S l) ⟨#[c]⟩ (S z) = _
  rw [e]
  have j' : repl c z l = (Str.join (S z) (Txt.split (S l) ⟨#[c]⟩)).cps.toList := j
  rw [j']
  unfold S
  rw [Array.toArray_toList]
theorem replace_free {x y z : Str} {c : Nat} {l : List Nat} (hx : x = S l) (hy : y = S [c]) (hc : c ∉ l) : Txt.replace x y z = x := by
  subst hx hy
  have := replace_S c z.cps.toList l
  rw [repl_free hc] at this
  have e : S z.cps.toList = z := by unfold S; rw [Array.toArray_toList]
  rw [e] at this
  exact this
section
variable {prog : Program} {w : World} {A : Around} {E : Value → Shared → Prop} {s : Shared} {y : Str} {t u : Tok} {Q : Value → Shared → Prop} {l : List Nat} {c : Nat} {b : Bool}
theorem in_S (hy : y = S [c]) (hb : decide (c ∈ l) = b) (hq : Q (.bool b) s) : wpAny (model prog w) A (compareOp .In (.str y u) (.str (S l) t)) Q E s := by
  refine in_str ?_
  subst hy
  have := StrLaws.found_one (S l) c
  have e : (!(Builtin.Str.occurrences (S l) (S [c]) 0 (S l).length 1).isEmpty) = decide (c ∈ l) := this
  rw [e, hb]
  exact hq
end
section
variable {M : Model} {A : Around} {α : Type} {c : Sem α} {E : Value → Shared → Prop} {Q : α → Shared → Prop} {hp : Heap} {n : Nat}
theorem gentoks {gg dd oo} (h : ∀ tk, 0 < tk → wpAny M A c Q E ⟨hp, gg, dd, tk, oo⟩) : wpAny M A c Q E ⟨hp, gg, dd, n + 1, oo⟩ := h _ (Nat.succ_pos _)
theorem gentoksL {gg dd oo} {β : Type} {b : β} {l : List β} (h : ∀ tk, 0 < tk → wpAny M A c Q E ⟨hp, gg, dd, tk, oo⟩) : wpAny M A c Q E ⟨hp, gg, dd, n + (b :: l).length, oo⟩ := h _ (by simp only [List.length_cons]; omega)
end
section
open Builtin Builtin.Str
variable {prog : Program} {w : World} {A : Around} {E : Value → Shared → Prop} {s : Shared} {x y z : Str} {t u v : Tok} {Q : Value → Shared → Prop}
theorem replaceT (hu : u ≠ 0) (hv : v ≠ 0) (huv : u ≠ v) (hyz : (y == z) = false) (hb : x.length + (x.length + 1) * z.length ≤ 16777216)
    (hq : ∀ t' k, s.toks ≤ k → Q (.str (Txt.replace x y z) t') { s with toks := k }) : wpAny (model prog w) A (call (.builtin "str.replace") [.str x t, .str y u, .str z v]) Q E s := by
  have e : (2 : Nat) ^ 24 = 16777216 := by decide
  have hl : tooLong (x.length + (occurrences x y 0 x.length (x.length + 1)).length * z.length) = false := by
    have h1 := StrLaws.occ_length_le x y 0 x.length (x.length + 1)
    have h2 : (occurrences x y 0 x.length (x.length + 1)).length * z.length ≤ (x.length + 1) * z.length := Nat.mul_le_mul_right _ h1
    unfold tooLong sizeLine
    exact decide_eq_false (by omega)
  refine call_gives F.slot_str_replace (typeIs_str _ _ _) F.entry_str_replace (F.args_str_replace_3 _ _ _)
    (gives_str_replace x y z t u v fun _ => ⟨by simp [hu, hv], by simp [huv], hyz, hl⟩) ?_
  have hq' := hq
  unfold Txt.replace at hq'
  cases hc : ((occurrences x y 0 x.length (x.length + 1)).isEmpty || (y.length == 0 && z.length == 0))
  · rw [hc] at hq'
    simp only [Bool.false_eq_true, if_false] at hq' ⊢
    exact ⟨fits_replaced y hb, hq' _ _ (Nat.le_succ _)⟩
  · rw [hc] at hq'
    simp only [if_true] at hq' ⊢
    exact hq' t s.toks (Nat.le_refl _)
theorem rep_S {l k : List Nat} {c : Nat} (hy : y = S [c]) (hz : z = S k) (hyz : ([c] == k) = false) (hu : 0 < u) (hv : v = u + 1) (hn : l.length ≤ 1000) (hk : k.length ≤ 14)
    (hq : ∀ t' k', s.toks ≤ k' → Q (.str (S (repl c k l)) t') { s with toks := k' }) : wpAny (model prog w) A (call (.builtin "str.replace") [.str (S l) t, .str y u, .str z v]) Q E s := by
  subst hy hz
  rw [← replace_S] at hq
  refine replaceT (Nat.ne_of_gt hu) (by rw [hv]; exact Nat.succ_ne_zero _) (by rw [hv]; exact Nat.ne_of_lt (Nat.lt_succ_self _)) ?_ ?_ hq
  · rw [S_beq]
    exact decide_eq_false (fun e => by rw [e] at hyz; simp at hyz)
  · rw [S_len, S_len]
    have : (l.length + 1) * k.length ≤ (l.length + 1) * 14 := Nat.mul_le_mul_left _ hk
    omega
end
def ltS : List Nat := [38, 108, 116, 59]
def gtS : List Nat := [38, 103, 116, 59]
def escN (r : List Nat) : List Nat := repl 62 gtS (repl 60 ltS r)
theorem escN_eq : ∀ {r : List Nat}, (∀ c ∈ r, c = 60 ∨ c = 62) → escN r = r.flatMap fun (c : Nat) => escS (c : Int)
  | [], _ => rfl
  | d :: r, h => by
    have ih := escN_eq (r := r) fun c hc => h c (List.mem_cons_of_mem _ hc)
    show repl 62 gtS ((if d = 60 then ltS else [d]) ++ repl 60 ltS r) = escS (d : Int) ++ List.flatMap _ r
    rw [repl_append]
    rw [← ih]
    show _ ++ escN r = _
    congr 1
    rcases h d (List.mem_cons_self ..) with rfl | rfl <;> decide
theorem repl_mem {c : Nat} {z l : List Nat} {k : Nat} (h : k ∈ repl c z l) : k ∈ z ∨ k ∈ l := by
  obtain ⟨d, hd, hk⟩ := List.mem_flatMap.mp h
  split at hk
  · exact .inl hk
  · exact .inr (List.mem_singleton.mp hk ▸ hd)
theorem repl_keeps {c : Nat} {z l : List Nat} {k : Nat} (hk : k ∈ l) (hc : k ≠ c) : k ∈ repl c z l := List.mem_flatMap.mpr ⟨k, hk, by rw [if_neg hc]; exact .head _⟩
theorem repl_len (c : Nat) (z : List Nat) (hz : 1 ≤ z.length) : ∀ l : List Nat, (repl c z l).length ≤ z.length * l.length
  | [] => Nat.zero_le _
  | d :: r => by
    have ih := repl_len c z hz r
    rw [repl_cons, List.length_append, List.length_cons, Nat.mul_add]
    split
    · omega
    · simp only [List.length_cons, List.length_nil]; omega
end Mine
end
section
open PySem PySem.W PySem.Spec PySem.Calls PyProof.Rows PyProof
namespace Mine
theorem fillE : PySem.Challenge.rw_sw0075_01 = PySem.Challenge.rw_sw0075_01 ∧ hd.heap_39 = hd.heap_39 := by
  k_with_none
  w_top off
  k_fill
  exact ⟨rfl, rfl⟩
theorem esc_no {r : List Nat} (ho : ∀ c ∈ r, c = 60 ∨ c = 62) {k : Nat} (hk : k ∉ [60, 62]) : decide (k ∈ r) = false := decide_eq_false fun hm => hk (by rcases ho k hm with rfl | rfl <;> decide)
theorem esc_no2 {r : List Nat} (ho : ∀ c ∈ r, c = 60 ∨ c = 62) {k : Nat} (hk : k ∉ [60, 62, 38, 108, 116, 59, 103]) : decide (k ∈ escN r) = false := decide_eq_false fun hm => hk (by
  rcases repl_mem hm with h | h
  · exact (show ∀ k ∈ gtS, k ∈ [60, 62, 38, 108, 116, 59, 103] by decide) k h
  rcases repl_mem h with h | h
  · exact (show ∀ k ∈ ltS, k ∈ [60, 62, 38, 108, 116, 59, 103] by decide) k h
  · rcases ho k h with rfl | rfl <;> decide)
theorem esc_len {r : List Nat} (hr : r.length ≤ 10) : (repl 60 ltS r).length ≤ 1000 := by
  have := repl_len 60 ltS (by decide) r
  have e : ltS.length = 4 := rfl
  rw [e] at this
  omega
theorem esc_62 {r : List Nat} (h : 62 ∉ r) : 62 ∉ repl 60 ltS r := fun hm => by
  rcases repl_mem hm with q | q
  · exact (show 62 ∉ ltS by decide) q
  · exact h q
set_option maxHeartbeats 1000000 in
theorem esc1_c {w : World} {mean : ExcName → Option Value} {mg mb : Str → Option Value} {r : List Nat} {tx : Tok}
   {dp un : Nat} {gd : Option (List Code)} {cn : Str} {cs : Scope} {a : Addr} {ccd : Value} {cl : List (Str × Addr)} {outer : List Env} {A₀ : Around} {base h₀ : Heap} {L : Addr} {m : Str → Option Value} {s : Shared} {Q E : Value → Shared → Prop}
   (B : Below A₀ base outer h₀) (F : Fr h₀ L s.heap m) (X : (hd.heap_39 w.params).In h₀) (T : Top hd.view_39 LOOSE mean mg mb h₀) (hck : cs.kind = .function) (hdp : dp + 2 < recursionLimit) (hun : un + 16 < cLine)
   (hr : r.length ≤ 10) (ho : ∀ c ∈ r, c = 60 ∨ c = 62)
   (hret : ∀ t h' tk', Fr h₀ L h' m → s.heap.StaysIn h' → Q (.str (S (escN r)) t) { s with heap := h', toks := tk' }) :
   wpAny (model PySem.Challenge.rw_sw0075_01.row.prog w) (ktrTop dp un gd cn cs L a ccd cl outer) (call (.ref 223) [.str (S r) tx]) Q E s := by
  refine wpAny_call ?_
  k_dflt (refine' enterK (ps := [(Str.ofString "text", .str (S r) tx)]) ?k1 ?k2 ?k3 ?k5 ?kA ?kF ?kK ?k6 ?k7 ?k8 ?k9 ?kB ?kP ?_ ?c2 ?c3 ?c4 ?c5; (case kA => exact rfl); (case kF => exact rfl); (case kK => assumption); (case k1 => k_asm); (case k2 => k_asm); (case k3 => k_asm); (case k5 => k_asm); (case k6 => k_is); (case k7 => k_is); (case k8 => ktr_room); (case k9 => exact BindsTo.of_eq rfl); (case c5 => decide); (case kB => exact locs rfl); (case kP => exact rfl); (case c2 => exact rfl); (case c3 => exact rfl); (case c4 => exact rfl); k_whole; intro L' h' F' N' B' X' T'; (try dsimp only); (try k_fold))
  have hlr : r.length ≤ 1000 := by omega
  k_with "execs cons" => (k_here; (first | refine gentoks ?_ | refine gentoksL ?_); intro tk htk)
  by_cases h60 : 60 ∈ r
  · have h60' : decide (60 ∈ r) = true := decide_eq_true h60
    have hlr1 := esc_len hr
    by_cases h62 : 62 ∈ r
    · have h62' : decide (62 ∈ repl 60 ltS r) = true := decide_eq_true (repl_keeps h62 (by decide))
      have eF : escN r = repl 62 gtS (repl 60 ltS r) := rfl
      have noF : ∀ {k : Nat} (hk : k ∉ [60, 62, 38, 108, 116, 59, 103]), decide (k ∈ repl 62 gtS (repl 60 ltS r)) = false := esc_no2 ho
      k_with "call builtin:str.replace" => (k_here; (first | refine rep_S (c := 60) (k := ltS) rfl rfl (by decide) htk rfl hlr (by decide) ?_ | refine rep_S (c := 62) (k := gtS) rfl rfl (by decide) htk rfl hlr1 (by decide) ?_); intro t9 k9 hk9; (have htk := Nat.lt_of_lt_of_le (Nat.lt_succ_of_lt (Nat.lt_succ_of_lt htk)) hk9))
      k_with "compareOp In str str" => first
        | refine in_S (c := 38) rfl (esc_no ho (by decide)) ?_
        | refine in_S (c := 60) rfl h60' ?_
        | refine in_S (c := 62) rfl h62' ?_
        | refine in_S (c := 34) rfl (noF (k := 34) (by decide)) ?_
        | refine in_S (c := 13) rfl (noF (k := 13) (by decide)) ?_
        | refine in_S (c := 10) rfl (noF (k := 10) (by decide)) ?_
        | refine in_S (c := 9) rfl (noF (k := 9) (by decide)) ?_
      k_steps
      rw [← eF]
      exact hret _ _ _ (by assumption) (Fr.keep (by assumption))
    · have h62' : decide (62 ∈ repl 60 ltS r) = false := decide_eq_false (esc_62 h62)
      have eF : escN r = repl 60 ltS r := repl_free (esc_62 h62)
      have noF : ∀ {k : Nat} (hk : k ∉ [60, 62, 38, 108, 116, 59, 103]), decide (k ∈ repl 60 ltS r) = false := eF ▸ esc_no2 ho
      k_with "call builtin:str.replace" => (k_here; (first | refine rep_S (c := 60) (k := ltS) rfl rfl (by decide) htk rfl hlr (by decide) ?_ | refine rep_S (c := 62) (k := gtS) rfl rfl (by decide) htk rfl hlr1 (by decide) ?_); intro t9 k9 hk9; (have htk := Nat.lt_of_lt_of_le (Nat.lt_succ_of_lt (Nat.lt_succ_of_lt htk)) hk9))
      k_with "compareOp In str str" => first
        | refine in_S (c := 38) rfl (esc_no ho (by decide)) ?_
        | refine in_S (c := 60) rfl h60' ?_
        | refine in_S (c := 62) rfl h62' ?_
        | refine in_S (c := 34) rfl (noF (k := 34) (by decide)) ?_
        | refine in_S (c := 13) rfl (noF (k := 13) (by decide)) ?_
        | refine in_S (c := 10) rfl (noF (k := 10) (by decide)) ?_
        | refine in_S (c := 9) rfl (noF (k := 9) (by decide)) ?_
      k_steps
      rw [← eF]
      exact hret _ _ _ (by assumption) (Fr.keep (by assumption))
  · have h60' : decide (60 ∈ r) = false := decide_eq_false h60
    have hlr1 := hlr
    have e1 : repl 60 ltS r = r := repl_free h60
    by_cases h62 : 62 ∈ r
    · have h62' : decide (62 ∈ r) = true := decide_eq_true h62
      have eF : escN r = repl 62 gtS r := by unfold escN; rw [e1]
      have noF : ∀ {k : Nat} (hk : k ∉ [60, 62, 38, 108, 116, 59, 103]), decide (k ∈ repl 62 gtS r) = false := eF ▸ esc_no2 ho
      k_with "call builtin:str.replace" => (k_here; (first | refine rep_S (c := 60) (k := ltS) rfl rfl (by decide) htk rfl hlr (by decide) ?_ | refine rep_S (c := 62) (k := gtS) rfl rfl (by decide) htk rfl hlr1 (by decide) ?_); intro t9 k9 hk9; (have htk := Nat.lt_of_lt_of_le (Nat.lt_succ_of_lt (Nat.lt_succ_of_lt htk)) hk9))
      k_with "compareOp In str str" => first
        | refine in_S (c := 38) rfl (esc_no ho (by decide)) ?_
        | refine in_S (c := 60) rfl h60' ?_
        | refine in_S (c := 62) rfl h62' ?_
        | refine in_S (c := 34) rfl (noF (k := 34) (by decide)) ?_
        | refine in_S (c := 13) rfl (noF (k := 13) (by decide)) ?_
        | refine in_S (c := 10) rfl (noF (k := 10) (by decide)) ?_
        | refine in_S (c := 9) rfl (noF (k := 9) (by decide)) ?_
      k_steps
      rw [← eF]
      exact hret _ _ _ (by assumption) (Fr.keep (by assumption))
    · have h62' : decide (62 ∈ r) = false := decide_eq_false h62
      have eF : escN r = r := by unfold escN; rw [e1]; exact repl_free h62
      have noF : ∀ {k : Nat} (hk : k ∉ [60, 62, 38, 108, 116, 59, 103]), decide (k ∈ r) = false := fun hk => by have z := esc_no2 ho hk; rw [eF] at z; exact z
      k_with "call builtin:str.replace" => (k_here; (first | refine rep_S (c := 60) (k := ltS) rfl rfl (by decide) htk rfl hlr (by decide) ?_ | refine rep_S (c := 62) (k := gtS) rfl rfl (by decide) htk rfl hlr1 (by decide) ?_); intro t9 k9 hk9; (have htk := Nat.lt_of_lt_of_le (Nat.lt_succ_of_lt (Nat.lt_succ_of_lt htk)) hk9))
      k_with "compareOp In str str" => first
        | refine in_S (c := 38) rfl (esc_no ho (by decide)) ?_
        | refine in_S (c := 60) rfl h60' ?_
        | refine in_S (c := 62) rfl h62' ?_
        | refine in_S (c := 34) rfl (noF (k := 34) (by decide)) ?_
        | refine in_S (c := 13) rfl (noF (k := 13) (by decide)) ?_
        | refine in_S (c := 10) rfl (noF (k := 10) (by decide)) ?_
        | refine in_S (c := 9) rfl (noF (k := 9) (by decide)) ?_
      k_steps
      rw [← eF]
      exact hret _ _ _ (by assumption) (Fr.keep (by assumption))
set_option maxHeartbeats 1000000 in
theorem esc2_c {w : World} {mean : ExcName → Option Value} {mg mb : Str → Option Value} {r : List Nat} {tx : Tok}
   {dp un : Nat} {gd : Option (List Code)} {cn : Str} {cs : Scope} {a : Addr} {ccd : Value} {cl : List (Str × Addr)} {outer : List Env} {A₀ : Around} {base h₀ : Heap} {L : Addr} {m : Str → Option Value} {s : Shared} {Q E : Value → Shared → Prop}
   (B : Below A₀ base outer h₀) (F : Fr h₀ L s.heap m) (X : (hd.heap_39 w.params).In h₀) (T : Top hd.view_39 LOOSE mean mg mb h₀) (hck : cs.kind = .function) (hdp : dp + 2 < recursionLimit) (hun : un + 16 < cLine)
   (hr : r.length ≤ 10) (ho : ∀ c ∈ r, c = 60 ∨ c = 62)
   (hret : ∀ t h' tk', Fr h₀ L h' m → s.heap.StaysIn h' → Q (.str (S (escN r)) t) { s with heap := h', toks := tk' }) :
   wpAny (model PySem.Challenge.rw_sw0075_01.row.prog w) (ktrTop dp un gd cn cs L a ccd cl outer) (call (.ref 230) [.str (S r) tx]) Q E s := by
  refine wpAny_call ?_
  k_dflt (refine' enterK (ps := [(Str.ofString "text", .str (S r) tx)]) ?k1 ?k2 ?k3 ?k5 ?kA ?kF ?kK ?k6 ?k7 ?k8 ?k9 ?kB ?kP ?_ ?c2 ?c3 ?c4 ?c5; (case kA => exact rfl); (case kF => exact rfl); (case kK => assumption); (case k1 => k_asm); (case k2 => k_asm); (case k3 => k_asm); (case k5 => k_asm); (case k6 => k_is); (case k7 => k_is); (case k8 => ktr_room); (case k9 => exact BindsTo.of_eq rfl); (case c5 => decide); (case kB => exact locs rfl); (case kP => exact rfl); (case c2 => exact rfl); (case c3 => exact rfl); (case c4 => exact rfl); k_whole; intro L' h' F' N' B' X' T'; (try dsimp only); (try k_fold))
  have hlr : r.length ≤ 1000 := by omega
  k_with "execs cons" => (k_here; (first | refine gentoks ?_ | refine gentoksL ?_); intro tk htk)
  by_cases h60 : 60 ∈ r
  · have h60' : decide (60 ∈ r) = true := decide_eq_true h60
    have hlr1 := esc_len hr
    by_cases h62 : 62 ∈ r
    · have h62' : decide (62 ∈ repl 60 ltS r) = true := decide_eq_true (repl_keeps h62 (by decide))
      have eF : escN r = repl 62 gtS (repl 60 ltS r) := rfl
      have noF : ∀ {k : Nat} (hk : k ∉ [60, 62, 38, 108, 116, 59, 103]), decide (k ∈ repl 62 gtS (repl 60 ltS r)) = false := esc_no2 ho
      k_with "call builtin:str.replace" => (k_here; (first | refine rep_S (c := 60) (k := ltS) rfl rfl (by decide) htk rfl hlr (by decide) ?_ | refine rep_S (c := 62) (k := gtS) rfl rfl (by decide) htk rfl hlr1 (by decide) ?_); intro t9 k9 hk9; (have htk := Nat.lt_of_lt_of_le (Nat.lt_succ_of_lt (Nat.lt_succ_of_lt htk)) hk9))
      k_with "compareOp In str str" => first
        | refine in_S (c := 38) rfl (esc_no ho (by decide)) ?_
        | refine in_S (c := 60) rfl h60' ?_
        | refine in_S (c := 62) rfl h62' ?_
        | refine in_S (c := 34) rfl (noF (k := 34) (by decide)) ?_
        | refine in_S (c := 13) rfl (noF (k := 13) (by decide)) ?_
        | refine in_S (c := 10) rfl (noF (k := 10) (by decide)) ?_
        | refine in_S (c := 9) rfl (noF (k := 9) (by decide)) ?_
      k_steps
      rw [← eF]
      exact hret _ _ _ (by assumption) (Fr.keep (by assumption))
    · have h62' : decide (62 ∈ repl 60 ltS r) = false := decide_eq_false (esc_62 h62)
      have eF : escN r = repl 60 ltS r := repl_free (esc_62 h62)
      have noF : ∀ {k : Nat} (hk : k ∉ [60, 62, 38, 108, 116, 59, 103]), decide (k ∈ repl 60 ltS r) = false := eF ▸ esc_no2 ho
      k_with "call builtin:str.replace" => (k_here; (first | refine rep_S (c := 60) (k := ltS) rfl rfl (by decide) htk rfl hlr (by decide) ?_ | refine rep_S (c := 62) (k := gtS) rfl rfl (by decide) htk rfl hlr1 (by decide) ?_); intro t9 k9 hk9; (have htk := Nat.lt_of_lt_of_le (Nat.lt_succ_of_lt (Nat.lt_succ_of_lt htk)) hk9))
      k_with "compareOp In str str" => first
        | refine in_S (c := 38) rfl (esc_no ho (by decide)) ?_
        | refine in_S (c := 60) rfl h60' ?_
        | refine in_S (c := 62) rfl h62' ?_
        | refine in_S (c := 34) rfl (noF (k := 34) (by decide)) ?_
        | refine in_S (c := 13) rfl (noF (k := 13) (by decide)) ?_
        | refine in_S (c := 10) rfl (noF (k := 10) (by decide)) ?_
        | refine in_S (c := 9) rfl (noF (k := 9) (by decide)) ?_
      k_steps
      rw [← eF]
      exact hret _ _ _ (by assumption) (Fr.keep (by assumption))
  · have h60' : decide (60 ∈ r) = false := decide_eq_false h60
    have hlr1 := hlr
    have e1 : repl 60 ltS r = r := repl_free h60
    by_cases h62 : 62 ∈ r
    · have h62' : decide (62 ∈ r) = true := decide_eq_true h62
      have eF : escN r = repl 62 gtS r := by unfold escN; rw [e1]
      have noF : ∀ {k : Nat} (hk : k ∉ [60, 62, 38, 108, 116, 59, 103]), decide (k ∈ repl 62 gtS r) = false := eF ▸ esc_no2 ho
      k_with "call builtin:str.replace" => (k_here; (first | refine rep_S (c := 60) (k := ltS) rfl rfl (by decide) htk rfl hlr (by decide) ?_ | refine rep_S (c := 62) (k := gtS) rfl rfl (by decide) htk rfl hlr1 (by decide) ?_); intro t9 k9 hk9; (have htk := Nat.lt_of_lt_of_le (Nat.lt_succ_of_lt (Nat.lt_succ_of_lt htk)) hk9))
      k_with "compareOp In str str" => first
        | refine in_S (c := 38) rfl (esc_no ho (by decide)) ?_
        | refine in_S (c := 60) rfl h60' ?_
        | refine in_S (c := 62) rfl h62' ?_
        | refine in_S (c := 34) rfl (noF (k := 34) (by decide)) ?_
        | refine in_S (c := 13) rfl (noF (k := 13) (by decide)) ?_
        | refine in_S (c := 10) rfl (noF (k := 10) (by decide)) ?_
        | refine in_S (c := 9) rfl (noF (k := 9) (by decide)) ?_
      k_steps
      rw [← eF]
      exact hret _ _ _ (by assumption) (Fr.keep (by assumption))
    · have h62' : decide (62 ∈ r) = false := decide_eq_false h62
      have eF : escN r = r := by unfold escN; rw [e1]; exact repl_free h62
      have noF : ∀ {k : Nat} (hk : k ∉ [60, 62, 38, 108, 116, 59, 103]), decide (k ∈ r) = false := fun hk => by have z := esc_no2 ho hk; rw [eF] at z; exact z
      k_with "call builtin:str.replace" => (k_here; (first | refine rep_S (c := 60) (k := ltS) rfl rfl (by decide) htk rfl hlr (by decide) ?_ | refine rep_S (c := 62) (k := gtS) rfl rfl (by decide) htk rfl hlr1 (by decide) ?_); intro t9 k9 hk9; (have htk := Nat.lt_of_lt_of_le (Nat.lt_succ_of_lt (Nat.lt_succ_of_lt htk)) hk9))
      k_with "compareOp In str str" => first
        | refine in_S (c := 38) rfl (esc_no ho (by decide)) ?_
        | refine in_S (c := 60) rfl h60' ?_
        | refine in_S (c := 62) rfl h62' ?_
        | refine in_S (c := 34) rfl (noF (k := 34) (by decide)) ?_
        | refine in_S (c := 13) rfl (noF (k := 13) (by decide)) ?_
        | refine in_S (c := 10) rfl (noF (k := 10) (by decide)) ?_
        | refine in_S (c := 9) rfl (noF (k := 9) (by decide)) ?_
      k_steps
      rw [← eF]
      exact hret _ _ _ (by assumption) (Fr.keep (by assumption))
set_option maxHeartbeats 1000000 in
theorem esc3_c {w : World} {mean : ExcName → Option Value} {mg mb : Str → Option Value} {r : List Nat} {tx : Tok}
   {dp un : Nat} {gd : Option (List Code)} {cn : Str} {cs : Scope} {a : Addr} {ccd : Value} {cl : List (Str × Addr)} {outer : List Env} {A₀ : Around} {base h₀ : Heap} {L : Addr} {m : Str → Option Value} {s : Shared} {Q E : Value → Shared → Prop}
   (B : Below A₀ base outer h₀) (F : Fr h₀ L s.heap m) (X : (hd.heap_39 w.params).In h₀) (T : Top hd.view_39 LOOSE mean mg mb h₀) (hck : cs.kind = .function) (hdp : dp + 2 < recursionLimit) (hun : un + 16 < cLine)
   (hr : r.length ≤ 10) (ho : ∀ c ∈ r, c = 60 ∨ c = 62)
   (hret : ∀ t h' tk', Fr h₀ L h' m → s.heap.StaysIn h' → Q (.str (S (escN r)) t) { s with heap := h', toks := tk' }) :
   wpAny (model PySem.Challenge.rw_sw0075_01.row.prog w) (ktrTop dp un gd cn cs L a ccd cl outer) (call (.ref 237) [.str (S r) tx]) Q E s := by
  refine wpAny_call ?_
  k_dflt (refine' enterK (ps := [(Str.ofString "text", .str (S r) tx)]) ?k1 ?k2 ?k3 ?k5 ?kA ?kF ?kK ?k6 ?k7 ?k8 ?k9 ?kB ?kP ?_ ?c2 ?c3 ?c4 ?c5; (case kA => exact rfl); (case kF => exact rfl); (case kK => assumption); (case k1 => k_asm); (case k2 => k_asm); (case k3 => k_asm); (case k5 => k_asm); (case k6 => k_is); (case k7 => k_is); (case k8 => ktr_room); (case k9 => exact BindsTo.of_eq rfl); (case c5 => decide); (case kB => exact locs rfl); (case kP => exact rfl); (case c2 => exact rfl); (case c3 => exact rfl); (case c4 => exact rfl); k_whole; intro L' h' F' N' B' X' T'; (try dsimp only); (try k_fold))
  have hlr : r.length ≤ 1000 := by omega
  k_with "execs cons" => (k_here; (first | refine gentoks ?_ | refine gentoksL ?_); intro tk htk)
  by_cases h60 : 60 ∈ r
  · have h60' : decide (60 ∈ r) = true := decide_eq_true h60
    have hlr1 := esc_len hr
    by_cases h62 : 62 ∈ r
    · have h62' : decide (62 ∈ repl 60 ltS r) = true := decide_eq_true (repl_keeps h62 (by decide))
      have eF : escN r = repl 62 gtS (repl 60 ltS r) := rfl
      have noF : ∀ {k : Nat} (hk : k ∉ [60, 62, 38, 108, 116, 59, 103]), decide (k ∈ repl 62 gtS (repl 60 ltS r)) = false := esc_no2 ho
      k_with "call builtin:str.replace" => (k_here; (first | refine rep_S (c := 60) (k := ltS) rfl rfl (by decide) htk rfl hlr (by decide) ?_ | refine rep_S (c := 62) (k := gtS) rfl rfl (by decide) htk rfl hlr1 (by decide) ?_); intro t9 k9 hk9; (have htk := Nat.lt_of_lt_of_le (Nat.lt_succ_of_lt (Nat.lt_succ_of_lt htk)) hk9))
      k_with "compareOp In str str" => first
        | refine in_S (c := 38) rfl (esc_no ho (by decide)) ?_
        | refine in_S (c := 60) rfl h60' ?_
        | refine in_S (c := 62) rfl h62' ?_
        | refine in_S (c := 34) rfl (noF (k := 34) (by decide)) ?_
        | refine in_S (c := 13) rfl (noF (k := 13) (by decide)) ?_
        | refine in_S (c := 10) rfl (noF (k := 10) (by decide)) ?_
        | refine in_S (c := 9) rfl (noF (k := 9) (by decide)) ?_
      k_steps
      rw [← eF]
      exact hret _ _ _ (by assumption) (Fr.keep (by assumption))
    · have h62' : decide (62 ∈ repl 60 ltS r) = false := decide_eq_false (esc_62 h62)
      have eF : escN r = repl 60 ltS r := repl_free (esc_62 h62)
      have noF : ∀ {k : Nat} (hk : k ∉ [60, 62, 38, 108, 116, 59, 103]), decide (k ∈ repl 60 ltS r) = false := eF ▸ esc_no2 ho
      k_with "call builtin:str.replace" => (k_here; (first | refine rep_S (c := 60) (k := ltS) rfl rfl (by decide) htk rfl hlr (by decide) ?_ | refine rep_S (c := 62) (k := gtS) rfl rfl (by decide) htk rfl hlr1 (by decide) ?_); intro t9 k9 hk9; (have htk := Nat.lt_of_lt_of_le (Nat.lt_succ_of_lt (Nat.lt_succ_of_lt htk)) hk9))
      k_with "compareOp In str str" => first
        | refine in_S (c := 38) rfl (esc_no ho (by decide)) ?_
        | refine in_S (c := 60) rfl h60' ?_
        | refine in_S (c := 62) rfl h62' ?_
        | refine in_S (c := 34) rfl (noF (k := 34) (by decide)) ?_
        | refine in_S (c := 13) rfl (noF (k := 13) (by decide)) ?_
        | refine in_S (c := 10) rfl (noF (k := 10) (by decide)) ?_
        | refine in_S (c := 9) rfl (noF (k := 9) (by decide)) ?_
      k_steps
      rw [← eF]
      exact hret _ _ _ (by assumption) (Fr.keep (by assumption))
  · have h60' : decide (60 ∈ r) = false := decide_eq_false h60
    have hlr1 := hlr
    have e1 : repl 60 ltS r = r := repl_free h60
    by_cases h62 : 62 ∈ r
    · have h62' : decide (62 ∈ r) = true := decide_eq_true h62
      have eF : escN r = repl 62 gtS r := by unfold escN; rw [e1]
      have noF : ∀ {k : Nat} (hk : k ∉ [60, 62, 38, 108, 116, 59, 103]), decide (k ∈ repl 62 gtS r) = false := eF ▸ esc_no2 ho
      k_with "call builtin:str.replace" => (k_here; (first | refine rep_S (c := 60) (k := ltS) rfl rfl (by decide) htk rfl hlr (by decide) ?_ | refine rep_S (c := 62) (k := gtS) rfl rfl (by decide) htk rfl hlr1 (by decide) ?_); intro t9 k9 hk9; (have htk := Nat.lt_of_lt_of_le (Nat.lt_succ_of_lt (Nat.lt_succ_of_lt htk)) hk9))
      k_with "compareOp In str str" => first
        | refine in_S (c := 38) rfl (esc_no ho (by decide)) ?_
        | refine in_S (c := 60) rfl h60' ?_
        | refine in_S (c := 62) rfl h62' ?_
        | refine in_S (c := 34) rfl (noF (k := 34) (by decide)) ?_
        | refine in_S (c := 13) rfl (noF (k := 13) (by decide)) ?_
        | refine in_S (c := 10) rfl (noF (k := 10) (by decide)) ?_
        | refine in_S (c := 9) rfl (noF (k := 9) (by decide)) ?_
      k_steps
      rw [← eF]
      exact hret _ _ _ (by assumption) (Fr.keep (by assumption))
    · have h62' : decide (62 ∈ r) = false := decide_eq_false h62
      have eF : escN r = r := by unfold escN; rw [e1]; exact repl_free h62
      have noF : ∀ {k : Nat} (hk : k ∉ [60, 62, 38, 108, 116, 59, 103]), decide (k ∈ r) = false := fun hk => by have z := esc_no2 ho hk; rw [eF] at z; exact z
      k_with "call builtin:str.replace" => (k_here; (first | refine rep_S (c := 60) (k := ltS) rfl rfl (by decide) htk rfl hlr (by decide) ?_ | refine rep_S (c := 62) (k := gtS) rfl rfl (by decide) htk rfl hlr1 (by decide) ?_); intro t9 k9 hk9; (have htk := Nat.lt_of_lt_of_le (Nat.lt_succ_of_lt (Nat.lt_succ_of_lt htk)) hk9))
      k_with "compareOp In str str" => first
        | refine in_S (c := 38) rfl (esc_no ho (by decide)) ?_
        | refine in_S (c := 60) rfl h60' ?_
        | refine in_S (c := 62) rfl h62' ?_
        | refine in_S (c := 34) rfl (noF (k := 34) (by decide)) ?_
        | refine in_S (c := 13) rfl (noF (k := 13) (by decide)) ?_
        | refine in_S (c := 10) rfl (noF (k := 10) (by decide)) ?_
        | refine in_S (c := 9) rfl (noF (k := 9) (by decide)) ?_
      k_steps
      rw [← eF]
      exact hret _ _ _ (by assumption) (Fr.keep (by assumption))
end Mine
end
section
open PySem PySem.W PySem.Spec PySem.Calls PyProof.Rows PyProof
namespace Mine
theorem re_slot : Slot "re.Pattern" "search" "re.Pattern.search" :=
  .of (owner := "re.Pattern") (n := "search") (by rw [typeLookup_type, builtinLookup_eq_fast]; kernel_rfl) (by decide +kernel) (by decide +kernel) (by decide +kernel)
    (by first | exact .inl (by decide +kernel) | exact .inr (by decide +kernel)) (by rw [isSubtype_type]; kernel_rfl)
theorem re_type : typeOf (.builtin "re.Pattern.search") = pure (.type "method_descriptor") := by show builtinType _ = _; rw [builtinType_eq_fast]; kernel_rfl
theorem re_entry : entryFor table "re.Pattern.search" = some Builtin.«re.Pattern.search» := entryFor_of_tree (by kernel_rfl)
theorem re_plain : PlainAttrs "re.Pattern" :=
  ⟨⟨"object.__getattribute__", by rw [typeLookup_type, builtinLookup_eq_fast]; kernel_rfl, by decide +kernel⟩, by rw [typeLookup_type, builtinLookup_eq_fast]; kernel_rfl⟩
theorem re_owner : Manifest.owners.lookup (String.ofList ['n','r','e','t','t','a','P','.','e','r'].reverse) = some Manifest.sig_re_Pattern := by kernel_rfl
theorem re_args (a b : Value) : argsOk "re.Pattern.search" ⟨[a, b], []⟩ := by
  unfold argsOk; rw [signature?_of (id := "re.Pattern.search") (n := ['h', 'c', 'r', 'a', 'e', 's']) (o := ['n','r','e','t','t','a','P','.','e','r']) (by kernel_rfl) re_owner]; kernel_rfl
end Mine
namespace Mine
open PySem.Builtin PySem.Builtin.Re
def nameCode : Array Nat := #[14, 10, 4, 1, 1, 22, 0, 31, 16, 127, 0, 13, 7, 22, 0, 31, 16, 127, 0, 1]
def valueCode : Array Nat := #[14, 14, 4, 1, 1, 9, 4294966783, 0, 0, 2147483648, 0, 0, 0, 0, 0, 13, 11, 9, 4294966783, 0, 0, 2147483648, 0, 0, 0, 0, 0, 1]
def plainSigns : List Nat := [38, 59, 103, 108, 116, 110, 112]
def refuses (code : Array Nat) (c : Nat) : Prop := ∀ seen, ∃ seen', Sre.inSet code c code.size 5 true seen = .ok (false, seen')
theorem ref_name : ∀ c ∈ plainSigns, refuses nameCode c := by
  intro c hc seen
  simp only [plainSigns, List.mem_cons, List.not_mem_nil, or_false] at hc
  rcases hc with rfl | rfl | rfl | rfl | rfl | rfl | rfl <;> exact ⟨_, rfl⟩
theorem ref_value : ∀ c ∈ plainSigns, refuses valueCode c := by
  intro c hc seen
  simp only [plainSigns, List.mem_cons, List.not_mem_nil, or_false] at hc
  rcases hc with rfl | rfl | rfl | rfl | rfl | rfl | rfl <;> exact ⟨_, rfl⟩
theorem admitted_none {m : Sre.M} (h : ∀ s, s < m.lim → refuses m.code (m.text.getD s 0)) : ∀ (fuel s : Nat) (seen : Sre.Seen), ∃ seen', Sre.M.admitted m fuel s seen = .ok (none, seen')
  | 0, s, seen => ⟨seen, rfl⟩
  | fuel + 1, s, seen => by
    unfold Sre.M.admitted
    by_cases hs : s ≥ m.lim
    · rw [if_pos hs]; exact ⟨_, rfl⟩
    · rw [if_neg hs]
      obtain ⟨seen', e⟩ := h s (by omega) seen
      rw [e]
      exact admitted_none h fuel (s + 1) seen'
theorem drive_no {m : Sre.M} (ho : m.outcome = none) (ha : m.answer = some false) (hf : m.frames = []) : reDrive (2 ^ 64) m = pure { m with outcome := some .failed } := by
  have e : (2 : Nat) ^ 64 = (2 ^ 64 - 1) + 1 := by decide
  rw [e]
  have hs : m.step = { m with outcome := some .failed } := by
    unfold Sre.M.step
    rw [ho, ha, hf]
    rfl
  have hr : m.runFor reTurnSteps = { m with outcome := some .failed } := by
    show (if m.outcome.isSome then m else Sre.M.runFor 3 m.step) = _
    rw [ho, hs]
    rfl
  unfold reDrive
  rw [hr]
  rfl
def NoM (m : Sre.M) : Prop := m.outcome = none ∧ m.answer = some false ∧ m.frames = []
theorem attempt_no {m : Sre.M} {i : Nat} {b : Bool} (h : ∀ s, s < m.lim → refuses m.code (m.text.getD s 0)) (h1 : m.hasFirstSet = true) (h2 : m.outcome = none) (h3 : m.frames = []) : NoM (m.attemptFrom i b) := by
  unfold Sre.M.attemptFrom
  rw [h1]
  obtain ⟨seen', e⟩ := admitted_none h (m.lim + 1 - i) i m.seen
  rw [e]
  exact ⟨h2, rfl, h3⟩
theorem search_no {code : Array Nat} {text : Array Nat} (h : ∀ c ∈ text.toList, refuses code c) (hc : code = nameCode ∨ code = valueCode) : NoM (Sre.forSearch code text 0 0 text.size false) := by
  unfold Sre.forSearch
  dsimp only
  split
  · exact ⟨rfl, rfl, rfl⟩
  · refine attempt_no (fun s hs => ?_) ?_ rfl rfl
    · have hs' : s < text.size := hs
      show refuses code (text.getD s 0)
      have e : text.getD s 0 = text[s] := by simp [Array.getD, hs']
      rw [e]
      exact h _ (by simp)
    · rcases hc with rfl | rfl <;> rfl
section
variable {prog : Program} {w : World} {A : Around} {E : Value → Shared → Prop} {s : Shared}
theorem run_no {m : Sre.M} {Q : Option Sre.M → Shared → Prop} (hm : NoM m) (hq : Q none s) : wpAny (model prog w) A (reRunToEnd m) Q E s := by
  unfold reRunToEnd
  refine wpAny_bind ?_
  rw [drive_no hm.1 hm.2.1 hm.2.2]
  refine wpAny_pure ?_
  refine wpAny_bind (wpAny_forIn_list _ (fun _ _ s' => s' = s) _ (fun x rest b s' hs => ?_) (fun b s' hs => ?_) _ _ rfl)
  · subst hs
    dsimp only
    refine wpAny_ite ?_
    split
    · exact wpAny_bind (wpAny_rule (wpAny_pure rfl))
    · exact wpAny_pure rfl
  · subst hs
    exact wpAny_pure hq
theorem named_eq (v : Value) : reNamed "re.Pattern.search" "search" ["string", "pos", "endpos"] 1 [v] [] = pure [some v, none, none] := rfl
theorem search_call {a T : Addr} {fs ws : Array Value} {sl1 sl2 : Array (Option Value)} {n : Nat} {x : Str} {t : Tok} {code : Array Nat} {Q : Value → Shared → Prop}
    (ha : s.heap.get? a = some ⟨.type "re.Pattern", none, .fields fs, sl1⟩) (h5 : fs.getD 5 .none = .ref T) (h2 : reRawNat (fs.getD 2 .none) = 0) (h6 : reRawNat (fs.getD 6 .none) = 0)
    (hT : s.heap.get? T = some ⟨.type "tuple", none, .seq ws n, sl2⟩) (hw : (ws.map reRawOf).map (·.toNat) = code) (hc : code = nameCode ∨ code = valueCode)
    (hx : ∀ c ∈ x.cps.toList, refuses code c) (hz : x.cps.size < 2 ^ 62) (hq : Q .none s) : wpAny (model prog w) A (call (.builtin "re.Pattern.search") [.ref a, .str x t]) Q E s := by
  refine wpAny_call (codeAny_call_builtin re_slot.plain re_entry (re_slot.check _ _ _ _ _ _ _ _ ⟨_, ha, rfl⟩ (re_args _ _) ?_))
  unfold Builtin.«re.Pattern.search»
  refine wpAny_bind (wpAny_mono (Q := fun r s' => s' = s ∧ r.code = code ∧ r.text = x.cps ∧ r.groups = 0 ∧ r.pos = 0 ∧ r.lim = x.cps.size) ?_ (fun r s' hr => ?_) fun _ _ h => h)
  · unfold reTarget
    dsimp only
    rw [named_eq]
    refine wpAny_bind (wpAny_pure ?_)
    refine wpAny_bind (wpAny_pure ?_)
    refine wpAny_bind (wpAny_pure ?_)
    refine wpAny_bind (wpAny_fieldsOf ha rfl ?_)
    refine wpAny_bind (wpAny_pure ?_)
    rw [h6]
    dsimp only
    refine wpAny_ite ?_
    split
    · rename_i q; exact absurd q (by decide)
    refine wpAny_ite ?_
    split
    · rename_i q; exact absurd q (by decide)
    refine wpAny_bind ?_
    unfold reNoCollectionInside
    refine wpAny_ite ?_
    split
    · rename_i q; exact absurd q (by decide)
    refine wpAny_pure ?_
    unfold reRawItems
    rw [h5, h2]
    refine wpAny_bind (wpAny_bind (wpAny_seqItems hT rfl (wpAny_pure ?_)))
    refine wpAny_pure ⟨rfl, ?_, rfl, rfl, ?_, ?_⟩
    · exact hw
    · show min (0 : Nat) _ = 0
      exact Nat.zero_min _
    · show min (9223372036854775807 : Nat) x.cps.size = x.cps.size
      exact Nat.min_eq_right (by omega)
  · obtain ⟨rfl, e1, e2, e3, e4, e5⟩ := hr
    unfold reAnswer
    refine wpAny_bind (run_no ?_ ?_)
    · rw [e1, e2, e3, e4, e5]
      exact search_no hx hc
    · exact wpAny_pure hq
end
def PatAt (K : Frag) (a : Addr) (code : Array Nat) : Prop := ∃ fs sl1 ws n sl2 T, K.lookup a = some ⟨.type "re.Pattern", none, .fields fs, sl1⟩ ∧ fs.getD 5 .none = .ref T ∧ reRawNat (fs.getD 2 .none) = 0 ∧ reRawNat (fs.getD 6 .none) = 0 ∧
  K.lookup T = some ⟨.type "tuple", none, .seq ws n, sl2⟩ ∧ (ws.map reRawOf).map (·.toNat) = code
theorem pat69 (P : Params) : PatAt (hd.heap_39 P) 69 nameCode := ⟨_, _, _, _, _, 68, rfl, rfl, rfl, rfl, rfl, by decide +kernel⟩
theorem pat74 (P : Params) : PatAt (hd.heap_39 P) 74 valueCode := ⟨_, _, _, _, _, 73, rfl, rfl, rfl, rfl, rfl, by decide +kernel⟩
section
variable {prog : Program} {w : World} {A : Around} {E : Value → Shared → Prop} {s : Shared} {K : Frag} {a : Addr} {code : Array Nat}
theorem search_get {pl : Sem Bool} {Q : Value × List Value → Shared → Prop} (X : K.In s.heap) (P : PatAt K a code) (h : Q (.builtin "re.Pattern.search", [.ref a]) s) : wpAny (model prog w) A (getMethod (.ref a) "search" pl) Q E s := by
  obtain ⟨fs, sl1, ws, n, sl2, T, h1, h2, h3, h4, h5, h6⟩ := P
  exact getMethod_builtin ⟨_, X _ _ h1, rfl⟩ re_plain re_slot re_type (fun a e => by cases e; exact ⟨_, X _ _ h1, rfl⟩) h
theorem search_name {x : Str} {t : Tok} {Q : Value → Shared → Prop} (X : K.In s.heap) (P : PatAt K a nameCode) (hx : ∀ c ∈ x.cps.toList, c ∈ plainSigns) (hz : x.cps.size ≤ 1000) (h : Q .none s) : wpAny (model prog w) A (call (.builtin "re.Pattern.search") [.ref a, .str x t]) Q E s := by
  obtain ⟨fs, sl1, ws, n, sl2, T, h1, h2, h3, h4, h5, h6⟩ := P
  exact search_call (X _ _ h1) h2 h3 h4 (X _ _ h5) h6 (.inl rfl) (fun c hc => ref_name c (hx c hc)) (by omega) h
theorem search_value {x : Str} {t : Tok} {Q : Value → Shared → Prop} (X : K.In s.heap) (P : PatAt K a valueCode) (hx : ∀ c ∈ x.cps.toList, c ∈ plainSigns) (hz : x.cps.size ≤ 1000) (h : Q .none s) : wpAny (model prog w) A (call (.builtin "re.Pattern.search") [.ref a, .str x t]) Q E s := by
  obtain ⟨fs, sl1, ws, n, sl2, T, h1, h2, h3, h4, h5, h6⟩ := P
  exact search_call (X _ _ h1) h2 h3 h4 (X _ _ h5) h6 (.inr rfl) (fun c hc => ref_value c (hx c hc)) (by omega) h
end
end Mine
namespace Mine
section
variable {prog : Program} {w : World} {A : Around} {E : Value → Shared → Prop} {s : Shared} {x y z : Str} {t u v : Tok} {Q : Value → Shared → Prop}
theorem rep_free {l : List Nat} {c : Nat} (hx : x = S l) (hc : c ∉ l) (hy : y = S [c]) (hyz : (y == z) = false) (hu : 0 < u) (hv : v = u + 1) (hn : l.length ≤ 1000) (hk : z.length ≤ 14)
    (hq : ∀ t' k', s.toks ≤ k' → Q (.str x t') { s with toks := k' }) : wpAny (model prog w) A (call (.builtin "str.replace") [.str x t, .str y u, .str z v]) Q E s := by
  rw [← replace_free (z := z) hx hy hc] at hq
  subst hx hy
  refine replaceT (Nat.ne_of_gt hu) (by rw [hv]; exact Nat.succ_ne_zero _) (by rw [hv]; exact Nat.ne_of_lt (Nat.lt_succ_self _)) hyz ?_ hq
  rw [S_len]
  have : (l.length + 1) * z.length ≤ (l.length + 1) * 14 := Nat.mul_le_mul_left _ hk
  omega
end
end Mine
end
section
open PySem PySem.W PySem.Spec PySem.Calls PyProof.Rows PyProof
namespace Mine
section
variable {prog : Program} {w : World} {A : Around} {E : Value → Shared → Prop} {s : Shared} {y : Str} {t tx ty : Tok} {Q : Value → Shared → Prop} {b L : Addr} {n : Nat} {h₀ : Heap} {news : List (Addr × Obj)}
theorem mod_n (N : News h₀ L s.heap news) (hb : (b, ({ cls := .type "tuple", data := .seq #[.str (Str.ofString "n") tx, .str y ty] n } : Obj)) ∈ news) (hy : y.length ≤ 1000)
    (h : ∀ t' k, Q (.str (Str.ofString "n: " ++ y) t') { s with toks := k }) : wpAny (model prog w) A (binaryOp .Mod (.str (Str.ofString "%s: %s") t) (.ref b)) Q E s := by
  refine' KPt.mod_tuple ?kptN ?kptb ?kptF ?kptm ?_
  case kptN => exact N
  case kptb => exact hb
  case kptF => kpt_eq
  case kptm => kpt_run
  exact h
end
end Mine
end
section
open PySem PySem.W PySem.Spec PySem.Calls PyProof.Rows PyProof
namespace Mine
def tabL (x : List Nat) : List Nat := [110, 58, 32, 112, 61, 34] ++ x ++ [34, 13, 10, 13, 10]
def subsF : List Int → List (List Int) → List (List Int)
  | [], ps => ps
  | n :: r, ps => subsF r (ps ++ ps.map fun p => p ++ [n])
def unlike (a b : List Int) : Int := ((List.range a.length).filter fun k => a.getD k 0 ≠ b.getD k 0).length
def minL : List Int → Int
  | [] => 0
  | a :: r => r.foldl (fun m x => if x < m then x else m) a
def fewest (sh lo : List Int) : Int := minL (((subsF lo [[]]).filter fun p => p.length = sh.length).map fun p => unlike sh p)
def price1 (a b : List Int) : Int := 8 * ((b.length : Int) - a.length) + 2 * fewest a b
def price (a b : List Int) : Int := if b.length < a.length then price1 b a else price1 a b
def okPair (n k : Nat) : Bool :=
  let a := rowF 5 n
  let b := rowF 5 k
  let p := price a b
  decide (levF (escL a) (escL b) p = p) && decide (levF (tabL (escL b)) (tabL (escL a)) (p - 1) = p)
def okRow (n : Nat) : Bool := (List.range 30).all fun k => okPair n (k + 2)
theorem okRow2 : okRow 2 = true := by decide +kernel
theorem okRow3 : okRow 3 = true := by decide +kernel
theorem okRow4 : okRow 4 = true := by decide +kernel
theorem okRow5 : okRow 5 = true := by decide +kernel
theorem okRow6 : okRow 6 = true := by decide +kernel
theorem okRow7 : okRow 7 = true := by decide +kernel
theorem okRow8 : okRow 8 = true := by decide +kernel
theorem okRow9 : okRow 9 = true := by decide +kernel
theorem okRow10 : okRow 10 = true := by decide +kernel
theorem okRow11 : okRow 11 = true := by decide +kernel
theorem okRow12 : okRow 12 = true := by decide +kernel
theorem okRow13 : okRow 13 = true := by decide +kernel
theorem okRow14 : okRow 14 = true := by decide +kernel
theorem okRow15 : okRow 15 = true := by decide +kernel
theorem okRow16 : okRow 16 = true := by decide +kernel
theorem okRow17 : okRow 17 = true := by decide +kernel
theorem okRow18 : okRow 18 = true := by decide +kernel
theorem okRow19 : okRow 19 = true := by decide +kernel
theorem okRow20 : okRow 20 = true := by decide +kernel
theorem okRow21 : okRow 21 = true := by decide +kernel
theorem okRow22 : okRow 22 = true := by decide +kernel
theorem okRow23 : okRow 23 = true := by decide +kernel
theorem okRow24 : okRow 24 = true := by decide +kernel
theorem okRow25 : okRow 25 = true := by decide +kernel
theorem okRow26 : okRow 26 = true := by decide +kernel
theorem okRow27 : okRow 27 = true := by decide +kernel
theorem okRow28 : okRow 28 = true := by decide +kernel
theorem okRow29 : okRow 29 = true := by decide +kernel
theorem okRow30 : okRow 30 = true := by decide +kernel
theorem okRow31 : okRow 31 = true := by decide +kernel
end Mine
end
section
open PySem PySem.W PySem.Spec PySem.Calls PyProof.Rows PyProof
namespace Mine
section
variable {prog : Program} {w : World} {A₀ A : Around} {s : Shared} {base h₀ : Heap} {outer : List Env} {L : Addr} {m : Str → Option Value} {env : Env} {K : Frag} {mean : ExcName → Option Value} {mg mb : Str → Option Value} {p : Program} {loose : List Str}
  {R : Result → Shared → Prop} {name qual : Str} {params : Arguments} {body : List Stmt} {scope : Scope} {dV kV doc pm cdv ct oc : Value} {an od : Option Addr} {osl : Array (Option Value)} {f : Addr} {args : Args} {binds : List (Str × Value)}
/-- a def with cells, its base the whole heap of the call -/
theorem enterKC (B : Below A₀ base outer h₀) (F : Fr h₀ L s.heap m) (X₀ : K.In h₀) (T : Top p loose mean mg mb h₀) (hA : A.frames = some (env :: outer)) (hf : env.frame = some L) (hke : env.scope.kind = .function)
    (ho : K.lookup f = some ⟨oc, od, .func (fnOf name qual params body scope dV kV doc pm an cdv ct), osl⟩) (hcd : codeIn K cdv qual = true) (hroom : A.depth < recursionLimit)
    (hbind : BindsTo s (fnOf name qual params body scope dV kV doc pm an cdv ct) args binds) (hkind : (binds.all fun y => scope.names.lookup y.1 == some .local || scope.names.lookup y.1 == some .cell) = true)
    (hnd : ((cellsFrom 0 scope.names []).map (·.1)).Nodup)
    (h : ∀ L' h₁ tk cells, Fr s.heap L' h₁ (bindL (envOfC qual scope L' f cdv).kindOf binds fun _ => none) → News s.heap L' h₁ cells →
      CellsAre (bindC (envOfC qual scope L' f cdv).kindOf binds fun _ => none) (cellsFrom (L' + 1) scope.names []) cells → Below A base (env :: outer) s.heap → K.In s.heap → Top p loose mean mg mb s.heap →
      wpAny (model prog w) (A.deeper (envOfC qual scope L' f cdv)) (execs body (envOfC qual scope L' f cdv))
        (fun fl s' => LeaveK h₀ L m s.heap R (match fl with | .ret v => v | _ => .none) s')
        (fun e s' => wpAny (model prog w) (A.deeper (envOfC qual scope L' f cdv)) (leaving (envOfC qual scope L' f cdv) e) (fun _ s'' => R (.error e) s'') (fun e' s'' => R (.error e') s'') s')
        { s with heap := h₁, toks := tk })
    (hco : scope.isCoroutine = false) (hgen : scope.isGenerator = false) (hk : scope.kind = .function) : codeAny (model prog w) A (.call (.ref f) args) R s := by
  have N : News h₀ L s.heap [] := News.nil
  obtain ⟨FG, BG, _, lv⟩ := groundX (R := R) B F N hA hf hke
  have X := X₀.keeps F.keep
  refine codeAny_call_function hroom (X _ _ ho) rfl hco hgen rfl (codeRec_of X hcd) (hbind _ _ _ _ ?_)
  refine wpAny_newFunctionEnv_cells hk (kindsX hkind _) fun env' he s' x => ?_
  subst he
  refine ⟨(T.nolimit.keeps F.keep).keeps x.toInCall.keep, codeAny_func ?_⟩
  obtain ⟨h₁, tk, rfl, _⟩ := x.done
  have hk₁ := x.toInCall.keep
  obtain ⟨cells, NC, Y⟩ := Cl.news (h₀ := s.heap) (Nat.le_refl _) fun n c hm => ⟨x.cell n c (lookup_of_mem_nodup (cellsFrom_names scope.names 0 (s.heap.objs.size + 1) [] [] rfl ▸ hnd) hm), x.above n c hm⟩
  exact wpAny_mono (h s.heap.objs.size h₁ tk cells ⟨x.toInCall.ns, fun b o e => hk₁ b o e, Nat.le_refl _⟩ NC Y BG X (T.keeps F.keep)) (fun fl s' hl => lv _ _ hl) fun _ _ y => y
end
section
variable {prog : Program} {w : World} {A : Around} {E : Value → Shared → Prop} {Q : Flow → Shared → Prop} {s : Shared} {env : Env} {h₀ : Heap} {L : Addr}
/-- the end of a turn -/
def FEnd (h₀ : Heap) (L I : Addr) (oI : Obj) (s : Shared) (J : (Str → Option Value) → List (Addr × Obj) → Prop) (Q : Flow → Shared → Prop) (f : Flow) (s₂ : Shared) : Prop :=
  match f with
  | .ret v => Q (.ret v) s₂
  | .brk => Q .next s₂
  | _ => ∃ h' tk m' news', s₂ = { s with heap := h', toks := tk } ∧ Fr h₀ L h' m' ∧ News h₀ L h' ((I, oI) :: news') ∧ (∀ p ∈ news', p.1 ≠ I) ∧ J m' news'
/-- what a for loop over a list asks -/
def FAt (prog : Program) (w : World) (A : Around) (h₀ : Heap) (L : Addr) (env : Env) (x : Str) (body : List Stmt) (Q : Flow → Shared → Prop) (E : Value → Shared → Prop) (xv : Value) (s : Shared) : Prop :=
  ∃ (l : Addr) (vs : List Value) (m : Str → Option Value) (news : List (Addr × Obj)) (J : Nat → (Str → Option Value) → List (Addr × Obj) → Prop), xv = .ref l ∧ A.handled = none ∧ Fr h₀ L s.heap m ∧ News h₀ L s.heap news ∧ J 0 m news ∧
    (∀ i m nx, J i m nx → LCg.SrcAt h₀ l vs.toArray nx) ∧
    (∀ i v m₁ news₁ h tk I oI, vs[i]? = some v → J i m₁ news₁ → (∀ p ∈ news₁, p.1 ≠ I) → oI.cls = .type "list_iterator" → Fr h₀ L h m₁ → News h₀ L h ((I, oI) :: news₁) →
      wpAny (model prog w) A (storeName env x v) (fun _ s₂ => wpAny (model prog w) A (execs body env) (FEnd h₀ L I oI { s with heap := h, toks := tk } (J (i + 1)) Q) E s₂) E { s with heap := h, toks := tk }) ∧
    (∀ m₁ news₁ h tk, J vs.length m₁ news₁ → Fr h₀ L h m₁ → News h₀ L h news₁ → Q .next { s with heap := h, toks := tk })
theorem FAt.intro {x : Str} {body : List Stmt} {l : Addr} {vs : List Value} {m : Str → Option Value} {news : List (Addr × Obj)} (J : Nat → (Str → Option Value) → List (Addr × Obj) → Prop) (hh : A.handled = none) (F : Fr h₀ L s.heap m) (N : News h₀ L s.heap news) (h0 : J 0 m news)
    (hs : ∀ i m nx, J i m nx → LCg.SrcAt h₀ l vs.toArray nx)
    (turn : ∀ i v m₁ news₁ h tk I oI, vs[i]? = some v → J i m₁ news₁ → (∀ p ∈ news₁, p.1 ≠ I) → oI.cls = .type "list_iterator" → Fr h₀ L h m₁ → News h₀ L h ((I, oI) :: news₁) →
      wpAny (model prog w) A (storeName env x v) (fun _ s₂ => wpAny (model prog w) A (execs body env) (FEnd h₀ L I oI { s with heap := h, toks := tk } (J (i + 1)) Q) E s₂) E { s with heap := h, toks := tk })
    (done : ∀ m₁ news₁ h tk, J vs.length m₁ news₁ → Fr h₀ L h m₁ → News h₀ L h news₁ → Q .next { s with heap := h, toks := tk }) : FAt prog w A h₀ L env x body Q E (.ref l) s :=
  ⟨l, vs, m, news, J, rfl, hh, F, N, h0, hs, turn, done⟩
theorem for_list {x : Str} {px pos : Pos} {iter : Expr} {body : List Stmt}
    (h : wpAny (model prog w) A (eval iter env) (FAt prog w A h₀ L env x body Q E) E s)
    (hs : ∀ x, foldedSetIterable iter env x = pure x := by intro _; rfl) (hE : PassesOwn (model prog w) A env E := by passes_own) :
    wpAny (model prog w) A (exec (.For (.Name x px) iter body [] pos) env) Q E s := by
  refine wpAny_For (wpAny_mono h (fun xv s₁ h₁ => ?_) fun _ _ e => e) hs
  obtain ⟨l, vs, m, news, J, rfl, hh, F, N, hJ0, hSrc, turn, done⟩ := h₁
  have hl := (hSrc _ _ _ hJ0).list F.keep N
  have hlt : l < s₁.heap.objs.size := by obtain ⟨_, e, _⟩ := hl; exact Heap.lt_size e
  have hlI : l ≠ s₁.heap.objs.size := Nat.ne_of_lt hlt
  refine wpAny_pyIter_list hl ?_
  have W := Walks.list (prog := prog) (w := w) hh s₁.heap.objs.size l hlI vs.toArray
  have up : ∀ b o, s₁.heap.get? b = some o → (s₁.heap.push { cls := .type "list_iterator", data := .fields #[.ref l, .int 0 0] }).get? b = some o := fun b o e => Heap.get?_push_of_some _ e
  have hI₀ : h₀.get? s₁.heap.objs.size = none := next_is_new F
  have hIL : s₁.heap.objs.size ≠ L := Ne.symm (Nat.ne_of_lt F.ns.lt)
  refine codeAny_forLoop
    (fun k s' => ∃ h' tk m' news' i, s' = { s₁ with heap := h', toks := tk } ∧ h'.IsListIter s₁.heap.objs.size l i ∧ Fr h₀ L h' m' ∧ News h₀ L h' news' ∧ (∀ p ∈ news', p.1 ≠ s₁.heap.objs.size) ∧ J i m' news' ∧ i ≤ vs.length ∧ k = vs.length + 1 - i) ?_ (vs.length + 1)
    ⟨_, s₁.toks, m, news, 0, rfl, ⟨_, Heap.get?_push_size _ rfl, rfl, rfl⟩, F.push _, fun p hp => ⟨up _ _ (N p hp).1, (N p hp).2⟩, fun p hp => Nat.ne_of_lt (Heap.lt_size (N p hp).1), hJ0, Nat.zero_le _, rfl⟩
  rintro k s' ⟨h', tk, m', news', i, rfl, hit, F', N', off, hJ, hi, rfl⟩
  have hl' := (hSrc _ _ _ hJ).list F'.keep N'
  have keepF : ∀ h₁ : Heap, (∀ b o, b ∉ [s₁.heap.objs.size] → h'.get? b = some o → h₁.get? b = some o) → Fr h₀ L h₁ m' ∧ News h₀ L h₁ news' := fun h₁ hk₁ =>
    ⟨LCg.fr_but F' hk₁ (Ne.symm hIL) hI₀, LCg.news_but N' hk₁ off⟩
  by_cases hlt' : i < vs.length
  · refine W.item i _ _ _ (by simpa using hlt') ⟨hit, hl'⟩ fun v h₁ tk₁ hP hst₁ hk₁ => ?_
    obtain ⟨F₁, N₁⟩ := keepF h₁ hk₁
    obtain ⟨oI, hoI, hcI, hdI⟩ := id hst₁.1
    have hP' : vs[i]? = some v := by simpa using hP
    refine wpAny_assign_Name ?_
    refine wpAny_passesOwn hE (wpAny_mono (turn i v m' news' h₁ tk₁ _ oI hP' hJ off hcI F₁ (fun p hp => by
      rcases List.mem_cons.mp hp with rfl | hp
      · exact ⟨hoI, hIL, hI₀⟩
      · exact N₁ p hp)) (fun _ s₂ q => wpAny_passesOwn hE (wpAny_mono q (fun f s₃ h₃ => ?_) fun _ _ e => e)) fun _ _ e => e)
    have fin : ∀ s₃, (∃ h' tk m' news', s₃ = { s₁ with heap := h', toks := tk } ∧ Fr h₀ L h' m' ∧ News h₀ L h' ((s₁.heap.objs.size, oI) :: news') ∧ (∀ p ∈ news', p.1 ≠ s₁.heap.objs.size) ∧ J (i + 1) m' news') →
        ∃ k, k < vs.length + 1 - i ∧ ∃ h' tk m' news' j, s₃ = { s₁ with heap := h', toks := tk } ∧ h'.IsListIter s₁.heap.objs.size l j ∧ Fr h₀ L h' m' ∧ News h₀ L h' news' ∧ (∀ p ∈ news', p.1 ≠ s₁.heap.objs.size) ∧ J j m' news' ∧ j ≤ vs.length ∧ k = vs.length + 1 - j := by
      rintro _ ⟨h₃', tk₃, m₂, news₂, rfl, F₃, N₃, off₃, hJ₃⟩
      exact ⟨vs.length - i, by omega, h₃', tk₃, m₂, news₂, i + 1, rfl, ⟨oI, (N₃ _ (.head _)).1, hcI, hdI⟩, F₃, fun p hp => N₃ p (.tail _ hp), off₃, hJ₃, hlt', by omega⟩
    cases f with
    | ret v => exact h₃
    | brk => exact h₃
    | next => exact fin _ h₃
    | cont => exact fin _ h₃
  · have e : i = vs.length := by omega
    subst e
    refine W.done _ _ _ (by simpa using (⟨hit, hl'⟩ : h'.IsListIter s₁.heap.objs.size l vs.length ∧ h'.IsList l vs.toArray)) fun h₁ tk₁ hk₁ => wpAny_execs_nil ?_
    obtain ⟨F₁, N₁⟩ := keepF h₁ hk₁
    exact done m' news' h₁ tk₁ hJ F₁ N₁
end
section
variable {prog : Program} {w : World} {A : Around} {E : Value → Shared → Prop} {s : Shared} {h₀ : Heap} {L : Addr} {m : Str → Option Value} {env : Env}
/-- a comprehension's turns with a ledger that grows -/
theorem comp_grow {elt : Expr} {x : Str} {scope : Scope} {cl : List (Str × Addr)} {S : List (Addr × Obj) → Prop} {Fin : List Value → List (Addr × Obj) → Prop} {news : List (Addr × Obj)} {its : Array Value} (J : Nat → List Value → List (Addr × Obj) → Prop) (hJ : J 0 [] news)
    (turn : ∀ i v ys nx I oI C oC D m₂ h tk (E' : Value → Shared → Prop), its[i]? = some v → J i ys nx → LCg.NsObj oC m₂ → m₂ x = some v → Fr h₀ L h m → News h₀ L h ((I, oI) :: (C, oC) :: (D, LCg.lst ys) :: nx) → LCg.Off3 I C D nx → ((@Ne Nat I C) ∧ (@Ne Nat I D) ∧ (@Ne Nat C D)) →
      wpAny (model prog w) A (eval elt (compEnvC scope cl C env)) (LCg.CompEnd h₀ L m { s with heap := h, toks := tk } I oI C oC D (LCg.lst ys) S (fun y nx' => J (i + 1) (ys ++ [y]) nx')) E' { s with heap := h, toks := tk })
    (fin : ∀ ys nx, J its.size ys nx → Fin ys nx) : LCg.CompRest prog w A h₀ L m env elt x scope cl s S (fun i v => its[i]? = some v) Fin its.size 0 [] news := by
  have key : ∀ (j i : Nat) (ys : List Value) (nx : List (Addr × Obj)), i + j = its.size → J i ys nx → LCg.CompRest prog w A h₀ L m env elt x scope cl s S (fun i v => its[i]? = some v) Fin j i ys nx := by
    intro j
    induction j with
    | zero =>
      intro i ys nx hi hy
      have e : i = its.size := by omega
      subst e
      exact LCg.CompRest.zero (fin ys nx hy)
    | succ j ih =>
      intro i ys nx hi hy
      refine LCg.CompRest.succ ?_
      intro v I oI C oC D m₂ h tk E' hv hC hx F N off ne
      refine wpAny_mono (turn i v ys nx I oI C oC D m₂ h tk E' hv hy hC hx F N off ne) (fun y s₂ hq => ?_) fun _ _ e => e
      obtain ⟨h', tk', nw, e, F', N', off', hS, hn⟩ := hq
      exact ⟨h', tk', nw, e, F', N', off', hS, ih (i + 1) _ _ (by omega) hn⟩
  exact key its.size 0 [] news (by omega) hJ
end
section
variable {prog : Program} {w : World} {A : Around} {E : Value → Shared → Prop} {s : Shared} {h₀ : Heap} {L : Addr} {m : Str → Option Value} {env : Env}
/-- a comprehension's turns with a test, the ledger as it lies -/
theorem comp_test {ct elt : Expr} {x : Str} {scope : Scope} {cl : List (Str × Addr)} {S : List (Addr × Obj) → Prop} {P : Nat → Value → Prop} {Fin : List Value → List (Addr × Obj) → Prop} {news : List (Addr × Obj)} {n : Nat} (J : Nat → List Value → Prop) (hJ : J 0 [])
    (turn : ∀ i v ys I oI C oC D m₂ h tk (E' : Value → Shared → Prop), i < n → P i v → J i ys → LCg.NsObj oC m₂ → m₂ x = some v → Fr h₀ L h m → News h₀ L h ((I, oI) :: (C, oC) :: (D, LCg.lst ys) :: news) → LCg.Off3 I C D news → ((@Ne Nat I C) ∧ (@Ne Nat I D) ∧ (@Ne Nat C D)) →
      wpAny (model prog w) A (isTrue ct (compEnvC scope cl C env) (eval ct (compEnvC scope cl C env))) (fun ok s' => if ok = true then
        wpAny (model prog w) A (eval elt (compEnvC scope cl C env)) (LCg.CompEnd h₀ L m { s with heap := h, toks := tk } I oI C oC D (LCg.lst ys) S (fun y nx' => nx' = news ∧ J (i + 1) (ys ++ [y]))) E' s'
        else LCg.CompEnd h₀ L m { s with heap := h, toks := tk } I oI C oC D (LCg.lst ys) S (fun _ nx' => nx' = news ∧ J (i + 1) ys) Value.none s') E' { s with heap := h, toks := tk })
    (fin : ∀ ys, J n ys → Fin ys news) : LCt.CompRestT prog w A h₀ L m env ct elt x scope cl s S P Fin n 0 [] news := by
  have key : ∀ (j i : Nat) (ys : List Value), i + j = n → J i ys → LCt.CompRestT prog w A h₀ L m env ct elt x scope cl s S P Fin j i ys news := by
    intro j
    induction j with
    | zero =>
      intro i ys hi hy
      have e : i = n := by omega
      subst e
      exact LCt.CompRestT.zero (fin ys hy)
    | succ j ih =>
      intro i ys hi hy
      refine LCt.CompRestT.succ ?_
      intro v I oI C oC D m₂ h tk E' hv hC hx F N off ne
      refine wpAny_mono (turn i v ys I oI C oC D m₂ h tk E' (by omega) hv hy hC hx F N off ne) (fun ok s₂ hq => ?_) fun _ _ e => e
      cases ok with
      | true =>
        rw [if_pos rfl] at hq ⊢
        refine wpAny_mono hq (fun y s₃ hq => ?_) fun _ _ e => e
        obtain ⟨h', tk', nw, e, F', N', off', hS, hn, hj⟩ := hq
        rw [hn] at N' off' hS
        exact ⟨h', tk', news, e, F', N', off', hS, ih (i + 1) _ (by omega) hj⟩
      | false =>
        rw [if_neg Bool.false_ne_true] at hq ⊢
        obtain ⟨h', tk', nw, e, F', N', off', hS, hn, hj⟩ := hq
        rw [hn] at N' off' hS
        exact ⟨h', tk', news, e, F', N', off', hS, ih (i + 1) _ (by omega) hj⟩
  exact key n 0 [] (by omega) hJ
end
end Mine
end
section
open PySem PySem.W PySem.Spec PySem.Calls PyProof.Rows PyProof
local macro_rules | `(tactic| k_room) => `(tactic| ktr_room)
local macro_rules | `(tactic| k_units) => `(tactic| ktr_units)
namespace Mine
inductive Fa2 {α β : Type} (R : α → β → Prop) : List α → List β → Prop where
  | nil : Fa2 R [] []
  | cons {a b l k} : R a b → Fa2 R l k → Fa2 R (a :: l) (b :: k)
theorem Fa2.imp {α β : Type} {R T : α → β → Prop} (h : ∀ a b, R a b → T a b) {l : List α} {k : List β} (x : Fa2 R l k) : Fa2 T l k := by
  induction x with
  | nil => exact .nil
  | cons r _ ih => exact .cons (h _ _ r) ih
theorem Fa2.append {α β : Type} {R : α → β → Prop} {l l' : List α} {k k' : List β} (x : Fa2 R l k) (y : Fa2 R l' k') : Fa2 R (l ++ l') (k ++ k') := by
  induction x with
  | nil => exact y
  | cons r _ ih => exact .cons r ih
theorem Fa2.len {α β : Type} {R : α → β → Prop} {l : List α} {k : List β} (x : Fa2 R l k) : l.length = k.length := by
  induction x with
  | nil => rfl
  | cons r _ ih => rw [List.length_cons, List.length_cons, ih]
theorem Fa2.at {α β : Type} {R : α → β → Prop} {l : List α} {k : List β} (x : Fa2 R l k) {i : Nat} {a : α} (e : l[i]? = some a) : ∃ b, k[i]? = some b ∧ R a b := by
  induction x generalizing i with
  | nil => cases e
  | cons r _ ih =>
    cases i with
    | zero => cases e; exact ⟨_, rfl, r⟩
    | succ i => exact ih e
/-- a list of lists of ints on the ledger -/
def PartsIn (nx : List (Addr × Obj)) (P : Addr) (rs : List Addr) (k : Nat) (pp : List (List Int)) : Prop :=
  (P, W.listOf (rs.map Value.ref).toArray k) ∈ nx ∧ Fa2 (fun r p => ∃ us j, (r, W.listOf us.toArray j) ∈ nx ∧ IntsAre us p) rs pp
theorem PartsIn.mono {nx nx' : List (Addr × Obj)} {P : Addr} {rs : List Addr} {k : Nat} {pp : List (List Int)} (h : PartsIn nx P rs k pp) (hs : ∀ p ∈ nx, p ∈ nx') : PartsIn nx' P rs k pp :=
  ⟨hs _ h.1, Fa2.imp (fun _ _ ⟨us, j, hm, hi⟩ => ⟨us, j, hs _ hm, hi⟩) h.2⟩
theorem news_rot {h₀ h : Heap} {L : Addr} {p q : Addr × Obj} {l : List (Addr × Obj)} (N : News h₀ L h (p :: q :: l)) : News h₀ L h (l ++ [p, q]) := fun x hx => N x (by
  rcases List.mem_append.mp hx with h | h
  · exact .tail _ (.tail _ h)
  · rcases List.mem_cons.mp h with rfl | h
    · exact .head _
    · rw [List.mem_singleton.mp h]; exact .tail _ (.head _))
theorem ints_at {vs : List Value} {ns : List Int} (h : IntsAre vs ns) {i : Nat} {v : Value} (e : vs[i]? = some v) : ∃ n t, ns[i]? = some n ∧ v = .int n t := by
  induction h generalizing i with
  | nil => cases e
  | cons n t _ ih =>
    cases i with
    | zero => cases e; exact ⟨_, _, rfl, rfl⟩
    | succ i => exact ih e
theorem subsF_app : ∀ (l k : List Int) (ps : List (List Int)), subsF (l ++ k) ps = subsF k (subsF l ps)
  | [], _, _ => rfl
  | n :: r, k, ps => subsF_app r k _
theorem subsF_len0 : ∀ (l : List Int) (ps : List (List Int)) (b : Nat), (∀ p ∈ ps, p.length ≤ b) → ∀ p ∈ subsF l ps, p.length ≤ b + l.length
  | [], ps, b, h, p, hp => h p hp
  | n :: r, ps, b, h, p, hp => by
    have := subsF_len0 r (ps ++ ps.map fun p => p ++ [n]) (b + 1) (fun q hq => by
      rcases List.mem_append.mp hq with hq | hq
      · exact Nat.le_succ_of_le (h q hq)
      · obtain ⟨q', hq', rfl⟩ := List.mem_map.mp hq
        have := h q' hq'
        simp
        omega) p hp
    rw [List.length_cons]
    omega
theorem subsF_len (l : List Int) : ∀ p ∈ subsF l [[]], p.length ≤ l.length := fun p hp => by
  have := subsF_len0 l [[]] 0 (by intro q hq; rw [List.mem_singleton.mp hq]; exact Nat.le_refl _) p hp
  omega
theorem subsF_count0 : ∀ (l : List Int) (ps : List (List Int)), (subsF l ps).length = ps.length * 2 ^ l.length
  | [], ps => by simp [subsF]
  | n :: r, ps => by
    show (subsF r (ps ++ ps.map fun p => p ++ [n])).length = _
    rw [subsF_count0 r, List.length_append, List.length_map, List.length_cons, Nat.pow_succ, ← Nat.two_mul, Nat.mul_comm 2, Nat.mul_assoc, Nat.mul_comm 2]
theorem subsF_count (l : List Int) : (subsF l [[]]).length = 2 ^ l.length := by rw [subsF_count0]; simp
theorem pow4 {n : Nat} (h : n ≤ 4) : 2 ^ n ≤ 16 := Nat.pow_le_pow_right (by decide) h
theorem FewJ_src {L : Addr} {a1 b1 : Addr} {pp : List (List Int)} {m : Str → Option Value} {nx : List (Addr × Obj)} {h₀ : Heap} {its : Array Value} (hb : h₀.IsList b1 its) : LCg.SrcAt h₀ b1 its nx := .inl hb
theorem subsF_mem : ∀ (l : List Int) (ps : List (List Int)) (p : List Int), p ∈ ps → p ∈ subsF l ps
  | [], _, _, h => h
  | n :: r, ps, p, h => subsF_mem r _ p (List.mem_append.mpr (.inl h))
theorem subsF_self : ∀ (l : List Int) (ps : List (List Int)) (p : List Int), p ∈ ps → p ++ l ∈ subsF l ps
  | [], _, p, h => by rw [List.append_nil]; exact h
  | n :: r, ps, p, h => by
    have := subsF_self r (ps ++ ps.map fun p => p ++ [n]) (p ++ [n]) (List.mem_append.mpr (.inr (List.mem_map.mpr ⟨p, h, rfl⟩)))
    rw [List.append_assoc] at this
    exact this
theorem min_fold : ∀ (r : List Int) (a : Int), (r.foldl (fun m x => if x < m then x else m) a ∈ a :: r) ∧ ∀ b ∈ a :: r, r.foldl (fun m x => if x < m then x else m) a ≤ b
  | [], a => ⟨.head _, fun b hb => by rw [List.mem_singleton.mp hb]; exact Int.le_refl _⟩
  | c :: r, a => by
    have ih := min_fold r (if c < a then c else a)
    rw [List.foldl_cons]
    refine ⟨?_, fun b hb => ?_⟩
    · rcases List.mem_cons.mp ih.1 with h | h
      · rw [h]; split
        · exact .tail _ (.head _)
        · exact .head _
      · exact .tail _ (.tail _ h)
    · have h0 := ih.2 _ (.head _)
      rcases List.mem_cons.mp hb with rfl | hb
      · refine Int.le_trans h0 ?_
        split <;> omega
      · rcases List.mem_cons.mp hb with rfl | hb
        · refine Int.le_trans h0 ?_
          split <;> omega
        · exact ih.2 _ (.tail _ hb)
theorem min_is {l : List Int} {M : Int} (h1 : M ∈ l) (h2 : ∀ a, a ∈ l → M ≤ a) : M = minL l := by
  cases l with
  | nil => cases h1
  | cons a r =>
    have q := min_fold r a
    exact Int.le_antisymm (h2 _ q.1) (q.2 _ h1)
def unl (sh p : List Int) (k : Nat) : Nat := ((List.range k).filter fun j => decide (sh.getD j 0 ≠ p.getD j 0)).length
def FewJ2 (L : Addr) (a1 cnt P : Addr) (rs : List Addr) (k : Nat) (pp : List (List Int)) (want : List Int) (m : Str → Option Value) (nx : List (Addr × Obj)) : Prop :=
  ∃ o1 o2 o3 v1 v2 cs kc rest, nx = (cnt, W.listOf (List.toArray cs) kc) :: (L + 1 + 1 + 1, o1) :: (L + 1 + 1, o2) :: (L + 1, o3) :: rest ∧ OwnOff rest [cnt, L + 1 + 1 + 1, L + 1 + 1, L + 1] ∧ o1.data = .cell v1 ∧ o2.data = .cell v2 ∧ o3.data = .cell (some (.ref a1)) ∧
    PartsIn rest P rs k pp ∧ IntsAre cs want ∧ m (Str.ofString "counts") = some (.ref cnt)
def FewJ (L : Addr) (a1 b1 : Addr) (pp : List (List Int)) (m : Str → Option Value) (nx : List (Addr × Obj)) : Prop :=
  ∃ o1 o2 o3 v1 v2 rest P rs k, nx = (L + 1 + 1 + 1, o1) :: (L + 1 + 1, o2) :: (L + 1, o3) :: rest ∧ OwnOff rest [L + 1 + 1 + 1, L + 1 + 1, L + 1] ∧ o1.data = .cell v1 ∧ o2.data = .cell v2 ∧ o3.data = .cell (some (.ref a1)) ∧
    PartsIn rest P rs k pp ∧ m (Str.ofString "parts") = some (.ref P) ∧ m (Str.ofString "long") = some (.ref b1)
theorem fillF : PySem.Challenge.rw_sw0075_01 = PySem.Challenge.rw_sw0075_01 ∧ hd.heap_39 = hd.heap_39 := by
  k_with_none
  w_top off
  k_fill
  exact ⟨rfl, rfl⟩
set_option pp.deepTerms false in
set_option pp.maxSteps 3000 in
set_option maxHeartbeats 1000000 in
theorem few_c {w : World} {mean : ExcName → Option Value} {mg mb : Str → Option Value} {sh lo : List Int} {vs ws : List Value} {a1 b1 : Addr} {na nb : Nat}
   {dp un : Nat} {gd : Option (List Code)} {cn : Str} {cs : Scope} {a : Addr} {ccd : Value} {cl : List (Str × Addr)} {outer : List Env} {A₀ : Around} {base h₀ : Heap} {L : Addr} {m : Str → Option Value} {s : Shared} {Q E : Value → Shared → Prop}
   (B : Below A₀ base outer h₀) (F : Fr h₀ L s.heap m) (X : (hd.heap_39 w.params).In h₀) (T : Top hd.view_39 LOOSE mean mg mb h₀) (hck : cs.kind = .function) (hdp : dp + 2 < recursionLimit) (hun : un + 16 < cLine)
   (ha : s.heap.get? a1 = some (W.listOf vs.toArray na)) (hia : IntsAre vs sh) (hb : s.heap.get? b1 = some (W.listOf ws.toArray nb)) (hib : IntsAre ws lo) (hlen : lo.length ≤ 4) (hle : sh.length ≤ lo.length)
   (hret : ∀ t h' tk', Fr h₀ L h' m → s.heap.StaysIn h' → Q (.int (fewest sh lo) t) { s with heap := h', toks := tk' }) :
   wpAny (model PySem.Challenge.rw_sw0075_01.row.prog w) (ktrTop dp un gd cn cs L a ccd cl outer) (call (.ref 254) [.ref a1, .ref b1]) Q E s := by
  refine wpAny_call ?_
  k_dflt (refine' enterKC ?k1 ?k2 ?k3 ?k5 ?kA ?kF ?kK ?k6 ?k7 ?k8 ?k9 ?kB ?kD ?_ ?c2 ?c3 ?c4; (case kA => exact rfl); (case kF => exact rfl); (case kK => assumption); (case k1 => k_asm); (case k2 => k_asm); (case k3 => k_asm); (case k5 => k_asm); (case k6 => k_is); (case k7 => k_is); (case k8 => ktr_room); (case k9 => exact BindsTo.of_eq rfl); (case kB => exact rfl); (case kD => decide +kernel); (case c2 => exact rfl); (case c3 => exact rfl); (case c4 => exact rfl); k_whole; intro L' h' tk' cells' F' N' Y' B' X' T'; (obtain ⟨o1, o2, o3, hE, d1, d2, d3⟩ := CellsAre.three Y'); (subst hE); (clear Y'); (try simp only [List.cons_append, List.nil_append] at N'); (try dsimp only); (try k_fold))
  have hla : s.heap.IsList a1 vs.toArray := ⟨_, ha, rfl, _, rfl⟩
  have hlb : s.heap.IsList b1 ws.toArray := ⟨_, hb, rfl, _, rfl⟩
  k_with "exec For" => refine Hold.to ?_
  k_with "exec For Name" => refine Hold.to ?_
  k_with "exec For Name Name" => refine Hold.to ?_
  k_with "Exists" => refine Hold.to ?_
  k_with "FAt" => refine Hold.to ?_
  k_steps
  refine Hold.by ?_
  refine for_list (h₀ := s.heap) (L := L') ?_
  k_steps
  refine Hold.by ?_
  rename Fr _ _ _ _ => FA
  rename News _ _ _ _ => NA
  refine' FAt.intro (vs := ws) (fun i m nx => FewJ L' a1 b1 (subsF (lo.take i) [[]]) m nx) rfl FA (news_rot NA) ?h0 ?hs ?turn ?done
  case h0 =>
    refine ⟨o1, o2, o3, _, _, [_, _], _, [_], _, rfl, ?_, d1, d2, d3, ⟨.head _, .cons ⟨[], _, .tail _ (.head _), .nil⟩ .nil⟩, rfl, rfl⟩
    intro p hp b hb
    simp only [List.mem_cons, List.not_mem_nil, or_false] at hp hb
    rcases hp with rfl | rfl <;> rcases hb with rfl | rfl | rfl <;> k_ne
  case hs => exact fun _ _ _ _ => .inl hlb
  case turn =>
    intro i v m₁ news₁ h tk I oI hv hJ hoff hcI F₁ N₁
    clear NA FA d1 d2 d3
    obtain ⟨o1, o2, o3, v1, v2, rest, P, rs, k, rfl, hoo, d1, d2, d3, hP, hm1, hm2⟩ := hJ
    have hI1 : (L' + 1 + 1 + 1 : Nat) ≠ I := hoff _ (.head _)
    have hI2 : (L' + 1 + 1 : Nat) ≠ I := hoff _ (.tail _ (.head _))
    have hI3 : (L' + 1 : Nat) ≠ I := hoff _ (.tail _ (.tail _ (.head _)))
    obtain ⟨nv, nt, hnv, rfl⟩ := ints_at hib hv
    have hpl := subsF_len (lo.take i)
    have hpc := subsF_count (lo.take i)
    obtain ⟨pp, hpp⟩ : ∃ pp, pp = subsF (lo.take i) [[]] := ⟨_, rfl⟩
    rw [← hpp] at hP hpl hpc
    have hli : (lo.take i).length ≤ 4 := by rw [List.length_take]; omega
    try k_fold
    k_with "CompSrc" => refine Hold.to ?_
    k_with "eval ListComp" => (k_here; k_dflt (refine LCg.ListComp_U (F₀ := by k_asm) (by with_unfolding_all rfl) (by decide) (by rfl) (by decide) (by rfl) ?_))
    have F₂ := frF (ps := [(Str.ofString "parts", .ref P), (Str.ofString "long", .ref b1)]) (by intro p hp; simp only [List.mem_cons, List.not_mem_nil, or_false] at hp; rcases hp with rfl | rfl <;> assumption) F₁
    clear F₁
    refine' storeX_C (cn := Str.ofString "_law_fewest") F₂ N₁ rfl (UpdF.tail (fun e => hI2 e.symm) (UpdF.tail (neN (by omega)) (UpdF.head (List.forall_mem_cons.mpr ⟨neN (by omega), fun p hp => hoo p hp _ (.tail _ (.head _))⟩)))) d2 ?_
    clear F₂ N₁
    intro h5 o5 F₃ N₃ d5
    try k_fold
    try k_sweep
    k_steps
    refine Hold.by ?_
    rename Fr _ _ _ _ => F5
    rename News _ _ _ _ => N5
    refine LCg.CompSrc.ledger (its := (rs.map Value.ref).toArray) (k := k) rfl F5 N5 (.tail _ (.tail _ (.tail _ (.tail _ hP.1)))) ?hsz fun g => ?_
    case hsz =>
      rw [List.size_toArray, List.length_map, hP.2.len, hpc]
      exact Nat.le_trans (pow4 hli) (by decide)
    refine comp_grow (fun i ys nx => ∃ rs' add, ys = rs'.map Value.ref ∧ nx = add ++ (I, oI) :: (L' + 1 + 1 + 1, o1) :: (L' + 1 + 1, o5) :: (L' + 1, o3) :: rest ∧ OwnOff add [I, L' + 1 + 1 + 1, L' + 1 + 1, L' + 1] ∧ Fa2 (fun r p => ∃ us j, (r, W.listOf us.toArray j) ∈ add ∧ IntsAre us p) rs' ((pp.take i).map (· ++ [nv]))) ?c0 ?ct ?cf
    case c0 => exact ⟨[], [], rfl, rfl, (fun _ h => nomatch h), .nil⟩
    case cf =>
      clear F5 N5
      rintro ys nx ⟨rs', add, rfl, rfl, hadd, hfa⟩
      unfold LCg.FinE
      intro D9 h9 tk9 F9 N9 o1'
      rw [List.size_toArray, List.length_map, hP.2.len, List.take_length] at hfa
      k_with "binaryOp Add ref ref" => refine Hold.to ?_
      k_with "FEnd" => refine Hold.to ?_
      k_steps
      refine Hold.by ?_
      (rename Fr _ _ _ _ => F6); (rename News _ _ _ _ => N6)
      have hPm : (P, W.listOf (rs.map Value.ref).toArray k) ∈ (D9, LCg.lst (rs'.map Value.ref)) :: (add ++ (I, oI) :: (L' + 1 + 1 + 1, o1) :: (L' + 1 + 1, o5) :: (L' + 1, o3) :: rest) := .tail _ (List.mem_append.mpr (.inr (.tail _ (.tail _ (.tail _ (.tail _ hP.1))))))
      refine kmk_add_lit (its := (rs.map Value.ref).toArray) (its2 := (rs'.map Value.ref).toArray) (zs := (rs ++ rs').map Value.ref) F6 N6 ⟨_, (N6 _ hPm).1, rfl, _, rfl⟩ ⟨_, (N6 _ (.head _)).1, rfl, _, rfl⟩ (by simp) ?_ ?hz
      case hz =>
        have e1 : rs.length ≤ 16 := by rw [hP.2.len, hpc]; exact pow4 hli
        have e2 : rs'.length ≤ 16 := by rw [hfa.len, List.length_map, hpc]; exact pow4 hli
        show (rs.map Value.ref).length + (rs'.map Value.ref).length ≤ sizeLine
        rw [List.length_map, List.length_map]
        exact Nat.le_trans (Nat.add_le_add e1 e2) (by decide)
      intro D8 h8 F8 N8 l8
      clear F6 N6
      k_steps
      refine Hold.by ?_
      (rename Fr _ _ _ _ => F8'); (rename News _ _ _ _ => N8')
      have hn3 : ∀ p ∈ (I, oI) :: (L' + 1 + 1 + 1, o1) :: (L' + 1 + 1, o5) :: (L' + 1, o3) :: rest, p.1 < D8 := fun p hp => l8 p (.tail _ (List.mem_append.mpr (.inr hp)))
      have hsub : subsF (lo.take (i + 1)) [[]] = pp ++ pp.map (· ++ [nv]) := by
        rw [List.take_add_one, hnv, subsF_app, ← hpp]
        rfl
      refine ⟨_, _, _, (L' + 1 + 1 + 1, o1) :: (L' + 1 + 1, o5) :: (L' + 1, o3) :: (D8, W.listOf ((rs ++ rs').map Value.ref).toArray 0) :: (add ++ rest), rfl, F8', fun p hp => N8' p ?n, ?off, ⟨o1, o5, o3, _, _, (D8, W.listOf ((rs ++ rs').map Value.ref).toArray 0) :: (add ++ rest), D8, rs ++ rs', 0, rfl, ?oo, d1, d5, d3, ⟨.head _, ?fa⟩, rfl, rfl⟩⟩
      case n =>
        simp only [List.mem_cons, List.mem_append] at hp ⊢
        rcases hp with h | h | h | h | h | h | h <;> simp [h]
      case off =>
        intro p hp
        simp only [List.mem_cons, List.mem_append] at hp
        rcases hp with rfl | rfl | rfl | rfl | hp | hp
        · exact hI1
        · exact hI2
        · exact hI3
        · exact Nat.ne_of_gt (hn3 _ (.head _))
        · exact hadd p hp _ (.head _)
        · exact hoff p (.tail _ (.tail _ (.tail _ hp)))
      case oo =>
        intro p hp b hb
        rcases List.mem_cons.mp hp with rfl | hp
        · simp only [List.mem_cons, List.not_mem_nil, or_false] at hb
          rcases hb with rfl | rfl | rfl
          · exact Nat.ne_of_gt (hn3 _ (.tail _ (.head _)))
          · exact Nat.ne_of_gt (hn3 _ (.tail _ (.tail _ (.head _))))
          · exact Nat.ne_of_gt (hn3 _ (.tail _ (.tail _ (.tail _ (.head _)))))
        · rcases List.mem_append.mp hp with hp | hp
          · exact hadd p hp b (.tail _ hb)
          · exact hoo p hp b hb
      case fa =>
        rw [hsub]
        exact (hP.2.imp fun _ _ ⟨us, j, hm, hi⟩ => ⟨us, j, .tail _ (List.mem_append.mpr (.inr hm)), hi⟩).append (hfa.imp fun _ _ ⟨us, j, hm, hi⟩ => ⟨us, j, .tail _ (List.mem_append.mpr (.inl hm)), hi⟩)
    case ct =>
      clear F5 N5
      rintro j v ys nx I9 oI9 C oC D m₂ h9 tk9 E' hv ⟨rs', add, rfl, rfl, hadd, hfa⟩ hC hx F N off ne
      obtain ⟨r, hr, rfl⟩ : ∃ r, rs[j]? = some r ∧ v = .ref r := by
        rw [List.getElem?_toArray, List.getElem?_map] at hv
        cases hq : rs[j]? with
        | none => rw [hq] at hv; cases hv
        | some r => rw [hq] at hv; exact ⟨r, rfl, (Option.some.inj hv).symm⟩
      obtain ⟨p, hp, us, uk, hum, hui⟩ := hP.2.at hr
      have hup : us.length ≤ 4 := by rw [hui.length]; exact Nat.le_trans (hpl p (List.mem_of_getElem? hp)) hli
      obtain ⟨nx, hnx⟩ : ∃ nx, nx = add ++ (I, oI) :: (L' + 1 + 1 + 1, o1) :: (L' + 1 + 1, o5) :: (L' + 1, o3) :: rest := ⟨_, rfl⟩
      have hin : ∀ p ∈ (I, oI) :: (L' + 1 + 1 + 1, o1) :: (L' + 1 + 1, o5) :: (L' + 1, o3) :: rest, p ∈ nx := fun p hp => hnx ▸ List.mem_append.mpr (.inr hp)
      rw [← hnx] at N off
      have hmr : (r, W.listOf us.toArray uk) ∈ (I9, oI9) :: (C, oC) :: (D, LCg.lst (List.map Value.ref rs')) :: nx := .tail _ (.tail _ (.tail _ (hin _ (.tail _ (.tail _ (.tail _ (.tail _ hum)))))))
      have hmc : (L' + 1 + 1, o5) ∈ (I9, oI9) :: (C, oC) :: (D, LCg.lst (List.map Value.ref rs')) :: nx := .tail _ (.tail _ (.tail _ (hin _ (.tail _ (.tail _ (.head _))))))
      k_with "CompEnd" => refine Hold.to ?_
      k_with "binaryOp Add ref ref" => refine Hold.to ?_
      k_steps
      refine Hold.by ?_
      (rename Fr _ _ _ _ => F6); (rename News _ _ _ _ => N6)
      refine kmk_add_lit (its := us.toArray) (its2 := #[Value.int nv nt]) (zs := us ++ [Value.int nv nt]) F6 N6 ⟨_, (N6 _ (.tail _ hmr)).1, rfl, _, rfl⟩ ⟨_, (N6 _ (.head _)).1, rfl, _, rfl⟩ (by simp) ?_ ?hz
      case hz =>
        show us.toArray.toList.length + 1 ≤ sizeLine
        have e : us.toArray.toList.length = us.length := by simp
        rw [e]
        exact Nat.le_trans (Nat.succ_le_succ hup) (by decide)
      intro D9 h6 F7 N7 l7
      have hlt : ∀ p ∈ (I9, oI9) :: (C, oC) :: (D, LCg.lst (List.map Value.ref rs')) :: nx, p.1 < D9 := fun p hp => l7 p (.tail _ hp)
      refine LCg.CompEnd.intro F7 N7 ((D9, W.listOf (us ++ [Value.int nv nt]).toArray 0) :: nx) ?sub ⟨⟨Nat.ne_of_gt (hlt _ (.head _)), Nat.ne_of_gt (hlt _ (.tail _ (.head _))), Nat.ne_of_gt (hlt _ (.tail _ (.tail _ (.head _))))⟩, off⟩ (.inr ⟨_, .tail _ (hin _ (.tail _ (.tail _ (.tail _ (.tail _ hP.1))))), rfl, _, rfl⟩) ⟨rs' ++ [D9], (D9, W.listOf (us ++ [Value.int nv nt]).toArray 0) :: add, by simp, by rw [hnx]; rfl, ?off, ?fa⟩
      case sub =>
        intro q hq
        simp only [List.mem_cons] at hq ⊢
        rcases hq with h | h | h | h | h <;> simp [h]
      case off =>
        intro q hq b hb
        have hn3 : ∀ p ∈ (I, oI) :: (L' + 1 + 1 + 1, o1) :: (L' + 1 + 1, o5) :: (L' + 1, o3) :: rest, p.1 < D9 := fun p hp => hlt p (.tail _ (.tail _ (.tail _ (hin p hp))))
        rcases List.mem_cons.mp hq with rfl | hq
        · simp only [List.mem_cons, List.not_mem_nil, or_false] at hb
          rcases hb with rfl | rfl | rfl | rfl
          · exact Nat.ne_of_gt (hn3 _ (.head _))
          · exact Nat.ne_of_gt (hn3 _ (.tail _ (.head _)))
          · exact Nat.ne_of_gt (hn3 _ (.tail _ (.tail _ (.head _))))
          · exact Nat.ne_of_gt (hn3 _ (.tail _ (.tail _ (.tail _ (.head _)))))
        · exact hadd q hq b hb
      case fa =>
        rw [List.take_add_one, hp, List.map_append]
        exact (hfa.imp fun _ _ ⟨us, j, hm, hi⟩ => ⟨us, j, .tail _ hm, hi⟩).append (.cons ⟨_, _, .head _, IntsAre.append hui (.cons _ _ .nil)⟩ .nil)
  case done =>
    intro m₁ news₁ h tk hJ F₁ N₁
    obtain ⟨o1, o2, o3, v1, v2, rest, P, rs, k, rfl, hoo, d1, d2, d3, hP, hm1, hm2⟩ := hJ
    rw [hib.length, List.take_length] at hP
    have hpl := subsF_len lo
    have hpc := subsF_count lo
    obtain ⟨pp, hpp⟩ : ∃ pp, pp = subsF lo [[]] := ⟨_, rfl⟩
    rw [← hpp] at hP hpl hpc
    have F₂ := frF (ps := [(Str.ofString "parts", .ref P), (Str.ofString "long", .ref b1)]) (by intro p hp; simp only [List.mem_cons, List.not_mem_nil, or_false] at hp; rcases hp with rfl | rfl <;> assumption) F₁
    clear F₁ NA FA
    dsimp only
    try k_fold
    k_steps
    refine Hold.by ?_
    refine for_list (h₀ := s.heap) (L := L') ?_
    k_steps
    refine Hold.by ?_
    rename Fr _ _ _ _ => FB
    rename News _ _ _ _ => NB
    rename _ ∧ _ ∧ _ ∧ AllLt _ rest => lc
    obtain ⟨cnt, hc1, hc2⟩ : ∃ c, c = _ ∧ AllLt c rest := ⟨_, rfl, lc.2.2.2⟩
    subst hc1
    have lc4 : (cnt : Nat) ≠ L' + 1 + 1 + 1 := Nat.ne_of_gt lc.1
    have lc5 : (cnt : Nat) ≠ L' + 1 + 1 := Nat.ne_of_gt lc.2.1
    have lc6 : (cnt : Nat) ≠ L' + 1 := Nat.ne_of_gt lc.2.2.1
    refine' FAt.intro (vs := rs.map Value.ref) (fun i m nx => FewJ2 L' a1 cnt P rs k pp (((pp.take i).filter fun p => p.length = sh.length).map fun p => (unl sh p sh.length : Int)) m nx) rfl FB NB ?g0 ?gs ?gt ?gd
    case g0 => exact ⟨o1, o2, o3, v1, v2, [], _, rest, rfl, fun p hp b hb => by
      rcases List.mem_cons.mp hb with rfl | hb
      · exact Nat.ne_of_lt (kst_ltOf lc.2.2.2 p hp)
      · exact hoo p hp b hb, d1, d2, d3, hP, .nil, rfl⟩
    case gs =>
      rintro i m nx ⟨o1, o2, o3, v1, v2, cs, kc, rest, rfl, hoo, d1, d2, d3, hP, hcs, hm⟩
      exact .inr ⟨_, .tail _ (.tail _ (.tail _ (.tail _ hP.1))), rfl, _, rfl⟩
    case gt =>
      intro i v m₁ news₁ h tk I oI hv hJ hoff hcI F₁ N₁
      clear FB NB
      obtain ⟨o1, o2, o3, v1, v2, cs, kc, rest, rfl, hoo, d1, d2, d3, hP, hcs, hm⟩ := hJ
      have hI0 : (cnt : Nat) ≠ I := hoff _ (.head _)
      have hoff' : ∀ o, ∀ p ∈ (cnt, W.listOf cs.toArray kc) :: (L' + 1 + 1 + 1, o) :: (L' + 1 + 1, o2) :: (L' + 1, o3) :: rest, p.1 ≠ I := fun o p hp => by
        rcases List.mem_cons.mp hp with rfl | hp
        · exact hoff _ (.head _)
        rcases List.mem_cons.mp hp with rfl | hp
        · exact hoff (_, o1) (.tail _ (.head _))
        · exact hoff p (.tail _ (.tail _ hp))
      have hI1 : (L' + 1 + 1 + 1 : Nat) ≠ I := hoff _ (.tail _ (.head _))
      have hI2 : (L' + 1 + 1 : Nat) ≠ I := hoff _ (.tail _ (.tail _ (.head _)))
      have hI3 : (L' + 1 : Nat) ≠ I := hoff _ (.tail _ (.tail _ (.tail _ (.head _))))
      obtain ⟨r, hr, rfl⟩ : ∃ r, rs[i]? = some r ∧ v = .ref r := by
        rw [List.getElem?_map] at hv
        cases hq : rs[i]? with
        | none => rw [hq] at hv; cases hv
        | some r => rw [hq] at hv; exact ⟨r, rfl, (Option.some.inj hv).symm⟩
      obtain ⟨p, hp, us, uk, hum, hui⟩ := hP.2.at hr
      have hup : us.length ≤ 4 := by rw [hui.length]; exact Nat.le_trans (hpl p (List.mem_of_getElem? hp)) hlen
      have hvs : vs.length ≤ 4 := by rw [hia.length]; exact Nat.le_trans hle hlen
      have F₂ := frF (ps := [(Str.ofString "counts", .ref cnt)]) (by intro p hp; simp only [List.mem_cons, List.not_mem_nil, or_false] at hp; rcases hp with rfl; assumption) F₁
      clear F₁
      refine' storeX_C (cn := Str.ofString "_law_fewest") F₂ N₁ rfl (UpdF.tail (fun e => hI1 e.symm) (UpdF.tail (neN lc4) (UpdF.head (List.forall_mem_cons.mpr ⟨neN (by omega), List.forall_mem_cons.mpr ⟨neN (by omega), fun p hp => hoo p hp _ (.tail _ (.head _))⟩⟩)))) d1 ?_
      clear F₂ N₁
      intro h5 o5 F₃ N₃ d5
      have hmr : (r, W.listOf us.toArray uk) ∈ (I, oI) :: (cnt, W.listOf cs.toArray kc) :: (L' + 1 + 1 + 1, o5) :: (L' + 1 + 1, o2) :: (L' + 1, o3) :: rest := .tail _ (.tail _ (.tail _ (.tail _ (.tail _ hum))))
      try k_fold
      have hpn : p.length ≤ 4 := by rw [← hui.length]; exact hup
      have hsn : sh.length ≤ 4 := by rw [← hia.length]; exact hvs
      have hpf : (p.length : Int) < 2 ^ 63 := by omega
      have hsf : (sh.length : Int) < 2 ^ 63 := by omega
      k_with "call builtin:len" => (k_here; (rename Fr _ _ _ _ => fL); (rename News _ _ _ _ => nL); (first | refine kst_len nL hmr hui.length hpf ?_ | refine kst_len nL (.head _) hys huf ?_ | refine len_list (stays_list fL.keep hla) (by rw [List.size_toArray, hia.length]; exact hsf) (by rw [List.size_toArray, hia.length]; exact ?_)))
      k_with "CompSrcT" => refine Hold.to ?_
      k_with "FEnd" => refine Hold.to ?_
      k_with "eval ListComp" => (k_here; k_dflt (refine LCt.ListComp_T (F₀ := by k_asm) (by with_unfolding_all rfl) (by decide) (by rfl) (by decide) (by rfl) ?_))
      have hun1 : ∀ j, unl sh p (j + 1) = unl sh p j + (if sh.getD j 0 ≠ p.getD j 0 then 1 else 0) := by
        intro j
        unfold unl
        rw [List.range_succ, List.filter_append, List.length_append]
        congr 1
        by_cases hq : sh.getD j 0 = p.getD j 0
        · rw [if_neg (not_not_intro hq)]
          simp only [List.filter_cons, List.filter_nil]
          rw [if_neg (fun h => (of_decide_eq_true h) hq)]
          rfl
        · rw [if_pos hq]
          simp only [List.filter_cons, List.filter_nil]
          rw [if_pos (decide_eq_true hq)]
          rfl
      k_steps
      · refine Hold.by ?_
        (rename Fr _ _ _ _ => FR); (rename News _ _ _ _ => NR); (rename IsRange _ _ _ _ _ _ _ _ => hR)
        refine LCt.CompSrcT.range (n := sh.length) rfl FR NR hR (small_one (by omega) (by omega) (by omega) (by omega)) (size_one _) (Nat.le_trans hsn (by decide)) fun g => ?_
        refine comp_test (fun j ys => ys.length = unl sh p j) rfl ?ct ?cf
        case ct =>
          clear FR NR
          rintro j v ys I9 oI9 C oC D m₂ h9 tk9 E' hj ⟨t9, rfl⟩ hys hC hx F N off ne
          have hmr9 : (r, W.listOf us.toArray uk) ∈ (I9, oI9) :: (C, oC) :: (D, LCg.lst ys) :: (I, oI) :: (cnt, W.listOf cs.toArray kc) :: (L' + 1 + 1 + 1, o5) :: (L' + 1 + 1, o2) :: (L' + 1, o3) :: rest := .tail _ (.tail _ (.tail _ hmr))
          k_with "CompEnd" => refine Hold.to ?_
          have e0 : ((0 : Int) + (j : Int)).toNat = j := by omega
          k_steps
          · refine Hold.by ?_
            (rename Fr _ _ _ _ => FE); (rename News _ _ _ _ => NE); (rename _ ≠ _ => hq)
            rw [e0] at hq
            refine LCg.CompEnd.intro FE NE _ (fun q hq => hq) off trivial ⟨rfl, ?_⟩
            rw [hun1, if_pos hq, List.length_append, hys]
            rfl
          · refine Hold.by ?_
            (rename Fr _ _ _ _ => FE); (rename News _ _ _ _ => NE); (rename List.getD sh _ _ = _ => hq)
            rw [e0] at hq
            refine LCg.CompEnd.intro FE NE _ (fun q hq => hq) off trivial ⟨rfl, ?_⟩
            rw [hun1, if_neg (not_not_intro hq), hys]
            rfl
        case cf =>
          clear FR NR
          rintro ys hys
          unfold LCg.FinE
          intro D9 h9 tk9 F9 N9 o1'
          have hnD : (I : Nat) ≠ D9 ∧ (cnt : Nat) ≠ D9 := ⟨o1'.1, o1'.2.1⟩
          have huf : ((unl sh p sh.length : Nat) : Int) < 2 ^ 63 := by
            have : unl sh p sh.length ≤ sh.length := by
              unfold unl
              exact Nat.le_trans (List.length_filter_le _ _) (by rw [List.length_range]; exact Nat.le_refl _)
            omega
          k_with "call builtin:list.append" => refine Hold.to ?_
          k_steps
          refine Hold.by ?_
          (rename Fr _ _ _ _ => FE); (rename News _ _ _ _ => NE)
          have hz : cs.toArray.size ≤ sizeLine := by
            rw [List.size_toArray, hcs.length, List.length_map]
            refine Nat.le_trans (List.length_filter_le _ _) (Nat.le_trans (List.length_take_le' _ _) ?_)
            rw [hpc]
            exact Nat.le_trans (pow4 hlen) (by decide)
          refine append_K FE NE (Upd.tail (fun e => hnD.2 e.symm) (Upd.tail (fun e => hI0 e.symm) (Upd.head (List.forall_mem_cons.mpr ⟨fun e => lc4 e.symm, List.forall_mem_cons.mpr ⟨fun e => lc5 e.symm, List.forall_mem_cons.mpr ⟨fun e => lc6 e.symm, fun p hp => hoo p hp _ (.head _)⟩⟩⟩)))) ?_ hz
          clear FE NE
          intro h' FE NE
          rw [List.push_toArray] at NE
          k_steps
          refine Hold.by ?_
          (rename Fr _ _ _ _ => FE); (rename News _ _ _ _ => NE)
          refine ⟨_, _, _, (cnt, W.listOf (cs ++ [Value.int (unl sh p sh.length : Nat) _]).toArray (kc + 1)) :: (L' + 1 + 1 + 1, o5) :: (L' + 1 + 1, o2) :: (L' + 1, o3) :: rest, rfl, FE, fun p hp => NE p (.tail _ hp), ?_, ⟨o5, o2, o3, _, _, _, kc + 1, rest, rfl, hoo, d5, d2, d3, hP, ?_, rfl⟩⟩
          · intro q hq
            rcases List.mem_cons.mp hq with rfl | hq
            · exact hI0
            · exact hoff' o5 q (.tail _ hq)
          · rw [List.take_add_one, hp]
            have hlp : p.length = sh.length := by omega
            simp only [Option.toList_some, List.filter_append, List.filter_cons, List.filter_nil]
            rw [if_pos (decide_eq_true hlp), List.map_append]
            exact hcs.append (.cons _ _ .nil)
      · refine Hold.by ?_
        (rename Fr _ _ _ _ => FE); (rename News _ _ _ _ => NE); (rename _ ≠ _ => hq)
        have hlp : ¬ p.length = sh.length := fun h => hq (by rw [h])
        refine ⟨_, _, _, (cnt, W.listOf cs.toArray kc) :: (L' + 1 + 1 + 1, o5) :: (L' + 1 + 1, o2) :: (L' + 1, o3) :: rest, rfl, FE, NE, hoff' _, ⟨o5, o2, o3, _, _, cs, kc, rest, rfl, hoo, d5, d2, d3, hP, ?_, rfl⟩⟩
        rw [List.take_add_one, hp]
        simp only [Option.toList_some, List.filter_append, List.filter_cons, List.filter_nil]
        rw [if_neg (fun h => hlp (of_decide_eq_true h)), List.append_nil]
        exact hcs
    case gd =>
      intro m₁ news₁ h tk hJ F₁ N₁
      clear FB NB
      obtain ⟨o1, o2, o3, v1, v2, cs, kc, rest, rfl, hoo, d1, d2, d3, hP, hcs, hm⟩ := hJ
      rw [List.length_map, hP.2.len, List.take_length] at hcs
      have F₂ := frF (ps := [(Str.ofString "counts", .ref cnt)]) (by intro p hp; simp only [List.mem_cons, List.not_mem_nil, or_false] at hp; rcases hp with rfl; assumption) F₁
      clear F₁
      dsimp only
      try k_fold
      k_with "call builtin:min" => refine Hold.to ?_
      k_steps
      refine Hold.by ?_
      (rename Fr _ _ _ _ => FE); (rename News _ _ _ _ => NE)
      refine kso_min FE NE ⟨_, (NE _ (.head _)).1, rfl, _, rfl⟩ hcs ?ne rfl ?_
      case ne =>
        rw [List.length_map]
        have hin : lo.take sh.length ∈ pp := by
          rw [hpp]
          have e : subsF lo [[]] = subsF (lo.drop sh.length) (subsF (lo.take sh.length) [[]]) := by rw [← subsF_app, List.take_append_drop]
          rw [e]
          exact subsF_mem _ _ _ (subsF_self _ _ [] (.head _))
        refine List.length_pos_of_mem (a := lo.take sh.length) (List.mem_filter.mpr ⟨hin, decide_eq_true ?_⟩)
        rw [List.length_take]
        omega
      intro h' M t' k' F' N' hM1 hM2
      have hM : M = fewest sh lo := by
        rw [hpp] at hM1 hM2
        exact min_is hM1 hM2
      subst hM
      clear hM1 hM2 FE NE
      k_steps
      exact hret _ _ _ (by assumption) (Fr.keep (by assumption))
end Mine
end
section
open PySem PySem.W PySem.Spec PySem.Calls PyProof.Rows PyProof
local macro_rules | `(tactic| k_room) => `(tactic| ktr_room)
local macro_rules | `(tactic| k_units) => `(tactic| ktr_units)
namespace Mine
theorem fillPr : PySem.Challenge.rw_sw0075_01 = PySem.Challenge.rw_sw0075_01 ∧ hd.heap_39 = hd.heap_39 := by
  k_with_none
  w_top off
  k_fill
  exact ⟨rfl, rfl⟩
set_option pp.deepTerms false in
set_option pp.maxSteps 3000 in
set_option maxHeartbeats 1000000 in
theorem pri1_c {w : World} {mean : ExcName → Option Value} {mg mb : Str → Option Value} {sh lo : List Int} {vs ws : List Value} {a1 b1 : Addr} {na nb : Nat}
   {dp un : Nat} {gd : Option (List Code)} {cn : Str} {cs : Scope} {a : Addr} {ccd : Value} {cl : List (Str × Addr)} {outer : List Env} {A₀ : Around} {base h₀ : Heap} {L : Addr} {m : Str → Option Value} {s : Shared} {Q E : Value → Shared → Prop}
   (B : Below A₀ base outer h₀) (F : Fr h₀ L s.heap m) (X : (hd.heap_39 w.params).In h₀) (T : Top hd.view_39 LOOSE mean mg mb h₀) (hck : cs.kind = .function) (hdp : dp + 6 < recursionLimit) (hun : un + 48 < cLine)
   (ha : s.heap.get? a1 = some (W.listOf vs.toArray na)) (hia : IntsAre vs sh) (hb : s.heap.get? b1 = some (W.listOf ws.toArray nb)) (hib : IntsAre ws lo) (hlen : lo.length ≤ 4) (hle : sh.length ≤ lo.length)
   (hret : ∀ t h' tk', Fr h₀ L h' m → s.heap.StaysIn h' → Q (.int (price1 sh lo) t) { s with heap := h', toks := tk' }) :
   wpAny (model PySem.Challenge.rw_sw0075_01.row.prog w) (ktrTop dp un gd cn cs L a ccd cl outer) (call (.ref 261) [.ref a1, .ref b1]) Q E s := by
  refine wpAny_call ?_
  k_dflt (refine' enterK (ps := [(Str.ofString "other", .ref b1), (Str.ofString "one", .ref a1)]) ?k1 ?k2 ?k3 ?k5 ?kA ?kF ?kK ?k6 ?k7 ?k8 ?k9 ?kB ?kP ?_ ?c2 ?c3 ?c4 ?c5; (case kA => exact rfl); (case kF => exact rfl); (case kK => assumption); (case k1 => k_asm); (case k2 => k_asm); (case k3 => k_asm); (case k5 => k_asm); (case k6 => k_is); (case k7 => k_is); (case k8 => ktr_room); (case k9 => exact BindsTo.of_eq rfl); (case c5 => decide); (case kB => exact locs rfl); (case kP => exact rfl); (case c2 => exact rfl); (case c3 => exact rfl); (case c4 => exact rfl); k_whole; intro L' h' F' N' B' X' T'; (try dsimp only); (try k_fold))
  have hla : s.heap.IsList a1 vs.toArray := ⟨_, ha, rfl, _, rfl⟩
  have hlb : s.heap.IsList b1 ws.toArray := ⟨_, hb, rfl, _, rfl⟩
  have hsf : (sh.length : Int) < 2 ^ 63 := by omega
  have hlf : (lo.length : Int) < 2 ^ 63 := by omega
  k_with "call builtin:len" => (k_here; (rename Fr _ _ _ _ => fL); (first | refine len_list (stays_list fL.keep hla) (by rw [List.size_toArray, hia.length]; exact hsf) (by rw [List.size_toArray, hia.length]; exact ?_) | refine len_list (stays_list fL.keep hlb) (by rw [List.size_toArray, hib.length]; exact hlf) (by rw [List.size_toArray, hib.length]; exact ?_)))
  k_with "call ref" => refine Hold.to ?_
  k_steps
  refine Hold.by ?_
  (rename Fr _ _ _ _ => fL); (rename News _ _ _ _ => nL)
  k_dflt (refine' few_c (sh := sh) (lo := lo) ?cB ?cF ?cX ?cT ?ck ?cd ?cu (fL.keep _ _ ha) hia (fL.keep _ _ hb) hib hlen hle ?_; (case cB => k_asm); (case cF => exact fL); (case cX => k_asm); (case cT => k_asm); (case ck => first | exact rfl | assumption); (case cd => ktr_room); (case cu => ktr_units))
  intro t9 h9 tk9 F9 K9
  have N9 := newsKeep nL K9
  clear K9 nL fL
  (try dsimp only); (try k_fold); (try k_sweep)
  k_steps
  exact hret _ _ _ (by assumption) (Fr.keep (by assumption))
set_option pp.deepTerms false in
set_option pp.maxSteps 3000 in
set_option maxHeartbeats 1000000 in
theorem pri_c {w : World} {mean : ExcName → Option Value} {mg mb : Str → Option Value} {sh lo : List Int} {vs ws : List Value} {a1 b1 : Addr} {na nb : Nat}
   {dp un : Nat} {gd : Option (List Code)} {cn : Str} {cs : Scope} {a : Addr} {ccd : Value} {cl : List (Str × Addr)} {outer : List Env} {A₀ : Around} {base h₀ : Heap} {L : Addr} {m : Str → Option Value} {s : Shared} {Q E : Value → Shared → Prop}
   (B : Below A₀ base outer h₀) (F : Fr h₀ L s.heap m) (X : (hd.heap_39 w.params).In h₀) (T : Top hd.view_39 LOOSE mean mg mb h₀) (hck : cs.kind = .function) (hdp : dp + 8 < recursionLimit) (hun : un + 64 < cLine)
   (ha : s.heap.get? a1 = some (W.listOf vs.toArray na)) (hia : IntsAre vs sh) (hb : s.heap.get? b1 = some (W.listOf ws.toArray nb)) (hib : IntsAre ws lo) (hlen : lo.length ≤ 4) (hlen2 : sh.length ≤ 4)
   (hret : ∀ t h' tk', Fr h₀ L h' m → s.heap.StaysIn h' → Q (.int (price sh lo) t) { s with heap := h', toks := tk' }) :
   wpAny (model PySem.Challenge.rw_sw0075_01.row.prog w) (ktrTop dp un gd cn cs L a ccd cl outer) (call (.ref 261) [.ref a1, .ref b1]) Q E s := by
  refine wpAny_call ?_
  k_dflt (refine' enterK (ps := [(Str.ofString "other", .ref b1), (Str.ofString "one", .ref a1)]) ?k1 ?k2 ?k3 ?k5 ?kA ?kF ?kK ?k6 ?k7 ?k8 ?k9 ?kB ?kP ?_ ?c2 ?c3 ?c4 ?c5; (case kA => exact rfl); (case kF => exact rfl); (case kK => assumption); (case k1 => k_asm); (case k2 => k_asm); (case k3 => k_asm); (case k5 => k_asm); (case k6 => k_is); (case k7 => k_is); (case k8 => ktr_room); (case k9 => exact BindsTo.of_eq rfl); (case c5 => decide); (case kB => exact locs rfl); (case kP => exact rfl); (case c2 => exact rfl); (case c3 => exact rfl); (case c4 => exact rfl); k_whole; intro L' h' F' N' B' X' T'; (try dsimp only); (try k_fold))
  have hla : s.heap.IsList a1 vs.toArray := ⟨_, ha, rfl, _, rfl⟩
  have hlb : s.heap.IsList b1 ws.toArray := ⟨_, hb, rfl, _, rfl⟩
  have hsf : (sh.length : Int) < 2 ^ 63 := by omega
  have hlf : (lo.length : Int) < 2 ^ 63 := by omega
  k_with "call builtin:len" => (k_here; (rename Fr _ _ _ _ => fL); (first | refine len_list (stays_list fL.keep hla) (by rw [List.size_toArray, hia.length]; exact hsf) (by rw [List.size_toArray, hia.length]; exact ?_) | refine len_list (stays_list fL.keep hlb) (by rw [List.size_toArray, hib.length]; exact hlf) (by rw [List.size_toArray, hib.length]; exact ?_)))
  k_with "call ref" => refine Hold.to ?_
  k_steps
  · refine Hold.by ?_
    (rename Fr _ _ _ _ => fL); (rename News _ _ _ _ => nL)
    have hlt : lo.length < sh.length := by omega
    k_dflt (refine' pri1_c (sh := lo) (lo := sh) ?cB ?cF ?cX ?cT ?ck ?cd ?cu (fL.keep _ _ hb) hib (fL.keep _ _ ha) hia hlen2 (Nat.le_of_lt hlt) ?_; (case cB => k_asm); (case cF => exact fL); (case cX => k_asm); (case cT => k_asm); (case ck => first | exact rfl | assumption); (case cd => ktr_room); (case cu => ktr_units))
    intro t9 h9 tk9 F9 K9
    have N9 := newsKeep nL K9
    clear K9 nL fL
    (try dsimp only); (try k_fold); (try k_sweep)
    k_steps
    have e : price sh lo = price1 lo sh := if_pos hlt
    rw [← e]
    exact hret _ _ _ (by assumption) (Fr.keep (by assumption))
  · refine Hold.by ?_
    (rename Fr _ _ _ _ => fL); (rename News _ _ _ _ => nL)
    have hlt : ¬ lo.length < sh.length := by omega
    k_dflt (refine' few_c (sh := sh) (lo := lo) ?cB ?cF ?cX ?cT ?ck ?cd ?cu (fL.keep _ _ ha) hia (fL.keep _ _ hb) hib hlen (Nat.le_of_not_lt hlt) ?_; (case cB => k_asm); (case cF => exact fL); (case cX => k_asm); (case cT => k_asm); (case ck => first | exact rfl | assumption); (case cd => ktr_room); (case cu => ktr_units))
    intro t9 h9 tk9 F9 K9
    have N9 := newsKeep nL K9
    clear K9 nL fL
    (try dsimp only); (try k_fold); (try k_sweep)
    k_steps
    have e : price sh lo = price1 sh lo := if_neg hlt
    have e' : price1 sh lo = 8 * ((lo.length : Int) - sh.length) + 2 * fewest sh lo := rfl
    rw [e, e'] at hret
    exact hret _ _ _ (by assumption) (Fr.keep (by assumption))
end Mine
end
section
open PySem PySem.W PySem.Spec PySem.Calls PyProof.Rows PyProof
namespace Mine
theorem join_one (x Y : Str) : Txt.join x [Y] = Y := by
  first | rfl | (unfold Txt.join; rfl) | simp [Txt.join]
theorem S_app (l k : List Nat) : S l ++ S k = S (l ++ k) := by
  have : (S l ++ S k).cps = (S (l ++ k)).cps := by rw [Str.cps_append]; simp [S]
  cases h1 : (S l ++ S k); cases h2 : S (l ++ k)
  rw [h1, h2] at this
  cases this; rfl
theorem join_three (x a b c : Str) : Txt.join x [a, b, c] = a ++ x ++ (b ++ x ++ c) := by
  unfold Txt.join
  show Builtin.Str.glued x [a, b, c] = _
  rw [StrLaws.glued_eq_join]
  rfl
theorem tab_text (x : List Nat) : Txt.join (Str.ofString "\r\n") [Str.ofString "n: " ++ (Str.ofString "p=\"" ++ S x ++ Str.ofString "\""), Str.ofString "", Str.ofString ""] = S (tabL x) := by
  rw [join_three]
  have e1 : Str.ofString "n: " = S [110, 58, 32] := rfl
  have e2 : Str.ofString "p=\"" = S [112, 61, 34] := rfl
  have e3 : Str.ofString "\"" = S [34] := rfl
  have e4 : Str.ofString "" = S [] := rfl
  have e5 : Str.ofString "\r\n" = S [13, 10] := rfl
  rw [e1, e2, e3, e4, e5]
  simp only [S_app]
  unfold tabL
  congr 1
  simp
end Mine
end
section
open PySem PySem.W PySem.Spec PySem.Calls PyProof.Rows PyProof
local macro_rules | `(tactic| k_room) => `(tactic| ((try simp only [depth_mark, depth_under_make, depth_under_kw, depth_in1, depth_deeper, depth_caller]); (try dsimp only [ktrTop]); omega))
local macro_rules | `(tactic| k_units) => `(tactic| (have hcL9 := cLine_is; (try simp only [units_in1, units_deeper, Around.mark_units, units_caller]); (try dsimp only [ktrTop]); omega))
local macro_rules | `(tactic| walk_at "binaryOp Mod str ref") => `(tactic| (refine Mine.Hold.to ?_))
local macro_rules | `(tactic| walk_at "call type:str") => `(tactic| (k_here; (with_reducible show wpAny _ _ (call (Value.type "str") [Value.ref _]) _ _ _); k_dflt (refine' kso_call ?k1 ?k2 ?k3 ?k4 ?k5 ?_; (case k1 => k_units); (case k2 => k_in); (case k3 => k_inst); (case k4 => k_is); (case k5 => k_is); k_whole)))
namespace Mine
theorem fillT : PySem.Challenge.rw_sw0075_01 = PySem.Challenge.rw_sw0075_01 ∧ hd.heap_39 = hd.heap_39 := by
  k_with_none
  w_top off
  k_fill
  exact ⟨rfl, rfl⟩
set_option pp.deepTerms false in
set_option pp.maxSteps 3000 in
set_option maxHeartbeats 2000000 in
theorem tab_c {w : World} {mean : ExcName → Option Value} {mg mb : Str → Option Value} {x : List Nat} {tx : Tok}
   {dp un : Nat} {gd : Option (List Code)} {cn : Str} {cs : Scope} {a : Addr} {ccd : Value} {cl : List (Str × Addr)} {outer : List Env} {A₀ : Around} {base h₀ : Heap} {L : Addr} {m : Str → Option Value} {s : Shared} {Q E : Value → Shared → Prop}
   (B : Below A₀ base outer h₀) (F : Fr h₀ L s.heap m) (X : (hd.heap_39 w.params).In h₀) (T : Top hd.view_39 LOOSE mean mg mb h₀) (hck : cs.kind = .function) (hdp : dp + 6 < recursionLimit) (hun : un + 48 < cLine)
   (hr : x.length ≤ 60) (hr0 : 0 < x.length) (ho : ∀ c ∈ x, c ∈ [38, 59, 103, 108, 116])
   (hret : ∀ t h' tk', Fr h₀ L h' m → s.heap.StaysIn h' → Q (.str (S (tabL x)) t) { s with heap := h', toks := tk' }) :
   wpAny (model PySem.Challenge.rw_sw0075_01.row.prog w) (ktrTop dp un gd cn cs L a ccd cl outer) (call (.ref 268) [.str (S x) tx]) Q E s := by
  obtain ⟨xt, hxt⟩ : ∃ xt, xt = S x := ⟨_, rfl⟩
  have hxs : ∀ c ∈ xt.cps.toList, c ∈ plainSigns := by
    intro c hc
    rw [hxt] at hc
    exact (show ∀ c ∈ [38, 59, 103, 108, 116], c ∈ plainSigns by decide) c (ho c (by simpa [S] using hc))
  have hlx : xt.length = x.length := by rw [hxt]; exact S_len x
  rw [← hxt]
  refine wpAny_call ?_
  k_dflt (refine' enterK (ps := [(Str.ofString "text", .str xt tx)]) ?k1 ?k2 ?k3 ?k5 ?kA ?kF ?kK ?k6 ?k7 ?k8 ?k9 ?kB ?kP ?_ ?c2 ?c3 ?c4 ?c5; (case kA => exact rfl); (case kF => exact rfl); (case kK => assumption); (case k1 => k_asm); (case k2 => k_asm); (case k3 => k_asm); (case k5 => k_asm); (case k6 => k_is); (case k7 => k_is); (case k8 => ktr_room); (case k9 => exact BindsTo.of_eq rfl); (case c5 => decide); (case kB => exact locs rfl); (case kP => exact rfl); (case c2 => exact rfl); (case c3 => exact rfl); (case c4 => exact rfl); k_whole; intro L' h' F' N' B' X' T'; (try dsimp only); (try k_fold))
  k_with "getMethod ref" => (k_here; (with_reducible show wpAny _ _ (getMethod (Value.ref _) (Str.ofString "search") _) _ _ _); (first | refine search_get (by k_in) (pat69 _) ?_ | refine search_get (by k_in) (pat74 _) ?_))
  have hpz : xt.cps.size ≤ 1000 := by show xt.length ≤ 1000; omega
  k_with "call builtin:re.Pattern.search" => (k_here; (first | refine search_name (by k_in) (pat69 _) (by first | decide | exact hxs) (by first | decide | exact hpz) ?_ | refine search_value (by k_in) (pat74 _) (by first | decide | exact hxs) (by first | decide | exact hpz) ?_))
  have hxl : x.length ≤ 1000 := by omega
  have h92 : 92 ∉ x := fun h => absurd (ho _ h) (by decide)
  have h34 : 34 ∉ x := fun h => absurd (ho _ h) (by decide)
  k_with "call builtin:str.replace" => (k_here; (first | refine rep_free (l := [112]) (c := 95) rfl (by decide) rfl (by decide) htk rfl (by decide) (by decide) ?_ | refine rep_free (l := x) (c := 92) hxt h92 rfl (by decide) htk rfl hxl (by decide) ?_ | refine rep_free (l := x) (c := 34) hxt h34 rfl (by decide) htk rfl hxl (by decide) ?_); intro t9 k9 hk9; (have htk := Nat.lt_of_lt_of_le (Nat.lt_succ_of_lt (Nat.lt_succ_of_lt htk)) hk9))
  have hl0 : 0 < xt.length := by omega
  have hl1 : (Str.ofString "p=\"").length = 3 := rfl
  have hl2 : (Str.ofString "\"").length = 1 := rfl
  have hl3 : (Str.ofString "p=\"" ++ xt ++ Str.ofString "\"").length ≤ 100 := by rw [Str.length_append, Str.length_append]; omega
  k_with "call builtin:str.join" => refine Hold.to ?_
  k_with "execs cons" => (k_here; (first | refine gentoks ?_ | refine gentoksL ?_); intro tk htk)
  obtain ⟨jv, hjv⟩ : ∃ j, j = Str.ofString "p=\"" ++ xt ++ Str.ofString "\"" := ⟨_, rfl⟩
  have hjl3 : jv.length ≤ 100 := by rw [hjv]; exact hl3
  have hjl : jv.length ≤ 1000 := by omega
  k_with "FOut" => refine Hold.to ?_
  refine cut_fresh (σ := Addr × Addr × Addr × Tok) 1 (fun c => [(c.1, W.listOf #[] 0), (c.2.1, instObj 205 c.2.2.1), (c.2.2.1, dictOf [{ hash := PyData.keyHash w.params (Str.ofString "_headers"), key := .str (Str.ofString "_headers") c.2.2.2, val := .ref c.1 }] 1)]) (fun c => [(Str.ofString "text", .str xt tx), (Str.ofString "table", .ref c.2.1)]) (fun c => True) (fun c => @LT.lt Nat instLTNat c.2.1 c.1 ∧ @LT.lt Nat instLTNat c.2.2.1 c.1) F' ?first ?done
  case first =>
    dsimp only [List.take, List.drop]
    (try k_fold)
    k_steps
    refine Hold.by ?_
    (rename Fr _ _ _ _ => lF')
    (rename News _ _ _ _ => lN')
    exact fout (_, _, _, _) lF' lN' (List.forall_mem_cons.mpr ⟨List.mem_of_getElem? (i := 0) rfl, List.forall_mem_cons.mpr ⟨List.mem_of_getElem? (i := 1) rfl, List.forall_mem_cons.mpr ⟨List.mem_of_getElem? (i := 2) rfl, List.forall_mem_nil _⟩⟩⟩) trivial (by kst_all) (by assumption)
  case done =>
  clear F' N'
  rintro ⟨l1, x1, d1, t1⟩ u h1 tk1 _ hne F' N'
  dsimp only [List.drop] at hne F' N' ⊢
  try k_fold
  refine cut_fresh (σ := Addr × Tok × Tok) 1 (fun c => [(c.1, ({ cls := .type "tuple", data := .seq #[.str (Str.ofString "n") c.2.1, .str jv c.2.2] } : Obj)), (l1, W.listOf (#[].push (.ref c.1)) (0 + 1)), (x1, instObj 205 d1), (d1, dictOf [{ hash := PyData.keyHash w.params (Str.ofString "_headers"), key := .str (Str.ofString "_headers") t1, val := .ref l1 }] 1)]) (fun c => [(Str.ofString "table", .ref x1)]) (fun c => True) (fun c => True) F' ?first2 ?done2
  case first2 =>
    dsimp only [List.take, List.drop]
    (try k_fold)
    k_steps
    refine Hold.by ?_
    (rename Fr _ _ _ _ => lF')
    (rename News _ _ _ _ => lN')
    set_option maxHeartbeats 200000 in
    refine join_listC (ys := [Str.ofString "p=\"" ++ xt ++ Str.ofString "\""]) (News.isList lN' (.head _)) ?_ (by decide) ?_ ?_
    · exact .cons _ _ .nil
    · simp only [List.map_cons, List.map_nil, List.sum_cons, List.sum_nil, List.length_cons, List.length_nil]; omega
    intro t5 k5
    rw [join_one, ← hjv]
    k_steps
    refine Hold.by ?_
    (rename Fr _ _ _ _ => kF')
    (rename News _ _ _ _ => kN')
    exact fout (_, _, _) kF' kN' (List.forall_mem_cons.mpr ⟨List.mem_of_getElem? (i := 0) rfl, List.forall_mem_cons.mpr ⟨List.mem_of_getElem? (i := 3) rfl, List.forall_mem_cons.mpr ⟨List.mem_of_getElem? (i := 4) rfl, List.forall_mem_cons.mpr ⟨List.mem_of_getElem? (i := 5) rfl, List.forall_mem_nil _⟩⟩⟩⟩) trivial (by kst_all) trivial
  case done2 =>
  clear F' N'
  rintro ⟨p1, ta, tb⟩ u2 h2 tk2 _ _ F' N'
  dsimp only [List.drop] at F' N' ⊢
  try k_fold
  k_steps
  refine Hold.by ?_
  (rename News _ _ _ _ => nL9)
  refine' Mine.mod_n ?mdA ?mdB ?mdC ?_
  case mdA => exact nL9
  case mdB => k_mem
  case mdC => with_reducible assumption
  intro _ _
  k_steps
  refine Hold.by ?_
  (rename Fr _ _ _ _ => kF')
  (rename News _ _ _ _ => kN')
  have hn3 : (Str.ofString "n: ").length = 3 := rfl
  have hn0 : (Str.ofString "").length = 0 := rfl
  have hn4 : (Str.ofString "n: " ++ jv).length ≤ 103 := by rw [Str.length_append]; omega
  set_option maxHeartbeats 200000 in
  refine join_listC (ys := [Str.ofString "n: " ++ jv, Str.ofString "", Str.ofString ""]) (News.isList kN' (.head _)) ?_ (by decide) ?_ ?_
  · exact .cons _ _ (.cons _ _ (.cons _ _ .nil))
  · simp only [List.map_cons, List.map_nil, List.sum_cons, List.sum_nil, List.length_cons, List.length_nil]; omega
  intro t6 k6
  have hend := tab_text x
  rw [← hxt, ← hjv] at hend
  rw [hend]
  k_steps
  exact hret _ _ _ (by assumption) (Fr.keep (by assumption))
end Mine
end
section
open PySem PySem.W PySem.Spec PySem.Calls PyProof.Rows PyProof
namespace Mine
abbrev addrOf {h : Heap} {l : Addr} {xs : Array Value} (_ : h.IsList l xs) : Addr := l
abbrev valsOf {vs : List Value} {ns : List Int} (_ : IntsAre vs ns) : List Value := vs
abbrev numsIn {vs : List Value} {ns : List Int} (_ : IntsAre vs ns) : List Int := ns
theorem ints_mem {vs : List Value} {ns : List Int} (h : IntsAre vs ns) : ∀ v ∈ vs, ∃ n t, v = .int n t := by
  induction h with
  | nil => intro v hv; cases hv
  | cons n t _ ih =>
    intro v hv
    rcases List.mem_cons.mp hv with rfl | hv
    · exact ⟨_, _, rfl⟩
    · exact ih v hv
theorem ints_made : ∀ {vs : List Value}, (∀ v ∈ vs, ∃ n t, v = .int n t) → ∃ ns, IntsAre vs ns
  | [], _ => ⟨[], .nil⟩
  | v :: r, h => by
    obtain ⟨n, t, rfl⟩ := h _ (.head _)
    obtain ⟨ns, hn⟩ := ints_made (vs := r) fun v hv => h v (.tail _ hv)
    exact ⟨n :: ns, .cons _ _ hn⟩
theorem ints_pick {vs : List Value} {ns : List Int} (h : IntsAre vs ns) (a b c : Option Int) : ∃ ks, IntsAre (slicePick vs.toArray a b c).toList ks := by
  refine ints_made fun v hv => ints_mem h v ?_
  unfold slicePick at hv
  simp only [List.mem_filterMap] at hv
  obtain ⟨i, _, e⟩ := hv
  have e' : vs[i]? = some v := by simpa using e
  exact List.mem_of_getElem? e'
section
variable {prog : Program} {w : World} {A : Around} {E : Value → Shared → Prop} {s : Shared} {h₀ : Heap} {L : Addr} {m : Str → Option Value} {news : List (Addr × Obj)}
theorem sum_pick {l : Addr} {vs : List Value} {ns : List Int} {a b c : Option Int} {k : Nat} {Q : Value → Shared → Prop} (hh : A.handled = none) (F : Fr h₀ L s.heap m) (N : News h₀ L s.heap news) (hl : (l, ({ cls := .type "list", data := .seq (slicePick vs.toArray a b c) k } : Obj)) ∈ news) (hi : IntsAre vs ns)
    (h : ∀ (x : Int) h' tk t', Fr h₀ L h' m → News h₀ L h' news → Q (.int x t') { s with heap := h', toks := tk }) :
    wpAny (model prog w) A (call (.builtin "sum") [.ref l]) Q E s := by
  obtain ⟨ks, hk⟩ := ints_pick hi a b c
  refine sumK (vs := (slicePick vs.toArray a b c).toList) hh F N ?_ hk (h _)
  exact ⟨_, (N _ hl).1, rfl, _, rfl⟩
end
end Mine
namespace Mine
abbrev newsOne {h₀ h : Heap} {L a : Addr} {o : Obj} {r : List (Addr × Obj)} (_ : News h₀ L h ((a, o) :: r)) : Addr := a
abbrev newsTwo {h₀ h : Heap} {L a b : Addr} {o p : Obj} {r : List (Addr × Obj)} (_ : News h₀ L h ((a, o) :: (b, p) :: r)) : Addr := b
abbrev frBase {h₀ : Heap} {L : Addr} {h : Heap} {m : Str → Option Value} (_ : Fr h₀ L h m) : Heap := h₀
abbrev frAt {h₀ : Heap} {L : Addr} {h : Heap} {m : Str → Option Value} (_ : Fr h₀ L h m) : Addr := L
theorem news_add {h₀ h h' : Heap} {L l : Addr} {m : Str → Option Value} {news : List (Addr × Obj)} {ob : Obj} (F : Fr h₀ L h m) (o : h.get? l = none) (N : News h₀ L h' news) (g : h'.get? l = some ob) : News h₀ L h' ((l, ob) :: news) := by
  intro p hp
  rcases List.mem_cons.mp hp with rfl | hp
  · refine ⟨g, ?_, ?_⟩
    · intro e
      obtain ⟨oL, es, ep, hL, _⟩ := F.ns
      have e' : l = L := e
      rw [e', hL] at o
      cases o
    · show h₀.get? l = none
      cases q : h₀.get? l with
      | none => rfl
      | some x => rw [F.keep _ _ q] at o; cases o
  · exact N p hp
/-- the marks of a row, as octets -/
def Marks (r : List Int) : Prop := ∀ c ∈ r, c = 60 ∨ c = 62
theorem escN_L {r : List Int} (h : Marks r) : escN (r.map Int.toNat) = escL r := by
  rw [escN_eq (by
    intro c hc
    obtain ⟨n, hn, rfl⟩ := List.mem_map.mp hc
    rcases h n hn with rfl | rfl
    · exact .inl rfl
    · exact .inr rfl)]
  induction r with
  | nil => rfl
  | cons c r ih =>
    have hc : ((c.toNat : Nat) : Int) = c := by rcases h c (.head _) with rfl | rfl <;> rfl
    rw [List.map_cons, List.flatMap_cons, hc, ih fun x hx => h x (.tail _ hx)]
    rfl
theorem esc_c {w : World} {mean : ExcName → Option Value} {mg mb : Str → Option Value} {r : List Nat} {tx : Tok} {e : Addr}
   {dp un : Nat} {gd : Option (List Code)} {cn : Str} {cs : Scope} {a : Addr} {ccd : Value} {cl : List (Str × Addr)} {outer : List Env} {A₀ : Around} {base h₀ : Heap} {L : Addr} {m : Str → Option Value} {s : Shared} {Q E : Value → Shared → Prop}
   (B : Below A₀ base outer h₀) (F : Fr h₀ L s.heap m) (X : (hd.heap_39 w.params).In h₀) (T : Top hd.view_39 LOOSE mean mg mb h₀) (hck : cs.kind = .function) (hdp : dp + 2 < recursionLimit) (hun : un + 16 < cLine)
   (hr : r.length ≤ 10) (ho : ∀ c ∈ r, c = 60 ∨ c = 62) (he : e = 223 ∨ e = 230 ∨ e = 237)
   (hret : ∀ t h' tk', Fr h₀ L h' m → s.heap.StaysIn h' → Q (.str (S (escN r)) t) { s with heap := h', toks := tk' }) :
   wpAny (model PySem.Challenge.rw_sw0075_01.row.prog w) (ktrTop dp un gd cn cs L a ccd cl outer) (call (.ref e) [.str (S r) tx]) Q E s := by
  rcases he with rfl | rfl | rfl
  · exact esc1_c B F X T hck hdp hun hr ho hret
  · exact esc2_c B F X T hck hdp hun hr ho hret
  · exact esc3_c B F X T hck hdp hun hr ho hret
def TextsAre (ts : List Value) (rows : List (List Int)) : Prop := Fa2 (fun v r => ∃ t, v = Value.str (S (escL r)) t) ts rows
def LawJ (e T R r1 r2 : Addr) (v1 v2 : List Value) (n1 n2 : Nat) (q1 q2 : List Int) (i : Nat) (m : Str → Option Value) (nx : List (Addr × Obj)) : Prop :=
  ∃ ts kt, nx = [(T, W.listOf (List.toArray ts) kt), (R, W.listOf #[.ref r1, .ref r2] 0), (r1, W.listOf v1.toArray n1), (r2, W.listOf v2.toArray n2)] ∧ TextsAre ts ([q1, q2].take i) ∧ m (Str.ofString "escape") = some (.ref e) ∧ m (Str.ofString "texts") = some (.ref T) ∧ m (Str.ofString "rows") = some (.ref R)
def NumJ (e T R M : Addr) (q : List Int) (tt : Tok) (rest : List (Addr × Obj)) (i : Nat) (m : Str → Option Value) (nx : List (Addr × Obj)) : Prop :=
  ∃ us kn, nx = (M, W.listOf (List.toArray us) kn) :: rest ∧ IntsAre us (numL (q.take i)) ∧ m (Str.ofString "escape") = some (.ref e) ∧ m (Str.ofString "texts") = some (.ref T) ∧ m (Str.ofString "rows") = some (.ref R) ∧ m (Str.ofString "numbers") = some (.ref M) ∧ m (Str.ofString "text") = some (.str (S (escL q)) tt)
theorem turn_item {r1 r2 : Addr} {v1 v2 : List Value} {n1 n2 : Nat} {q1 q2 : List Int} {i : Nat} {v : Value} (hv : [Value.ref r1, Value.ref r2][i]? = some v) (i1 : IntsAre v1 q1) (i2 : IntsAre v2 q2) :
    ∃ r vs n q, v = .ref r ∧ (r, W.listOf vs.toArray n) ∈ [(r1, W.listOf v1.toArray n1), (r2, W.listOf v2.toArray n2)] ∧ IntsAre vs q ∧ [q1, q2][i]? = some q ∧ (q = q1 ∨ q = q2) := by
  match i, hv with
  | 0, hv => cases hv; exact ⟨r1, v1, n1, q1, rfl, .head _, i1, rfl, .inl rfl⟩
  | 1, hv => cases hv; exact ⟨r2, v2, n2, q2, rfl, .tail _ (.head _), i2, rfl, .inr rfl⟩
  | _ + 2, hv => cases hv
theorem row_ints {v : List Value} {x : Int} (h : IntsAre v (rowF 5 (2 + x.fmod 30).toNat)) : ∃ n : Nat, 2 ≤ n ∧ n ≤ 31 ∧ IntsAre v (rowF 5 n) := by
  have h0 := Int.fmod_nonneg_of_pos x (show (0 : Int) < 30 by decide)
  have h1 := Int.fmod_lt_of_pos x (show (0 : Int) < 30 by decide)
  exact ⟨_, by omega, by omega, h⟩
theorem row_ok {n : Nat} (h2 : 2 ≤ n) (h : n ≤ 31) : Marks (rowF 5 n) ∧ (rowF 5 n).length ≤ 4 ∧ 0 < (rowF 5 n).length := by
  have key : ∀ n < 32, 2 ≤ n → (∀ c ∈ rowF 5 n, c = 60 ∨ c = 62) ∧ (rowF 5 n).length ≤ 4 ∧ 0 < (rowF 5 n).length := by decide
  exact key n (by omega) h2
theorem okRow_all {n : Nat} (h2 : 2 ≤ n) (h : n ≤ 31) : okRow n = true := by
  have : n = 2 ∨ n = 3 ∨ n = 4 ∨ n = 5 ∨ n = 6 ∨ n = 7 ∨ n = 8 ∨ n = 9 ∨ n = 10 ∨ n = 11 ∨ n = 12 ∨ n = 13 ∨ n = 14 ∨ n = 15 ∨ n = 16 ∨ n = 17 ∨ n = 18 ∨ n = 19 ∨ n = 20 ∨ n = 21 ∨ n = 22 ∨ n = 23 ∨ n = 24 ∨ n = 25 ∨ n = 26 ∨ n = 27 ∨ n = 28 ∨ n = 29 ∨ n = 30 ∨ n = 31 := by omega
  rcases this with rfl | rfl | rfl | rfl | rfl | rfl | rfl | rfl | rfl | rfl | rfl | rfl | rfl | rfl | rfl | rfl | rfl | rfl | rfl | rfl | rfl | rfl | rfl | rfl | rfl | rfl | rfl | rfl | rfl | rfl
  · exact okRow2
  · exact okRow3
  · exact okRow4
  · exact okRow5
  · exact okRow6
  · exact okRow7
  · exact okRow8
  · exact okRow9
  · exact okRow10
  · exact okRow11
  · exact okRow12
  · exact okRow13
  · exact okRow14
  · exact okRow15
  · exact okRow16
  · exact okRow17
  · exact okRow18
  · exact okRow19
  · exact okRow20
  · exact okRow21
  · exact okRow22
  · exact okRow23
  · exact okRow24
  · exact okRow25
  · exact okRow26
  · exact okRow27
  · exact okRow28
  · exact okRow29
  · exact okRow30
  · exact okRow31
theorem pair_ok {a b : Nat} (ha : 2 ≤ a) (ha' : a ≤ 31) (hb : 2 ≤ b) (hb' : b ≤ 31) :
    levF (escL (rowF 5 a)) (escL (rowF 5 b)) (price (rowF 5 a) (rowF 5 b)) = price (rowF 5 a) (rowF 5 b) ∧ levF (tabL (escL (rowF 5 b))) (tabL (escL (rowF 5 a))) (price (rowF 5 a) (rowF 5 b) - 1) = price (rowF 5 a) (rowF 5 b) := by
  have h := okRow_all ha ha'
  unfold okRow at h
  have h' := List.all_eq_true.mp h (b - 2) (List.mem_range.mpr (by omega))
  rw [show b - 2 + 2 = b by omega] at h'
  unfold okPair at h'
  simp only [Bool.and_eq_true, decide_eq_true_eq] at h'
  exact h'
theorem escL_signs (r : List Int) : ∀ c ∈ escL r, c ∈ [38, 59, 103, 108, 116] := by
  intro c hc
  obtain ⟨n, _, hn⟩ := List.mem_flatMap.mp hc
  unfold escS at hn
  split at hn
  · exact (show ∀ c ∈ [38, 108, 116, 59], c ∈ [38, 59, 103, 108, 116] by decide) c hn
  · exact (show ∀ c ∈ [38, 103, 116, 59], c ∈ [38, 59, 103, 108, 116] by decide) c hn
theorem tab_ok {x : List Nat} (h : Ok x) : Ok (tabL x) := by
  intro c hc
  unfold tabL at hc
  rcases List.mem_append.mp hc with hc | hc
  · rcases List.mem_append.mp hc with hc | hc
    · exact (show ∀ c ∈ [110, 58, 32, 112, 61, 34], c ∈ okSigns by decide) c hc
    · exact h c hc
  · exact (show ∀ c ∈ [34, 13, 10, 13, 10], c ∈ okSigns by decide) c hc
theorem tab_len (x : List Nat) : (tabL x).length = x.length + 11 := by
  unfold tabL
  simp
theorem fillW : PySem.Challenge.rw_sw0075_01 = PySem.Challenge.rw_sw0075_01 ∧ hd.heap_39 = hd.heap_39 := by
  k_with_none
  w_top off
  k_fill
  exact ⟨rfl, rfl⟩
theorem esc_keep {w : World} {h : Heap} {e : Addr} (X : (hd.heap_39 w.params).In h) (he : e = 223 ∨ e = 230 ∨ e = 237) : keepIn (hd.heap_39 w.params) (.ref e) = true := by
  rcases he with rfl | rfl | rfl
  · k_is
  · k_is
  · k_is
theorem strs_snoc {vs : List Value} {ys : List Str} (h : StrsAre vs ys) (y : Str) (t : Tok) : StrsAre (vs ++ [.str y t]) (ys ++ [y]) := by
  induction h with
  | nil => exact .cons _ _ .nil
  | cons y' t' _ ih => exact .cons _ _ ih
theorem strs_len {vs : List Value} {ys : List Str} (h : StrsAre vs ys) : vs.length = ys.length := by
  induction h with
  | nil => rfl
  | cons y' t' _ ih => rw [List.length_cons, List.length_cons, ih]
theorem join_empty : ∀ l : List Nat, Txt.join (S []) (l.map fun c => S [c]) = S l
  | [] => rfl
  | [c] => by
    show Txt.join (S []) [S [c]] = S [c]
    first | rfl | simp [Txt.join]
  | c :: d :: r => by
    have ih := join_empty (d :: r)
    rw [List.map_cons] at ih
    rw [List.map_cons, List.map_cons]
    have e : Txt.join (S []) (S [c] :: S [d] :: r.map fun c => S [c]) = S [c] ++ S [] ++ Txt.join (S []) (S [d] :: r.map fun c => S [c]) := by
      unfold Txt.join
      rw [StrLaws.glued_eq_join, StrLaws.glued_eq_join]
      rfl
    rw [e, ih, S_app, S_app]
    rfl
theorem short_no {us : List Value} {k : Nat} {x : Array Value} (h : us.length ≤ k) (hk : k + x.size ≤ sizeLine := by decide) : ¬(!us.toArray.isEmpty && Builtin.List.listTooLong (us.toArray.size + x.size)) = true := by
  have e : Builtin.List.listTooLong (us.toArray.size + x.size) = false := by
    unfold Builtin.List.listTooLong
    rw [List.size_toArray]
    exact decide_eq_false (by omega)
  rw [e, Bool.and_false]
  exact Bool.false_ne_true
theorem isList_news {h₀ h : Heap} {L l : Addr} {news : List (Addr × Obj)} {vs : List Value} {n : Nat} (N : News h₀ L h news) (hm : (l, W.listOf vs.toArray n) ∈ news) : h.IsList l vs.toArray := ⟨_, (N _ hm).1, rfl, _, rfl⟩
section
variable {prog : Program} {w : World} {A : Around} {E : Value → Shared → Prop} {s : Shared} {h₀ : Heap} {L : Addr} {m : Str → Option Value} {Q : Value → Shared → Prop} {rest : List (Addr × Obj)}
theorem extend_two {us : List Value} {a b : Value} {D I M : Addr} {oI : Obj} {k n : Nat} (F : Fr h₀ L s.heap m) (N : News h₀ L s.heap ((D, W.listOf #[a, b] k) :: (I, oI) :: (M, W.listOf us.toArray n) :: rest)) (hD : M < D) (hI : I ≠ M) (ho : ∀ p ∈ rest, p.1 ≠ M) (hul : us.length ≤ 8)
    (h : ∀ h', Fr h₀ L h' m → News h₀ L h' ((I, oI) :: (M, W.listOf (us ++ [a, b]).toArray (n + 1)) :: rest) → Q .none { s with heap := h' }) : wpAny (model prog w) A (call (.builtin "list.extend") [.ref M, .ref D]) Q E s := by
  refine kl_extend (its := us.toArray) (its2 := #[a, b]) (l := us ++ [a, b]) F N (.head _) (by simp) (by simp) (Upd.tail (Nat.ne_of_gt hD) (Upd.tail hI (Upd.head ho))) (short_no hul (show 8 + 2 ≤ sizeLine by decide)) ?_ ?_ fun h' F' N' => h h' F' fun p hp => N' p (.tail _ hp)
  · exact Nat.le_trans (by simpa using hul) (show 8 ≤ sizeLine by decide)
  · exact Nat.le_trans (Nat.add_le_add_right (by simpa using hul) 2) (show 8 + 2 ≤ sizeLine + 1 by decide)
theorem append_one {us : List Value} {x : Value} {M : Addr} {n : Nat} (F : Fr h₀ L s.heap m) (N : News h₀ L s.heap ((M, W.listOf us.toArray n) :: rest)) (ho : ∀ p ∈ rest, p.1 ≠ M) (hul : us.length ≤ 8)
    (h : ∀ h', Fr h₀ L h' m → News h₀ L h' ((M, W.listOf (us ++ [x]).toArray (n + 1)) :: rest) → Q .none { s with heap := h' }) : wpAny (model prog w) A (call (.builtin "list.append") [.ref M, x]) Q E s := by
  refine append_K F N (Upd.head ho) (fun h' F' N' => h h' F' ?_) (Nat.le_trans (by simpa using hul) (show 8 ≤ sizeLine by decide))
  simpa using N'
end
theorem strs_sum : ∀ q : List Int, ((q.map fun c => S [c.toNat]).map (·.length)).sum = q.length
  | [] => rfl
  | c :: r => by
    rw [List.map_cons, List.map_cons, List.sum_cons, strs_sum r, List.length_cons]
    show 1 + r.length = r.length + 1
    omega
theorem join_row (q : List Int) : Txt.join (Str.ofString "") (q.map fun c => S [c.toNat]) = S (q.map Int.toNat) := by
  have h := join_empty (q.map Int.toNat)
  rw [List.map_map] at h
  exact h
theorem row_nat {q : List Int} (h : Marks q) : ∀ c ∈ q.map Int.toNat, c = 60 ∨ c = 62 := by
  intro c hc
  obtain ⟨n, hn, rfl⟩ := List.mem_map.mp hc
  rcases h n hn with rfl | rfl
  · exact .inl rfl
  · exact .inr rfl
theorem texts_two {ts : List Value} {qa qb : List Int} (h : TextsAre ts [qa, qb]) : ∃ ta tb, ts = [.str (S (escL qa)) ta, .str (S (escL qb)) tb] := by
  cases h with
  | cons ha h =>
    cases h with
    | cons hb h =>
      cases h
      obtain ⟨ta, rfl⟩ := ha
      obtain ⟨tb, rfl⟩ := hb
      exact ⟨ta, tb, rfl⟩
theorem esc_p {w : World} {mean : ExcName → Option Value} {mg mb : Str → Option Value} {q : List Int} {tx : Tok} {e : Addr}
   {dp un : Nat} {gd : Option (List Code)} {cn : Str} {cs : Scope} {a : Addr} {ccd : Value} {cl : List (Str × Addr)} {outer : List Env} {A₀ : Around} {base h₀ : Heap} {L : Addr} {m : Str → Option Value} {s : Shared} {Q E : Value → Shared → Prop}
   (B : Below A₀ base outer h₀) (F : Fr h₀ L s.heap m) (X : (hd.heap_39 w.params).In h₀) (T : Top hd.view_39 LOOSE mean mg mb h₀) (hck : cs.kind = .function) (hdp : dp + 2 < recursionLimit) (hun : un + 16 < cLine)
   (hq : q.length ≤ 4) (hm : Marks q) (he : e = 223 ∨ e = 230 ∨ e = 237)
   (hret : ∀ t h' tk', Fr h₀ L h' m → s.heap.StaysIn h' → Q (.str (S (escL q)) t) { s with heap := h', toks := tk' }) :
   wpAny (model PySem.Challenge.rw_sw0075_01.row.prog w) (ktrTop dp un gd cn cs L a ccd cl outer) (call (.ref e) [.str (S (q.map Int.toNat)) tx]) Q E s :=
  esc_c B F X T hck hdp hun (by rw [List.length_map]; omega) (row_nat hm) he (by rw [escN_L hm]; exact hret)
theorem pri_p {w : World} {mean : ExcName → Option Value} {mg mb : Str → Option Value} {sh lo : List Int} {vs ws : List Value} {a1 b1 : Addr} {na nb : Nat} {pz : Int}
   {dp un : Nat} {gd : Option (List Code)} {cn : Str} {cs : Scope} {a : Addr} {ccd : Value} {cl : List (Str × Addr)} {outer : List Env} {A₀ : Around} {base h₀ : Heap} {L : Addr} {m : Str → Option Value} {s : Shared} {Q E : Value → Shared → Prop}
   (B : Below A₀ base outer h₀) (F : Fr h₀ L s.heap m) (X : (hd.heap_39 w.params).In h₀) (T : Top hd.view_39 LOOSE mean mg mb h₀) (hck : cs.kind = .function) (hdp : dp + 8 < recursionLimit) (hun : un + 64 < cLine)
   (hpz : pz = price sh lo) (ha : s.heap.get? a1 = some (W.listOf vs.toArray na)) (hia : IntsAre vs sh) (hb : s.heap.get? b1 = some (W.listOf ws.toArray nb)) (hib : IntsAre ws lo) (hlen : lo.length ≤ 4) (hlen2 : sh.length ≤ 4)
   (hret : ∀ t h' tk', Fr h₀ L h' m → s.heap.StaysIn h' → Q (.int pz t) { s with heap := h', toks := tk' }) :
   wpAny (model PySem.Challenge.rw_sw0075_01.row.prog w) (ktrTop dp un gd cn cs L a ccd cl outer) (call (.ref 261) [.ref a1, .ref b1]) Q E s := by
  subst hpz
  exact pri_c B F X T hck hdp hun ha hia hb hib hlen hlen2 hret
theorem lev_p {w : World} {mean : ExcName → Option Value} {mg mb : Str → Option Value} {x y : List Nat} {mx z : Int} {tx ty tm : Tok}
   {dp un : Nat} {gd : Option (List Code)} {cn : Str} {cs : Scope} {a : Addr} {ccd : Value} {cl : List (Str × Addr)} {outer : List Env} {A₀ : Around} {base h₀ : Heap} {L : Addr} {m : Str → Option Value} {s : Shared} {Q E : Value → Shared → Prop}
   (B : Below A₀ base outer h₀) (F : Fr h₀ L s.heap m) (X : (hd.heap_39 w.params).In h₀) (T : Top hd.view_39 LOOSE mean mg mb h₀) (hck : cs.kind = .function) (hdp : dp + 2 < recursionLimit) (hun : un + 16 < cLine)
   (hz : levF x y mx = z) (hlx : x.length ≤ 60) (hly : y.length ≤ 60) (hox : Ok x) (hoy : Ok y)
   (hret : ∀ t h' tk', Fr h₀ L h' m → s.heap.StaysIn h' → Q (.int z t) { s with heap := h', toks := tk' }) :
   wpAny (model PySem.Challenge.rw_sw0075_01.row.prog w) (ktrTop dp un gd cn cs L a ccd cl outer) (call (.ref 52) [.str (S x) tx, .str (S y) ty, .int mx tm]) Q E s := by
  subst hz
  exact lev_c B F X T hck hdp hun (by omega) (by omega) hox hoy hret
end Mine
end
section
open PySem PySem.W PySem.Spec PySem.Calls PyProof.Rows PyProof
local macro_rules | `(tactic| walk_at "call builtin:sum") => `(tactic| (k_here; (rename News _ _ _ _ => nL9); (rename Fr _ _ _ _ => fL9); (with_reducible rename IntsAre _ _ => iL9); refine' Mine.sum_pick ?spH fL9 nL9 (.head _) iL9 ?_; (case spH => exact rfl); clear nL9; intro x9 h9 k9 t9 F9 N9))
local macro_rules | `(tactic| walk_at "callWith ref") => `(tactic| (dsimp only; (with_reducible show wpAny _ _ (callWith _ (Value.ref _) _ _ _) _ _ _); k_here; k_dflt (refine' callWith_K ?k1 ?k2 ?_; (case k1 => with_reducible assumption); (case k2 => with_reducible assumption); k_whole)))
local macro_rules | `(tactic| walk_at "call builtin:list.extend") => `(tactic| (refine Mine.Hold.to ?_))
local macro_rules | `(tactic| walk_at "binaryOp Add ref ref") => `(tactic| (refine Mine.Hold.to ?_))
local macro_rules | `(tactic| walk_at "compareOp NotEq ref ref") => `(tactic| (refine Mine.Hold.to ?_))
local macro_rules | `(tactic| walk_at "call builtin:list.append") => `(tactic| (refine Mine.Hold.to ?_))
namespace Mine
section
variable {prog : Program} {w : World} {A : Around} {E : Value → Shared → Prop} {s : Shared} {Q : Value → Shared → Prop} {z : Int} {t u : Tok}
theorem same_eq (h : Q (.bool true) s) : wpAny (model prog w) A (compareOp .Eq (.int z t) (.int z u)) Q E s := eq_int (by rw [beq_self_eq_true]; exact h)
theorem same_ne (h : Q (.bool false) s) : wpAny (model prog w) A (compareOp .NotEq (.int z t) (.int z u)) Q E s := ne_int (by rw [bne_self_eq_false]; exact h)
end
end Mine
local macro_rules | `(tactic| walk_at "compareOp Eq int int") => `(tactic| (with_reducible refine Mine.same_eq ?_))
local macro_rules | `(tactic| walk_at "compareOp NotEq int int") => `(tactic| (with_reducible refine Mine.same_ne ?_))
namespace Mine
set_option pp.deepTerms false in
set_option pp.maxSteps 3000 in
set_option maxHeartbeats 2000000 in
theorem law_w : PySem.Challenge.rw_sw0075_01.Holds := by
  refine hd ?_
  k_go0
  all_goals try k_fold
  (rename Fr _ _ _ _ => F); (rename Heap.IsList _ _ _ => hLs); (rename IntsAre _ _ => hIs)
  obtain ⟨lw, hlw⟩ : ∃ a, a = addrOf hLs := ⟨_, rfl⟩
  unfold addrOf at hlw
  subst hlw
  refine cut_fresh (σ := Addr) 1 (fun _ => []) (fun e => [(Str.ofString "escape", .ref e), (Str.ofString "script", .ref lw)]) (fun _ => True) (fun e => e = 223 ∨ e = 230 ∨ e = 237) F ?first ?done
  case first =>
    dsimp only [List.take, List.drop]
    k_fold
    k_with "FOut" => refine Hold.to ?_
    k_steps
    all_goals refine Hold.by ?_
    all_goals ((rename Fr _ _ _ _ => fL); (rename News _ _ _ _ => nL))
    · exact fout 223 fL nL (List.forall_mem_nil _) trivial (by kst_all) (Or.inl rfl)
    · exact fout 230 fL nL (List.forall_mem_nil _) trivial (by kst_all) (Or.inr (Or.inl rfl))
    · exact fout 237 fL nL (List.forall_mem_nil _) trivial (by kst_all) (Or.inr (Or.inr rfl))
  case done =>
    clear F
    intro e u h tk _ he F N
    dsimp only [List.drop] at he F N ⊢
    k_fold
    (with_reducible rename Frag.In _ _ => KX)
    have hke := esc_keep KX he
    k_with "call ref" => refine Hold.to ?_
    k_with "exec For" => refine Hold.to ?_
    k_with "exec For Name" => refine Hold.to ?_
    k_with "exec For Name Name" => refine Hold.to ?_
    k_with "exec For Name Name cons nil" => refine Hold.to ?_
    k_with "FAt" => refine Hold.to ?_
    k_with "CompSrc" => refine Hold.to ?_
    k_with "CompEnd" => refine Hold.to ?_
    k_with "FEnd" => refine Hold.to ?_
    k_steps
    refine Hold.by ?_
    (rename Fr _ _ _ _ => fL); (rename News _ _ _ _ => nL)
    k_dflt (refine' row_c _ _ _ _ _ _ _ _ _ _ _ _ _ _ _ _ _ _ _ _ _ _ _ ?cB ?cF ?cX ?cT ?ck ?cd ?cu ?_; (case cF => exact fL); (case cB => k_asm); (case cX => k_asm); (case cT => k_asm); (case ck => first | exact rfl | assumption); (case cd => decide); (case cu => decide))
    intro r1 v1 n1 h1 tk1 F1 K1 g1 o1 i1
    have N1 := news_add fL o1 (newsKeep nL K1) g1
    clear K1 nL fL g1 o1
    obtain ⟨ra, ha2, ha31, i1'⟩ := row_ints i1
    have j1 : Hold (IntsAre _ _) := i1'
    clear i1 i1'
    (try dsimp only); (try k_fold)
    k_steps
    refine Hold.by ?_
    (rename Fr _ _ _ _ => fL); (rename News _ _ _ _ => nL)
    k_dflt (refine' row_c _ _ _ _ _ _ _ _ _ _ _ _ _ _ _ _ _ _ _ _ _ _ _ ?cB ?cF ?cX ?cT ?ck ?cd ?cu ?_; (case cF => exact fL); (case cB => k_asm); (case cX => k_asm); (case cT => k_asm); (case ck => first | exact rfl | assumption); (case cd => decide); (case cu => decide))
    intro r2 v2 n2 h2 tk2 F2 K2 g2 o2 i2
    have N2 := news_add fL o2 (newsKeep nL K2) g2
    clear K2 nL fL g2 o2
    obtain ⟨rb, hb2, hb31, i2'⟩ := row_ints i2
    have j2 : Hold (IntsAre _ _) := i2'
    clear i2 i2'
    (try dsimp only); (try k_fold)
    k_steps
    refine Hold.by ?_
    (rename Fr _ _ _ _ => FL); (rename News _ _ _ _ => NL)
    obtain ⟨T1, hT1⟩ : ∃ a, a = newsOne NL := ⟨_, rfl⟩
    unfold newsOne at hT1
    subst hT1
    obtain ⟨R1, hR1⟩ : ∃ a, a = newsTwo NL := ⟨_, rfl⟩
    unfold newsTwo at hR1
    subst hR1
    rename Shared => s1
    (rename R1 < T1 ∧ _ => lT)
    refine for_list (h₀ := s1.heap) (L := s1.heap.objs.size) ?_
    k_steps
    refine Hold.by ?_
    (rename Fr _ _ _ _ => FA); (rename News _ _ _ _ => NA)
    obtain ⟨hma, hla4, hla0⟩ := row_ok ha2 ha31
    obtain ⟨hmb, hlb4, hlb0⟩ := row_ok hb2 hb31
    obtain ⟨qa, hqa⟩ : ∃ q, q = rowF 5 ra := ⟨_, rfl⟩
    obtain ⟨qb, hqb⟩ : ∃ q, q = rowF 5 rb := ⟨_, rfl⟩
    rw [← hqa] at j1 hma hla4 hla0
    rw [← hqb] at j2 hmb hlb4 hlb0
    refine' FAt.intro (vs := [.ref r1, .ref r2]) (LawJ e T1 R1 r1 r2 v1 v2 n1 n2 qa qb) rfl FA (kst_newsOf (l' := [_, _, _, _]) NA (List.forall_mem_cons.mpr ⟨.head _, List.forall_mem_cons.mpr ⟨.tail _ (.head _), List.forall_mem_cons.mpr ⟨.tail _ (.tail _ (.tail _ (.tail _ (.head _)))), List.forall_mem_cons.mpr ⟨.tail _ (.tail _ (.head _)), List.forall_mem_nil _⟩⟩⟩⟩)) ?h0 ?hs ?turn ?done9
    case h0 => exact ⟨[], 0, rfl, .nil, rfl, rfl, rfl⟩
    case hs =>
      rintro i m nx ⟨ts, kt, rfl, _⟩
      exact .inr ⟨_, .tail _ (.head _), rfl, _, rfl⟩
    case turn =>
      intro i v m₁ news₁ h9 tk9 I oI hv hJ hoff hcI F₁ N₁
      clear NA FA
      obtain ⟨ts, kt, rfl, hts, hm1, hm2, hm3⟩ := hJ
      obtain ⟨r, vs, n, q, rfl, hrm, hri, hq, hqq⟩ := turn_item (n1 := n1) (n2 := n2) hv j1 j2
      have hmq : Marks q := by rcases hqq with rfl | rfl <;> assumption
      have hlq : q.length ≤ 4 := by rcases hqq with rfl | rfl <;> assumption
      k_with "eval ListComp" => (k_here; k_dflt (refine LCg.ListComp_U (F₀ := by k_asm) (by with_unfolding_all rfl) (by decide) (by rfl) (by decide) (by rfl) ?_))
      have F₂ := frF (ps := [(Str.ofString "escape", .ref e), (Str.ofString "texts", .ref T1), (Str.ofString "rows", .ref R1)]) (by intro p hp; simp only [List.mem_cons, List.not_mem_nil, or_false] at hp; rcases hp with rfl | rfl | rfl <;> assumption) F₁
      clear F₁
      try k_fold
      k_steps
      refine Hold.by ?_
      (rename Fr _ _ _ _ => F5); (rename News _ _ _ _ => N5)
      have hnT : r < T1 := by
        simp only [List.mem_cons, List.not_mem_nil, or_false, Prod.mk.injEq] at hrm
        rcases hrm with ⟨h, _⟩ | ⟨h, _⟩ <;> (rw [h]; simp only [*])
      have hrm5 : (r, W.listOf vs.toArray n) ∈ [(I, oI), (T1, W.listOf ts.toArray kt), (R1, W.listOf #[Value.ref r1, Value.ref r2] 0), (r1, W.listOf v1.toArray n1), (r2, W.listOf v2.toArray n2)] := .tail _ (.tail _ (.tail _ hrm))
      have hvl : vs.length ≤ 4 := by rw [hri.length]; exact hlq
      refine LCg.CompSrc.ledger (its := vs.toArray) (k := n) rfl F5 N5 hrm5 ?hsz fun g => ?_
      case hsz =>
        rw [List.size_toArray]
        exact Nat.le_trans hvl (by decide)
      refine comp_grow (fun j ys nx => nx = [(I, oI), (T1, W.listOf ts.toArray kt), (R1, W.listOf #[Value.ref r1, Value.ref r2] 0), (r1, W.listOf v1.toArray n1), (r2, W.listOf v2.toArray n2)] ∧ StrsAre ys ((q.take j).map fun c => S [c.toNat])) ⟨rfl, .nil⟩ ?ct ?cf
      case ct =>
        clear F5 N5
        rintro j v ys nx I9 oI9 C oC D m₂ h9 tk9 E' hv ⟨rfl, hys⟩ hC hx F N off ne
        obtain ⟨c, t0, hc, rfl⟩ := ints_at hri (by simpa using hv)
        have hcm := hmq c (List.mem_of_getElem? hc)
        k_steps
        refine Hold.by ?_
        refine LCg.CompEnd.intro F N _ (fun p hp => hp) off (.inr ⟨_, hrm5, rfl, _, rfl⟩) ⟨rfl, ?_⟩
        rw [List.take_add_one, hc, List.map_append]
        exact strs_snoc hys _ _
      case cf =>
        clear F5 N5
        rintro ys nx ⟨rfl, hys⟩
        rw [List.size_toArray, hri.length, List.take_length] at hys
        unfold LCg.FinE
        intro D9 h9 tk9 F9 N9 o1'
        k_with "call builtin:str.join" => refine Hold.to ?_
        k_steps
        refine Hold.by ?_
        refine join_listC (ys := q.map fun c => S [c.toNat]) (items := ys.toArray) ⟨_, (N9 _ (.head _)).1, rfl, _, rfl⟩ hys (by decide) (by rw [strs_sum, List.length_map]; omega) ?_
        intro t5 k5
        rw [join_row]
        k_steps
        refine Hold.by ?_
        (rename Fr _ _ _ _ => fL); (rename News _ _ _ _ => nL)
        k_dflt (refine' esc_p (q := q) ?cB ?cF ?cX ?cT ?ck ?cd ?cu hlq hmq he ?_; (case cF => exact fL); (case cB => k_asm); (case cX => k_asm); (case cT => k_asm); (case ck => first | exact rfl | assumption); (case cd => decide); (case cu => decide))
        intro t6 h6 tk6 F6 K6
        have N6 := newsKeep nL K6
        clear K6 nL fL
        (try dsimp only); (try k_fold)
        k_steps
        refine Hold.by ?_
        (rename Fr _ _ _ _ => fL); (rename News _ _ _ _ => nL)
        obtain ⟨M1, hM1⟩ : ∃ a, a = newsOne nL := ⟨_, rfl⟩
        unfold newsOne at hM1
        subst hM1
        (rename D9 < M1 ∧ _ => lM)
        have hMo : ∀ p ∈ [(I, oI), (T1, W.listOf ts.toArray kt), (R1, W.listOf #[Value.ref r1, Value.ref r2] 0), (r1, W.listOf v1.toArray n1), (r2, W.listOf v2.toArray n2)], p.1 ≠ M1 :=
          List.forall_mem_cons.mpr ⟨Nat.ne_of_lt lM.2.1, List.forall_mem_cons.mpr ⟨Nat.ne_of_lt lM.2.2.1, List.forall_mem_cons.mpr ⟨Nat.ne_of_lt lM.2.2.2.1, List.forall_mem_cons.mpr ⟨Nat.ne_of_lt lM.2.2.2.2.1, List.forall_mem_cons.mpr ⟨Nat.ne_of_lt lM.2.2.2.2.2, List.forall_mem_nil _⟩⟩⟩⟩⟩
        refine for_list (h₀ := s1.heap) (L := s1.heap.objs.size) ?_
        k_steps
        refine Hold.by ?_
        (rename Fr _ _ _ _ => FA); (rename News _ _ _ _ => NA)
        refine' FAt.intro (vs := vs) (NumJ e T1 R1 M1 q t6 [(I, oI), (T1, W.listOf ts.toArray kt), (R1, W.listOf #[Value.ref r1, Value.ref r2] 0), (r1, W.listOf v1.toArray n1), (r2, W.listOf v2.toArray n2)]) rfl FA (fun p hp => NA p (by rcases List.mem_cons.mp hp with rfl | hp; exact .head _; exact .tail _ (.tail _ hp))) ?h1 ?hs1 ?turn1 ?done1
        case h1 => exact ⟨[], 0, rfl, .nil, rfl, rfl, rfl, rfl, rfl⟩
        case hs1 =>
          rintro i m nx ⟨us, kn, rfl, _⟩
          exact .inr ⟨_, .tail _ hrm5, rfl, _, rfl⟩
        case turn1 =>
          intro i2 v2' m₂ nx2 h9 tk9 I2 oI2 hv2 hJ2 hoff2 hcI2 F₁ N₁
          obtain ⟨us, kn, rfl, hus, e1, e2, e3, e4, e5⟩ := hJ2
          obtain ⟨c, t0, hc, rfl⟩ := ints_at hri hv2
          have hcm := hmq c (List.mem_of_getElem? hc)
          have hul : us.length ≤ 8 := by
            rw [hus.length, numL_len, List.length_take]
            omega
          have F₂ := frF (ps := [(Str.ofString "escape", .ref e), (Str.ofString "texts", .ref T1), (Str.ofString "rows", .ref R1), (Str.ofString "numbers", .ref M1), (Str.ofString "text", .str (S (escL q)) t6)]) (by intro p hp; simp only [List.mem_cons, List.not_mem_nil, or_false] at hp; rcases hp with rfl | rfl | rfl | rfl | rfl <;> assumption) F₁
          clear F₁ FA NA
          try k_fold
          rcases hcm with rfl | rfl
          · k_steps
            refine Hold.by ?_
            (rename Fr _ _ _ _ => F7); (rename News _ _ _ _ => N7)
            (rename I2 < _ ∧ _ => lE)
            refine extend_two F7 N7 lE.2.1 (hoff2 _ (.head _)).symm hMo hul ?_
            clear F7 N7
            intro h8 F8 N8
            k_steps
            refine Hold.by ?_
            (rename Fr _ _ _ _ => F9'); (rename News _ _ _ _ => N9')
            refine ⟨_, _, _, _, rfl, F9', N9', List.forall_mem_cons.mpr ⟨hoff2 (M1, W.listOf us.toArray kn) (.head _), fun p hp => hoff2 p (.tail _ hp)⟩, ⟨_, _, rfl, ?_, rfl, rfl, rfl, rfl, rfl⟩⟩
            rw [List.take_add_one, hc, numL_append]
            exact hus.append (.cons _ _ (.cons _ _ .nil))
          · k_steps
            refine Hold.by ?_
            (rename Fr _ _ _ _ => F7); (rename News _ _ _ _ => N7)
            (rename I2 < _ ∧ _ => lE)
            refine extend_two F7 N7 lE.2.1 (hoff2 _ (.head _)).symm hMo hul ?_
            clear F7 N7
            intro h8 F8 N8
            k_steps
            refine Hold.by ?_
            (rename Fr _ _ _ _ => F9'); (rename News _ _ _ _ => N9')
            refine ⟨_, _, _, _, rfl, F9', N9', List.forall_mem_cons.mpr ⟨hoff2 (M1, W.listOf us.toArray kn) (.head _), fun p hp => hoff2 p (.tail _ hp)⟩, ⟨_, _, rfl, ?_, rfl, rfl, rfl, rfl, rfl⟩⟩
            rw [List.take_add_one, hc, numL_append]
            exact hus.append (.cons _ _ (.cons _ _ .nil))
        case done1 =>
          intro m₂ nx2 h9 tk9 hJ2 F₁ N₁
          obtain ⟨us, kn, rfl, hus, e1, e2, e3, e4, e5⟩ := hJ2
          rw [hri.length, List.take_length] at hus
          have hul : us.length ≤ 8 := by
            rw [hus.length, numL_len]
            omega
          have F₂ := frF (ps := [(Str.ofString "escape", .ref e), (Str.ofString "texts", .ref T1), (Str.ofString "rows", .ref R1), (Str.ofString "numbers", .ref M1), (Str.ofString "text", .str (S (escL q)) t6)]) (by intro p hp; simp only [List.mem_cons, List.not_mem_nil, or_false] at hp; rcases hp with rfl | rfl | rfl | rfl | rfl <;> assumption) F₁
          clear F₁ FA NA
          try k_fold
          k_steps
          refine Hold.by ?_
          (rename Fr _ _ _ _ => fL); (rename News _ _ _ _ => nL)
          k_dflt (refine' read_c (r := q) ?cB ?cF ?cX ?cT ?ck ?cd ?cu ?c1 ?_; (case cF => exact fL); (case cB => k_asm); (case cX => k_asm); (case cT => k_asm); (case ck => first | exact rfl | assumption); (case cd => decide); (case cu => decide); (case c1 => omega))
          intro lr vr nr h7 tk7 F7 K7 g7 o7 i7
          have N7 := news_add fL o7 (fun p hp => ⟨K7 _ _ (nL p hp).1 (nL p hp).2.1, (nL p hp).2⟩) g7
          clear K7 nL fL g7 o7
          (try dsimp only); (try k_fold)
          k_steps
          refine Hold.by ?_
          (rename Fr _ _ _ _ => F7'); (rename News _ _ _ _ => N7')
          refine kmk_add_ints (ns := numL q) (ms := [5]) F7' N7' (isList_news N7' (.tail _ (.tail _ (.head _)))) (isList_news N7' (.head _)) hus (.cons _ _ .nil) ?_ ?hz
          case hz =>
            rw [numL_len]
            exact Nat.le_trans (show 2 * q.length + 1 ≤ 9 by omega) (by decide)
          clear F7' N7'
          intro Ds sm h8 F8 N8 l8 hsm
          k_steps
          refine Hold.by ?_
          (rename News _ _ _ _ => N7')
          refine ke_ne_ints (xs := vr) (ys := sm) (isList_news N7' (.tail _ (.tail _ (.head _)))) (isList_news N7' (.head _)) i7 hsm (by ke_room) ?_
          rw [show (!decide (numL q ++ [5] = numL q ++ [5])) = false by simp]
          clear i7 hsm
          k_steps
          refine Hold.by ?_
          (rename Fr _ _ _ _ => F7'); (rename News _ _ _ _ => N7')
          have hTo : ∀ p ∈ [(I, oI), (R1, W.listOf #[Value.ref r1, Value.ref r2] 0), (r1, W.listOf v1.toArray n1), (r2, W.listOf v2.toArray n2)], p.1 ≠ T1 :=
            List.forall_mem_cons.mpr ⟨(hoff _ (.head _)).symm, List.forall_mem_cons.mpr ⟨Nat.ne_of_lt lT.1, List.forall_mem_cons.mpr ⟨Nat.ne_of_lt lT.2.2.2.1, List.forall_mem_cons.mpr ⟨Nat.ne_of_lt lT.2.1, List.forall_mem_nil _⟩⟩⟩⟩
          have htl : ts.length ≤ 8 := by
            rw [Fa2.len hts, List.length_take]
            exact Nat.le_trans (Nat.min_le_right _ _) (Nat.le_of_ble_eq_true rfl)
          have NT := kst_newsOf (l' := [(T1, W.listOf ts.toArray kt), (I, oI), (R1, W.listOf #[Value.ref r1, Value.ref r2] 0), (r1, W.listOf v1.toArray n1), (r2, W.listOf v2.toArray n2)]) N7' (List.forall_mem_cons.mpr ⟨List.mem_of_getElem? (i := 5) rfl, List.forall_mem_cons.mpr ⟨List.mem_of_getElem? (i := 4) rfl, List.forall_mem_cons.mpr ⟨List.mem_of_getElem? (i := 6) rfl, List.forall_mem_cons.mpr ⟨List.mem_of_getElem? (i := 7) rfl, List.forall_mem_cons.mpr ⟨List.mem_of_getElem? (i := 8) rfl, List.forall_mem_nil _⟩⟩⟩⟩⟩)
          refine append_one F7' NT hTo htl ?_
          clear F7' N7' NT
          intro h8' F8' N8'
          k_steps
          refine Hold.by ?_
          (rename Fr _ _ _ _ => F9'); (rename News _ _ _ _ => N9')
          refine ⟨_, _, _, [(T1, W.listOf (ts ++ [Value.str (S (escL q)) t6]).toArray (kt + 1)), (R1, W.listOf #[Value.ref r1, Value.ref r2] 0), (r1, W.listOf v1.toArray n1), (r2, W.listOf v2.toArray n2)], rfl, F9', kst_newsOf N9' ?mem, List.forall_mem_cons.mpr ⟨hoff (T1, W.listOf ts.toArray kt) (.head _), fun p hp => hoff p (.tail _ hp)⟩, ⟨_, _, rfl, ?_, rfl, rfl, rfl⟩⟩
          case mem => exact List.forall_mem_cons.mpr ⟨.tail _ (.head _), List.forall_mem_cons.mpr ⟨.head _, fun p hp => .tail _ (.tail _ hp)⟩⟩
          rw [List.take_add_one, hq]
          exact hts.append (.cons ⟨_, rfl⟩ .nil)
    case done9 =>
      intro m₁ news₁ h9 tk9 hJ F₁ N₁
      obtain ⟨ts, kt, rfl, hts, hm1, hm2, hm3⟩ := hJ
      obtain ⟨ta, tb, rfl⟩ := texts_two hts
      have F₂ := frF (ps := [(Str.ofString "escape", .ref e), (Str.ofString "texts", .ref T1), (Str.ofString "rows", .ref R1)]) (by intro p hp; simp only [List.mem_cons, List.not_mem_nil, or_false] at hp; rcases hp with rfl | rfl | rfl <;> assumption) F₁
      clear F₁ FA NA
      try k_fold
      k_steps
      obtain ⟨hp1, hp2⟩ := pair_ok ha2 ha31 hb2 hb31
      rw [← hqa, ← hqb] at hp1 hp2
      obtain ⟨pz, hpz⟩ : ∃ z, z = price qa qb := ⟨_, rfl⟩
      rw [← hpz] at hp1 hp2
      have hea : (escL qa).length ≤ 16 := by rw [escL_len]; omega
      have heb : (escL qb).length ≤ 16 := by rw [escL_len]; omega
      have hea0 : 0 < (escL qa).length := by rw [escL_len]; omega
      have heb0 : 0 < (escL qb).length := by rw [escL_len]; omega
      have hta : (tabL (escL qa)).length ≤ 60 := by rw [tab_len]; omega
      have htb : (tabL (escL qb)).length ≤ 60 := by rw [tab_len]; omega
      have hoa := escL_ok qa
      have hob := escL_ok qb
      have hsa := escL_signs qa
      have hsb := escL_signs qb
      obtain ⟨xa, hxa⟩ : ∃ x, x = escL qa := ⟨_, rfl⟩
      obtain ⟨xb, hxb⟩ : ∃ x, x = escL qb := ⟨_, rfl⟩
      refine Hold.by ?_
      (rename Fr _ _ _ _ => fL); (rename News _ _ _ _ => nL)
      k_dflt (refine' pri_p (sh := qa) (lo := qb) ?cB ?cF ?cX ?cT ?ck ?cd ?cu hpz (nL _ (List.mem_of_getElem? (i := 2) rfl)).1 j1 (nL _ (List.mem_of_getElem? (i := 3) rfl)).1 j2 hlb4 hla4 ?_; (case cF => exact fL); (case cB => k_asm); (case cX => k_asm); (case cT => k_asm); (case ck => first | exact rfl | assumption); (case cd => decide); (case cu => decide))
      intro t31 h31 tk31 F31 K31
      have N31 := newsKeep nL K31
      clear K31 nL fL
      (try dsimp only); (try k_fold)
      k_steps
      refine Hold.by ?_
      (rename Fr _ _ _ _ => fL); (rename News _ _ _ _ => nL)
      k_dflt (refine' lev_p (x := escL qa) (y := escL qb) ?cB ?cF ?cX ?cT ?ck ?cd ?cu hp1 (by omega) (by omega) hoa hob ?_; (case cF => exact fL); (case cB => k_asm); (case cX => k_asm); (case cT => k_asm); (case ck => first | exact rfl | assumption); (case cd => decide); (case cu => decide))
      intro t32 h32 tk32 F32 K32
      have N32 := newsKeep nL K32
      clear K32 nL fL
      (try dsimp only); (try k_fold)
      k_steps
      refine Hold.by ?_
      (rename Fr _ _ _ _ => fL); (rename News _ _ _ _ => nL)
      k_dflt (refine' tab_c (x := escL qb) ?cB ?cF ?cX ?cT ?ck ?cd ?cu (by omega) heb0 hsb ?_; (case cF => exact fL); (case cB => k_asm); (case cX => k_asm); (case cT => k_asm); (case ck => first | exact rfl | assumption); (case cd => decide); (case cu => decide))
      intro t33 h33 tk33 F33 K33
      have N33 := newsKeep nL K33
      clear K33 nL fL
      (try dsimp only); (try k_fold)
      k_steps
      refine Hold.by ?_
      (rename Fr _ _ _ _ => fL); (rename News _ _ _ _ => nL)
      k_dflt (refine' tab_c (x := escL qa) ?cB ?cF ?cX ?cT ?ck ?cd ?cu (by omega) hea0 hsa ?_; (case cF => exact fL); (case cB => k_asm); (case cX => k_asm); (case cT => k_asm); (case ck => first | exact rfl | assumption); (case cd => decide); (case cu => decide))
      intro t34 h34 tk34 F34 K34
      have N34 := newsKeep nL K34
      clear K34 nL fL
      (try dsimp only); (try k_fold)
      k_steps
      refine Hold.by ?_
      (rename Fr _ _ _ _ => fL); (rename News _ _ _ _ => nL)
      k_dflt (refine' lev_p (x := tabL (escL qb)) (y := tabL (escL qa)) ?cB ?cF ?cX ?cT ?ck ?cd ?cu hp2 htb hta (tab_ok hob) (tab_ok hoa) ?_; (case cF => exact fL); (case cB => k_asm); (case cX => k_asm); (case cT => k_asm); (case ck => first | exact rfl | assumption); (case cd => decide); (case cu => decide))
      intro t35 h35 tk35 F35 K35
      have N35 := newsKeep nL K35
      clear K35 nL fL
      (try dsimp only); (try k_fold)
      walk1
      walk1
      k_unfold
      (try dsimp only)
      w_end
      (show GoodW _ _ _ _ _ (.ok (.ret (.bool _))) _)
      refine goodW_bool (by assumption) (by assumption) (raisesW_false ?_) ?_
      · wrow_none_raised
      · with_unfolding_all rfl
end Mine
end
theorem PySem.Challenge.cw_sw0075_01_holds : PySem.Challenge.rw_sw0075_01.Holds := by
  exact Mine.law_w
