import PyProof.Rows.All
import Wide.All
import OpenK.AllK
import Wide.FinOn
import PySem.Challenge.RW_pg0049_01

set_option Elab.async false
set_option maxRecDepth 100000
set_option maxHeartbeats 8000000
set_option linter.all false

section PTop1
open PySem PySem.W PyProof.Rows
namespace Mine
open_top hd for PySem.Challenge.rw_pg0049_01
end Mine
end PTop1

section PBase
open PySem PySem.W PyProof.Rows PySem.Calls
namespace Mine
theorem offBase : True := by
  w_top off
  exact True.intro
abbrev prog0 : Program := PySem.Challenge.rw_pg0049_01.row.prog
/-- what a later heap keeps of an earlier one -/
abbrev Ar (dp un : Nat) (fr : Option (List Env)) (gd : Option (List Code)) : Around := { handled := none, depth := dp, frames := fr, guards := gd, units := un }
def Keep (h h' : Heap) : Prop := ∀ b o, h.get? b = some o → h'.get? b = some o
theorem Keep.refl (h : Heap) : Keep h h := fun _ _ e => e
theorem Keep.trans {a b c : Heap} (x : Keep a b) (y : Keep b c) : Keep a c := fun p o e => y p o (x p o e)

theorem Frkept {g h h' : Heap} {L : Addr} {m : Str → Option Value} (F : Fr g L h m) (k : Keep h h') : Fr g L h' m := ⟨F.ns.keeps k, fun b o e => k b o (F.keep b o e), F.above⟩
theorem Newskept {g h h' : Heap} {L : Addr} {news : List (Addr × Obj)} (N : News g L h news) (k : Keep h h') : News g L h' news := fun p hp => ⟨k _ _ (N p hp).1, (N p hp).2⟩
section
variable {w : World} {A : Around} {s : Shared} {K : Frag} {mg mb : Str → Option Value} {p : Program} {loose : List Str} {mean : ExcName → Option Value}
  {name qual : Str} {params : Arguments} {body : List Stmt} {scope : Scope} {dV kV doc pm cdv ct oc : Value} {an od : Option Addr} {osl : Array (Option Value)} {f : Addr} {args : List Value} {binds : List (Str × Value)}

theorem enter {Q : Value → Shared → Prop} {E : Value → Shared → Prop} {prog : Program} (X : K.In s.heap) (T : Top p loose mean mg mb s.heap)
    (ho : K.lookup f = some ⟨oc, od, .func (fnOf name qual params body scope dV kV doc pm an cdv ct), osl⟩) (hcd : codeIn K cdv qual = true) (hroom : A.depth < recursionLimit)
    (hbind : BindsTo s (fnOf name qual params body scope dV kV doc pm an cdv ct) ⟨args, []⟩ binds) (hloc : ∀ y ∈ binds, scope.names.lookup y.1 = some .local)
    (h : ∀ L' h₁ tk, Fr s.heap L' h₁ (fun y => binds.reverse.lookup y) → News s.heap L' h₁ [] →
      wpAny (model prog w) (A.deeper (envOf qual scope L' f cdv)) (execs body (envOf qual scope L' f cdv))
        (fun fl s' => Q (match fl with | .ret v => v | _ => .none) s') (fun _ _ => False)
        { s with heap := h₁, toks := tk })
    (hco : scope.isCoroutine = false) (hgen : scope.isGenerator = false) (hk : scope.kind = .function)
    (hcell : ∀ x ∈ scope.names, x.2 ≠ .cell) : wpAny (model prog w) A (call (.ref f) args) Q E s := by
  refine wpAny_call ?_
  refine codeAny_call_def (fd := fnOf name qual params body scope dV kV doc pm an cdv ct) (body := body) (binds := binds) hroom (X _ _ ho) rfl T.nolimit (codeRec_of X hcd) rfl hbind hcell hloc (fun h₁ hns hk₁ => ?_) hco hgen hk
  refine wpAny_mono (h s.heap.objs.size h₁ _ ⟨hns, hk₁, Nat.le_refl _⟩ News.nil) (fun fl s' hl => hl) fun _ _ y => y.elim
end

section
variable {prog : Program} {w : World} {A : Around} {E : Value → Shared → Prop} {s : Shared} {env : Env} {h₀ : Heap} {x : Str} {body : List Stmt} {Q : Flow → Shared → Prop}
/-- a for loop whose turns change the frame's names alone; the ledger stays -/
theorem loop_simple {I : Addr} {fp wr : List Addr} {n : Nat} {P : Nat → Value → Prop} {St : Nat → Heap → Prop} {m₀ : Str → Option Value} {news : List (Addr × Obj)}
    (W : Walks prog w A I fp wr n P St) (hLf : env.locals ∉ fp) (hwr : ∀ b ∈ wr, h₀.get? b = none) (hnw : ∀ p ∈ news, p.1 ∉ wr) (hst : St 0 s.heap)
    (F : Fr h₀ env.locals s.heap m₀) (N : News h₀ env.locals s.heap news) (J : Nat → (Str → Option Value) → Prop) (hj : J 0 m₀)
    (turn : ∀ i v m₁ h tk own, i < n → P i v → J i m₁ → Fr h₀ env.locals h (fun y => if y = x then some v else m₁ y) → News h₀ env.locals h (own ++ news) →
      wpAny (model prog w) A (execs body env) (InvPost h₀ env.locals (J (i + 1)) (own ++ news) { s with heap := h, toks := tk } Q) E { s with heap := h, toks := tk })
    (done : ∀ m₁ h tk, J n m₁ → Fr h₀ env.locals h m₁ → News h₀ env.locals h news → Q .next { s with heap := h, toks := tk }) :
    LoopAtV prog w A h₀ env x body Q E (.ref I) s := by
  let J' : Nat → (Str → Option Value) → List (Addr × Obj) → Prop := fun i m₁ news₁ => news₁ = news ∧ J i m₁
  refine ⟨I, fp, wr, n, P, St, m₀, news, J', rfl, W, hLf, hwr, hnw, hst, F, N, ⟨rfl, hj⟩, ?_, ?_⟩
  · rintro i v m₁ news₁ s₁ own ⟨hh', tk', rfl⟩ hin hP ⟨rfl, hJ⟩ hoff _ _ _ _ F₁ N₁
    refine wpAny_mono (turn i v m₁ hh' tk' own hin hP hJ F₁ N₁) (fun f s₂ p => ?_) fun _ _ e => e
    have fin : InvEnd h₀ env.locals (J (i + 1)) (own ++ news₁) { s with heap := hh', toks := tk' } s₂ → LoopStepU h₀ env.locals wr own (J' (i + 1)) { s with heap := hh', toks := tk' } .next s₂ := by
      rintro ⟨h', tk, m', news', e, F', N', hn, hm⟩
      exact ⟨rfl, h', tk, m', news₁, e, F', fun p hp => N' p (hn p hp), hoff, rfl, hm⟩
    cases f with
    | ret v => exact .ret p
    | brk => exact .brk p
    | next => exact .next (fin p)
    | cont => exact .cont (fin p)
  · rintro h' tk m' news' F' N' _ ⟨rfl, hJ⟩
    exact done m' h' tk hJ F' N'

theorem loop_range {r : Addr} {a₀ b₀ : Int} {t₀ u₀ v₀ : Tok} {n : Nat} {m₀ : Str → Option Value} {news : List (Addr × Obj)}
    (hh : A.handled = none) (hr : IsRange s.heap r a₀ b₀ 1 t₀ u₀ v₀) (hsmall : Builtin.Range.small a₀ b₀ 1 = true) (hn : Builtin.Range.rangeSize a₀ b₀ 1 = (n : Int))
    (F : Fr h₀ env.locals s.heap m₀) (N : News h₀ env.locals s.heap news) (J : Nat → (Str → Option Value) → Prop) (hj : J 0 m₀)
    (turn : ∀ i t m₁ h tk own, i < n → J i m₁ → Fr h₀ env.locals h (fun y => if y = x then some (.int (a₀ + (i : Int)) t) else m₁ y) → News h₀ env.locals h (own ++ news) →
      wpAny (model prog w) A (execs body env) (InvPost h₀ env.locals (J (i + 1)) (own ++ news) { s with heap := h, toks := tk } Q) E { s with heap := h, toks := tk })
    (done : ∀ m₁ h tk, J n m₁ → Fr h₀ env.locals h m₁ → News h₀ env.locals h news → Q .next { s with heap := h, toks := tk }) :
    wpAny (model prog w) A (pyIter (.ref r)) (fun it s₂ => LoopAtV prog w A h₀ env x body Q E it s₂) E s := by
  refine wpAny_pyIter_range hr hsmall ?_
  have W : Walks prog w A s.heap.objs.size [s.heap.objs.size] [s.heap.objs.size] n (fun i v => ∃ t, v = .int (a₀ + i * 1) t)
      (fun i h => IsRangeIter h s.heap.objs.size (a₀ + (i : Nat) * 1) ((n : Int) - (i : Nat)) 1) := Walks.range hh _ a₀ 1 n
  refine loop_simple (s := { s with heap := s.heap.push _ }) W ?_ ?_ ?_ (by show IsRangeIter _ _ _ _ _; rw [hn]; simpa using Heap.get?_push_size _ rfl) (F.push _) (fun p hp => ⟨Heap.get?_push_of_some _ (N p hp).1, (N p hp).2⟩) J hj ?_ done
  · intro hm
    exact absurd F.ns.lt ((List.mem_singleton.mp hm) ▸ Nat.lt_irrefl _)
  · intro b hb
    rw [List.mem_singleton.mp hb]
    exact next_is_new F
  · intro p hp hI
    exact absurd (Heap.lt_size (N p hp).1) ((List.mem_singleton.mp hI) ▸ Nat.lt_irrefl _)
  · rintro i v m₁ h tk own hi ⟨t, rfl⟩ hJ F₁ N₁
    have e1 : a₀ + (i : Int) * 1 = a₀ + (i : Int) := by omega
    rw [e1] at F₁
    exact turn i t m₁ h tk own hi hJ F₁ N₁

theorem loop_str {z : Str} {t : Tok} {m₀ : Str → Option Value} {news : List (Addr × Obj)}
    (hh : A.handled = none)
    (F : Fr h₀ env.locals s.heap m₀) (N : News h₀ env.locals s.heap news) (J : Nat → (Str → Option Value) → Prop) (hj : J 0 m₀)
    (turn : ∀ i c u m₁ h tk own, z.cps[i]? = some c → J i m₁ → Fr h₀ env.locals h (fun y => if y = x then some (.str ⟨#[c]⟩ u) else m₁ y) → News h₀ env.locals h (own ++ news) →
      wpAny (model prog w) A (execs body env) (InvPost h₀ env.locals (J (i + 1)) (own ++ news) { s with heap := h, toks := tk } Q) E { s with heap := h, toks := tk })
    (done : ∀ m₁ h tk, J z.cps.size m₁ → Fr h₀ env.locals h m₁ → News h₀ env.locals h news → Q .next { s with heap := h, toks := tk }) :
    wpAny (model prog w) A (pyIter (.str z t)) (fun it s₂ => LoopAtV prog w A h₀ env x body Q E it s₂) E s := by
  refine wpAny_pyIter_str fun o St W hst => ?_
  refine loop_simple (s := { s with heap := s.heap.push _ }) (W A hh) ?_ ?_ ?_ hst (F.push _) (fun p hp => ⟨Heap.get?_push_of_some _ (N p hp).1, (N p hp).2⟩) J hj ?_ done
  · intro hm
    exact absurd F.ns.lt ((List.mem_singleton.mp hm) ▸ Nat.lt_irrefl _)
  · intro b hb
    rw [List.mem_singleton.mp hb]
    exact next_is_new F
  · intro p hp hI
    exact absurd (Heap.lt_size (N p hp).1) ((List.mem_singleton.mp hI) ▸ Nat.lt_irrefl _)
  · rintro i v m₁ h tk own hi ⟨c, u, hc, rfl⟩ hJ F₁ N₁
    exact turn i c u m₁ h tk own hc hJ F₁ N₁
end
end Mine
end PBase

section PPlain
namespace Mine
theorem offPlain : True := by
  w_top off
  exact True.intro
/-- the signs of n to the base 2: A (65) for 0, B (66) for 1 -/
def figs (n : Nat) : List Nat := if n = 0 then [] else figs (n / 2) ++ [65 + n % 2]
termination_by n
decreasing_by omega
def turnC (c : Nat) : Nat := if c = 65 then 66 else 65
def turn (l : List Nat) : List Nat := l.map turnC
def wordN (n : Nat) : List Nat := List.replicate ((figs n).length + 1) 66 ++ 65 :: (figs n).drop 1
def word (x : Int) : List Nat := if 0 ≤ x then wordN x.toNat else turn (wordN (-1 - x).toNat)
def written (xs : List Int) : List Nat := xs.flatMap word
def ord : List Int → List Int → Int
  | [], [] => 0
  | [], _ :: _ => -1
  | _ :: _, [] => 1
  | x :: xs, y :: ys => if x = y then ord xs ys else if x < y then -1 else 1
def AB (l : List Nat) : Prop := ∀ c ∈ l, c = 65 ∨ c = 66

theorem figs_zero : figs 0 = [] := by unfold figs; rfl
theorem figs_pos {n : Nat} (h : n ≠ 0) : figs n = figs (n / 2) ++ [65 + n % 2] := by
  rw [figs]; simp [h]
theorem figs_ab (n : Nat) : AB (figs n) := by
  induction n using Nat.strongRecOn with
  | _ n ih =>
    by_cases h : n = 0
    · subst h; rw [figs_zero]; intro c hc; cases hc
    · rw [figs_pos h]
      intro c hc
      rcases List.mem_append.mp hc with hc | hc
      · exact ih (n / 2) (by omega) c hc
      · have := List.mem_singleton.mp hc; omega
theorem figs_head {n : Nat} (h : n ≠ 0) : ∃ t, figs n = 66 :: t := by
  induction n using Nat.strongRecOn with
  | _ n ih =>
    rw [figs_pos h]
    by_cases h2 : n / 2 = 0
    · have : n = 1 := by omega
      subst this; exact ⟨[], by rw [show (1 : Nat) / 2 = 0 from rfl, figs_zero]; rfl⟩
    · obtain ⟨t, e⟩ := ih (n / 2) (by omega) h2
      rw [e]; exact ⟨t ++ [65 + n % 2], rfl⟩
theorem figs_len_pos {n : Nat} (h : n ≠ 0) : 0 < (figs n).length := by
  obtain ⟨t, e⟩ := figs_head h; rw [e]; simp
theorem figs_len_zero {n : Nat} (h : (figs n).length = 0) : n = 0 := by
  by_cases h2 : n = 0
  · exact h2
  · have := figs_len_pos h2; omega
theorem figs_len_lt (k : Nat) : ∀ n, n < 2 ^ k → (figs n).length ≤ k := by
  induction k with
  | zero => intro n h; have : n = 0 := by omega
            subst this; rw [figs_zero]; simp
  | succ k ih =>
    intro n h
    by_cases h0 : n = 0
    · subst h0; rw [figs_zero]; simp
    · rw [figs_pos h0]
      have := ih (n / 2) (by rw [Nat.pow_succ] at h; omega)
      simp only [List.length_append, List.length_cons, List.length_nil]; omega
theorem figs_len_mono {n m : Nat} (h : n ≤ m) : (figs n).length ≤ (figs m).length := by
  induction m using Nat.strongRecOn generalizing n with
  | _ m ih =>
    by_cases h0 : n = 0
    · subst h0; rw [figs_zero]; simp
    · have hm : m ≠ 0 := by omega
      rw [figs_pos h0, figs_pos hm]
      have := ih (m / 2) (by omega) (n := n / 2) (by omega)
      simp only [List.length_append, List.length_cons, List.length_nil]; omega

/-- u and v part at a place, where u's sign is the lesser -/
def Before (u v : List Nat) : Prop := ∃ p a b s t, u = p ++ a :: s ∧ v = p ++ b :: t ∧ a < b
theorem Before.app {u v : List Nat} (h : Before u v) (x y : List Nat) : Before (u ++ x) (v ++ y) := by
  obtain ⟨p, a, b, s, t, rfl, rfl, hab⟩ := h
  exact ⟨p, a, b, s ++ x, t ++ y, by simp, by simp, hab⟩
theorem Before.pre {u v : List Nat} (h : Before u v) (q : List Nat) : Before (q ++ u) (q ++ v) := by
  obtain ⟨p, a, b, s, t, rfl, rfl, hab⟩ := h
  exact ⟨q ++ p, a, b, s, t, by simp, by simp, hab⟩
theorem lt_append {u v : List Nat} (q : List Nat) (h : u < v) : q ++ u < q ++ v := by
  induction q with
  | nil => exact h
  | cons a q ih => exact List.Lex.cons ih
theorem Before.lt {u v : List Nat} (h : Before u v) : u < v := by
  obtain ⟨p, a, b, s, t, rfl, rfl, hab⟩ := h
  exact lt_append p (List.Lex.rel hab)
theorem Before.uncons {u v : List Nat} {c : Nat} (h : Before (c :: u) (c :: v)) : Before u v := by
  obtain ⟨p, a, b, s, t, h1, h2, hab⟩ := h
  cases p with
  | nil => simp at h1 h2; omega
  | cons d p =>
    simp only [List.cons_append, List.cons.injEq] at h1 h2
    exact ⟨p, a, b, s, t, h1.2, h2.2, hab⟩
theorem figs_before {n m : Nat} (h : n < m) (hl : (figs n).length = (figs m).length) : Before (figs n) (figs m) := by
  induction m using Nat.strongRecOn generalizing n with
  | _ m ih =>
    have hm : m ≠ 0 := by omega
    have hn : n ≠ 0 := fun e => by
      have := figs_len_pos hm
      rw [← hl, e, figs_zero] at this; simp at this
    rw [figs_pos hn, figs_pos hm] at hl ⊢
    by_cases h2 : n / 2 < m / 2
    · exact (ih (m / 2) (by omega) h2 (by simpa using hl)).app _ _
    · have e : n / 2 = m / 2 := by omega
      rw [e]
      exact ⟨figs (m / 2), 65 + n % 2, 65 + m % 2, [], [], rfl, rfl, by omega⟩
theorem wordN_before {n m : Nat} (h : n < m) : Before (wordN n) (wordN m) := by
  unfold wordN
  by_cases hl : (figs n).length = (figs m).length
  · have hb := figs_before h hl
    have hm : m ≠ 0 := by omega
    have hn : n ≠ 0 := fun e => by
      have := figs_len_pos hm
      rw [← hl, e, figs_zero] at this; simp at this
    obtain ⟨t, e⟩ := figs_head hn
    obtain ⟨t', e'⟩ := figs_head hm
    rw [e, e'] at hb
    have hb := hb.uncons
    rw [hl, e, e']
    have := (hb.pre [65]).pre (List.replicate ((66 :: t').length + 1) 66)
    simpa using this
  · have h2 : (figs n).length < (figs m).length := by have := figs_len_mono (Nat.le_of_lt h); omega
    obtain ⟨k, hk⟩ : ∃ k, (figs m).length + 1 = ((figs n).length + 1) + (k + 1) := ⟨(figs m).length - (figs n).length - 1, by omega⟩
    rw [hk]
    refine ⟨List.replicate ((figs n).length + 1) 66, 65, 66, (figs n).drop 1, List.replicate k 66 ++ 65 :: (figs m).drop 1, rfl, ?_, by omega⟩
    rw [← List.replicate_append_replicate, List.append_assoc, List.replicate_succ (n := k)]
    rfl
theorem wordN_ab (n : Nat) : AB (wordN n) := by
  intro c hc
  unfold wordN at hc
  rcases List.mem_append.mp hc with hc | hc
  · exact .inr (List.eq_of_mem_replicate hc)
  · rcases List.mem_cons.mp hc with hc | hc
    · exact .inl hc
    · exact figs_ab n c (List.mem_of_mem_drop hc)
theorem turn_ab (l : List Nat) : AB (turn l) := by
  intro c hc
  obtain ⟨d, _, rfl⟩ := List.mem_map.mp hc
  unfold turnC; split <;> simp
theorem turn_turn {l : List Nat} (h : AB l) : turn (turn l) = l := by
  unfold turn
  rw [List.map_map]
  conv => rhs; rw [← List.map_id l]
  refine List.map_congr_left fun c hc => ?_
  rcases h c hc with rfl | rfl <;> rfl
theorem turn_append (u v : List Nat) : turn (u ++ v) = turn u ++ turn v := List.map_append
theorem Before.turn {u v : List Nat} (hu : AB u) (hv : AB v) (h : Before u v) : Before (Mine.turn v) (Mine.turn u) := by
  obtain ⟨p, a, b, s, t, rfl, rfl, hab⟩ := h
  have ha := hu a (by simp)
  have hb := hv b (by simp)
  refine ⟨Mine.turn p, turnC b, turnC a, Mine.turn t, Mine.turn s, by simp [Mine.turn], by simp [Mine.turn], ?_⟩
  rcases ha with rfl | rfl <;> rcases hb with rfl | rfl <;> first | omega | decide
theorem wordN_head (n : Nat) : ∃ t, wordN n = 66 :: t := ⟨List.replicate (figs n).length 66 ++ 65 :: (figs n).drop 1, by unfold wordN; rw [List.replicate_succ]; rfl⟩
theorem word_before {x y : Int} (h : x < y) : Before (word x) (word y) := by
  unfold word
  by_cases hx : 0 ≤ x
  · have hy : 0 ≤ y := by omega
    rw [if_pos hx, if_pos hy]
    exact wordN_before (by omega)
  · rw [if_neg hx]
    by_cases hy : 0 ≤ y
    · rw [if_pos hy]
      obtain ⟨t, e⟩ := wordN_head (-1 - x).toNat
      obtain ⟨t', e'⟩ := wordN_head y.toNat
      rw [e, e']
      exact ⟨[], 65, 66, turn t, t', rfl, rfl, by omega⟩
    · rw [if_neg hy]
      exact (wordN_before (by omega)).turn (wordN_ab _) (wordN_ab _)
theorem word_ne (x : Int) : word x ≠ [] := by
  unfold word
  split
  · obtain ⟨t, e⟩ := wordN_head x.toNat; rw [e]; simp
  · obtain ⟨t, e⟩ := wordN_head (-1 - x).toNat; rw [e]; simp [turn]
theorem written_cons (x : Int) (xs : List Int) : written (x :: xs) = word x ++ written xs := by simp [written]
theorem written_nil : written [] = [] := rfl
theorem written_append (xs ys : List Int) : written (xs ++ ys) = written xs ++ written ys := by simp [written]
theorem ord_lt : ∀ (xs ys : List Int), ord xs ys < 0 → written xs < written ys
  | [], [], h => by simp [ord] at h
  | [], y :: ys, _ => by
    rw [written_cons, written_nil]
    cases hw : word y with
    | nil => exact absurd hw (word_ne y)
    | cons a t => exact List.Lex.nil
  | _ :: _, [], h => by simp [ord] at h
  | x :: xs, y :: ys, h => by
    rw [written_cons, written_cons]
    unfold ord at h
    by_cases e : x = y
    · subst e
      rw [if_pos rfl] at h
      exact lt_append _ (ord_lt xs ys h)
    · rw [if_neg e] at h
      by_cases l : x < y
      · exact ((word_before l).app _ _).lt
      · rw [if_neg l] at h; omega
theorem ord_swap : ∀ (xs ys : List Int), ord ys xs = - ord xs ys
  | [], [] => rfl
  | [], _ :: _ => rfl
  | _ :: _, [] => rfl
  | x :: xs, y :: ys => by
    unfold ord
    by_cases e : x = y
    · subst e; simp [ord_swap xs ys]
    · have e' : ¬ y = x := fun q => e q.symm
      rw [if_neg e, if_neg e']
      by_cases l : x < y
      · have : ¬ y < x := by omega
        rw [if_pos l, if_neg this]; rfl
      · have : y < x := by omega
        rw [if_neg l, if_pos this]
theorem ord_zero : ∀ (xs ys : List Int), ord xs ys = 0 → xs = ys
  | [], [], _ => rfl
  | [], _ :: _, h => by simp [ord] at h
  | _ :: _, [], h => by simp [ord] at h
  | x :: xs, y :: ys, h => by
    unfold ord at h
    by_cases e : x = y
    · subst e; rw [if_pos rfl] at h; rw [ord_zero xs ys h]
    · rw [if_neg e] at h; split at h <;> omega
theorem ord_self (xs : List Int) : ord xs xs = 0 := by
  induction xs with
  | nil => rfl
  | cons x xs ih => unfold ord; rw [if_pos rfl]; exact ih
theorem lt_ord (xs ys : List Int) : written xs < written ys ↔ ord xs ys < 0 := by
  refine ⟨fun h => ?_, ord_lt xs ys⟩
  rcases Int.lt_trichotomy (ord xs ys) 0 with l | e | g
  · exact l
  · rw [ord_zero _ _ e] at h; exact absurd h (List.lt_irrefl _)
  · exact absurd h (List.lt_asymm (ord_lt ys xs (by rw [ord_swap]; omega)))
theorem eq_ord (xs ys : List Int) : written xs = written ys ↔ ord xs ys = 0 := by
  refine ⟨fun h => ?_, fun h => by rw [ord_zero _ _ h]⟩
  rcases Int.lt_trichotomy (ord xs ys) 0 with l | e | g
  · have := ord_lt _ _ l; rw [h] at this; exact absurd this (List.lt_irrefl _)
  · exact e
  · have := ord_lt ys xs (by rw [ord_swap]; omega); rw [h] at this; exact absurd this (List.lt_irrefl _)
theorem ord_values (xs ys : List Int) : ord xs ys = -1 ∨ ord xs ys = 0 ∨ ord xs ys = 1 := by
  induction xs generalizing ys with
  | nil => cases ys <;> simp [ord]
  | cons x xs ih =>
    cases ys with
    | nil => simp [ord]
    | cons y ys =>
      unfold ord
      split
      · exact ih ys
      · split <;> simp
theorem word_inv (x : Int) : word (-1 - x) = turn (word x) := by
  unfold word
  by_cases h : 0 ≤ x
  · have h' : ¬ 0 ≤ -1 - x := by omega
    rw [if_pos h, if_neg h']
    congr 2; omega
  · have h' : 0 ≤ -1 - x := by omega
    rw [if_neg h, if_pos h', turn_turn (wordN_ab _)]
theorem written_inv (xs : List Int) : written (xs.map fun x => -1 - x) = turn (written xs) := by
  induction xs with
  | nil => rfl
  | cons x xs ih => rw [List.map_cons, written_cons, written_cons, turn_append, ih, word_inv]
theorem word_ab (x : Int) : AB (word x) := by
  unfold word; split
  · exact wordN_ab _
  · exact turn_ab _
theorem written_ab (xs : List Int) : AB (written xs) := by
  intro c hc
  obtain ⟨x, _, hc⟩ := List.mem_flatMap.mp hc
  exact word_ab x c hc
theorem wordN_len (n : Nat) : (wordN n).length = max ((figs n).length + 2) (2 * (figs n).length + 1) := by
  unfold wordN
  simp only [List.length_append, List.length_replicate, List.length_cons, List.length_drop]
  omega
end Mine
end PPlain

section PRules1
open PySem PySem.W PyProof.Rows PySem.Calls PySem.SeqAt PySem.MeetsSeq PySem.MeetsSeq3
open AutoSeq1 (wpAny_loadPart')
namespace Mine
theorem offRules1 : True := by
  w_top off
  exact True.intro
theorem ints_at {vs : List Value} {xs : List Int} (h : IntsAre vs xs) {i : Nat} (hi : i < xs.length) : ∃ t, vs.toArray[((i : Nat) : Int).toNat]? = some (.int xs[i] t) := by
  obtain ⟨t, e⟩ := h.get i xs[i] (by simp [hi])
  exact ⟨t, by simpa using e⟩
theorem ints_out {vs : List Value} {xs : List Int} (h : IntsAre vs xs) {i : Nat} (hi : xs.length ≤ i) : vs.toArray[((i : Nat) : Int).toNat]? = none := by
  have := h.length
  simp; omega

theorem lt_loop (l b : Addr) (vs us : List Value) (xs ys : List Int) (hi : IntsAre vs xs) (hj : IntsAre us ys) (n n2 : Nat) (dd dd2 : Option Addr) (sl sl2 : Array (Option Value)) (k : Nat) :
    ∀ i : Nat, xs.length - i = k → i ≤ xs.length → i ≤ ys.length → Meets (Builtin.«list.__eq__.loop» ⟨[.ref l, .ref b, rawInt i, rawInt 0], []⟩)
      (fun A R s => s.heap.get? l = some { cls := .type "list", dict := dd, data := .seq vs.toArray n, slots := sl } ∧ s.heap.get? b = some { cls := .type "list", dict := dd2, data := .seq us.toArray n2, slots := sl2 } ∧
        R (.ok (.ret (.bool (decide (ord (xs.drop i) (ys.drop i) < 0))))) s) := by
  have hlx := hi.length
  have hly := hj.length
  induction k with
  | zero =>
    intro i hk h1 h2 prog w A R s h
    obtain ⟨hp, g, d, tk, os⟩ := s; obtain ⟨hl, hb, h⟩ := h
    wp_walk using wpAny_loadPart' hl, wpAny_loadPart' hb
    have hx0 : xs.drop i = [] := by simp; omega
    rw [hx0] at h
    rw [ints_out hi (by omega)]
    wp_walk using wpAny_loadPart' hl, wpAny_loadPart' hb
    show R (.ok (.ret (.bool (decide (vs.toArray.size < us.toArray.size))))) _
    by_cases h3 : i < ys.length
    · rw [List.drop_eq_getElem_cons h3] at h
      have e : decide (vs.toArray.size < us.toArray.size) = true := by simp; omega
      rw [e]; simpa [ord] using h
    · have hy0 : ys.drop i = [] := by simp; omega
      rw [hy0] at h
      have e : decide (vs.toArray.size < us.toArray.size) = false := by simp; omega
      rw [e]; simpa [ord] using h
  | succ k ih =>
    intro i hk h1 h2 prog w A R s h
    obtain ⟨hp, g, d, tk, os⟩ := s; obtain ⟨hl, hb, h⟩ := h
    wp_walk using wpAny_loadPart' hl, wpAny_loadPart' hb
    have hlt : i < xs.length := by omega
    obtain ⟨t, ex⟩ := ints_at hi hlt
    rw [ex]
    rw [List.drop_eq_getElem_cons hlt] at h
    by_cases h3 : i < ys.length
    · obtain ⟨u, ey⟩ := ints_at hj h3
      rw [ey]
      rw [List.drop_eq_getElem_cons h3] at h
      unfold ord at h
      refine wpAny_bind (EqAt.int_int (A := _) (s := _) _ _ _ _ prog w _ _ ?_)
      by_cases he : xs[i] = ys[i]
      · rw [if_pos he] at h
        have hb' : (xs[i] == ys[i]) = true := by simpa using he
        rw [hb']
        wp_walk
        have hc : ((i : Int) + 1) = ((i + 1 : Nat) : Int) := by push_cast; rfl
        rw [hc]
        exact ⟨plainId_quiet plain_eq_loop _, codeAny_builtin entry_eq_loop (by
          rw [Around.under_plainId plain_eq_loop _]
          exact ih (i + 1) (by omega) (by omega) (by omega) prog w A R _ ⟨hl, hb, h⟩)⟩
      · rw [if_neg he] at h
        have hb' : (xs[i] == ys[i]) = false := by simpa using he
        rw [hb']
        wp_walk using wpAny_loadPart' hl, wpAny_loadPart' hb
        rw [ex, ey]
        refine wpAny_bind (show wpAny _ _ (compareOp .Lt _ _) _ _ _ from PyProof.Rows.lt_int ?_)
        refine wpAny_pure ?_
        by_cases h4 : xs[i] < ys[i]
        · rw [if_pos h4] at h
          have e : (xs[i] < ys[i]) ↔ True := by simp; omega
          simpa [e] using h
        · rw [if_neg h4] at h
          have e : (xs[i] < ys[i]) ↔ False := by simp; omega
          simpa [e] using h
    · have hy0 : ys.drop i = [] := by simp; omega
      rw [hy0] at h
      rw [ints_out hj (by omega)]
      wp_walk using wpAny_loadPart' hl, wpAny_loadPart' hb
      show R (.ok (.ret (.bool (decide (vs.toArray.size < us.toArray.size))))) _
      have e : decide (vs.toArray.size < us.toArray.size) = false := by simp; omega
      rw [e]; simpa [ord] using h

theorem le_loop (l b : Addr) (vs us : List Value) (xs ys : List Int) (hi : IntsAre vs xs) (hj : IntsAre us ys) (n n2 : Nat) (dd dd2 : Option Addr) (sl sl2 : Array (Option Value)) (k : Nat) :
    ∀ i : Nat, xs.length - i = k → i ≤ xs.length → i ≤ ys.length → Meets (Builtin.«list.__eq__.loop» ⟨[.ref l, .ref b, rawInt i, rawInt 1], []⟩)
      (fun A R s => s.heap.get? l = some { cls := .type "list", dict := dd, data := .seq vs.toArray n, slots := sl } ∧ s.heap.get? b = some { cls := .type "list", dict := dd2, data := .seq us.toArray n2, slots := sl2 } ∧
        R (.ok (.ret (.bool (decide (ord (xs.drop i) (ys.drop i) ≤ 0))))) s) := by
  have hlx := hi.length
  have hly := hj.length
  induction k with
  | zero =>
    intro i hk h1 h2 prog w A R s h
    obtain ⟨hp, g, d, tk, os⟩ := s; obtain ⟨hl, hb, h⟩ := h
    wp_walk using wpAny_loadPart' hl, wpAny_loadPart' hb
    have hx0 : xs.drop i = [] := by simp; omega
    rw [hx0] at h
    rw [ints_out hi (by omega)]
    wp_walk using wpAny_loadPart' hl, wpAny_loadPart' hb
    show R (.ok (.ret (.bool (decide (vs.toArray.size ≤ us.toArray.size))))) _
    by_cases h3 : i < ys.length
    · rw [List.drop_eq_getElem_cons h3] at h
      have e : decide (vs.toArray.size ≤ us.toArray.size) = true := by simp; omega
      rw [e]; simpa [ord] using h
    · have hy0 : ys.drop i = [] := by simp; omega
      rw [hy0] at h
      have e : decide (vs.toArray.size ≤ us.toArray.size) = true := by simp; omega
      rw [e]; simpa [ord] using h
  | succ k ih =>
    intro i hk h1 h2 prog w A R s h
    obtain ⟨hp, g, d, tk, os⟩ := s; obtain ⟨hl, hb, h⟩ := h
    wp_walk using wpAny_loadPart' hl, wpAny_loadPart' hb
    have hlt : i < xs.length := by omega
    obtain ⟨t, ex⟩ := ints_at hi hlt
    rw [ex]
    rw [List.drop_eq_getElem_cons hlt] at h
    by_cases h3 : i < ys.length
    · obtain ⟨u, ey⟩ := ints_at hj h3
      rw [ey]
      rw [List.drop_eq_getElem_cons h3] at h
      unfold ord at h
      refine wpAny_bind (EqAt.int_int (A := _) (s := _) _ _ _ _ prog w _ _ ?_)
      by_cases he : xs[i] = ys[i]
      · rw [if_pos he] at h
        have hb' : (xs[i] == ys[i]) = true := by simpa using he
        rw [hb']
        wp_walk
        have hc : ((i : Int) + 1) = ((i + 1 : Nat) : Int) := by push_cast; rfl
        rw [hc]
        exact ⟨plainId_quiet plain_eq_loop _, codeAny_builtin entry_eq_loop (by
          rw [Around.under_plainId plain_eq_loop _]
          exact ih (i + 1) (by omega) (by omega) (by omega) prog w A R _ ⟨hl, hb, h⟩)⟩
      · rw [if_neg he] at h
        have hb' : (xs[i] == ys[i]) = false := by simpa using he
        rw [hb']
        wp_walk using wpAny_loadPart' hl, wpAny_loadPart' hb
        rw [ex, ey]
        refine wpAny_bind (show wpAny _ _ (compareOp .LtE _ _) _ _ _ from PyProof.Rows.le_int ?_)
        refine wpAny_pure ?_
        by_cases h4 : xs[i] < ys[i]
        · rw [if_pos h4] at h
          have e : (xs[i] ≤ ys[i]) ↔ True := by simp; omega
          simpa [e] using h
        · rw [if_neg h4] at h
          have e : (xs[i] ≤ ys[i]) ↔ False := by simp; omega
          simpa [e] using h
    · have hy0 : ys.drop i = [] := by simp; omega
      rw [hy0] at h
      rw [ints_out hj (by omega)]
      wp_walk using wpAny_loadPart' hl, wpAny_loadPart' hb
      show R (.ok (.ret (.bool (decide (vs.toArray.size ≤ us.toArray.size))))) _
      have e : decide (vs.toArray.size ≤ us.toArray.size) = false := by simp; omega
      rw [e]; simpa [ord] using h

theorem gt_loop (l b : Addr) (vs us : List Value) (xs ys : List Int) (hi : IntsAre vs xs) (hj : IntsAre us ys) (n n2 : Nat) (dd dd2 : Option Addr) (sl sl2 : Array (Option Value)) (k : Nat) :
    ∀ i : Nat, xs.length - i = k → i ≤ xs.length → i ≤ ys.length → Meets (Builtin.«list.__eq__.loop» ⟨[.ref l, .ref b, rawInt i, rawInt 4], []⟩)
      (fun A R s => s.heap.get? l = some { cls := .type "list", dict := dd, data := .seq vs.toArray n, slots := sl } ∧ s.heap.get? b = some { cls := .type "list", dict := dd2, data := .seq us.toArray n2, slots := sl2 } ∧
        R (.ok (.ret (.bool (decide (0 < ord (xs.drop i) (ys.drop i)))))) s) := by
  have hlx := hi.length
  have hly := hj.length
  induction k with
  | zero =>
    intro i hk h1 h2 prog w A R s h
    obtain ⟨hp, g, d, tk, os⟩ := s; obtain ⟨hl, hb, h⟩ := h
    wp_walk using wpAny_loadPart' hl, wpAny_loadPart' hb
    have hx0 : xs.drop i = [] := by simp; omega
    rw [hx0] at h
    rw [ints_out hi (by omega)]
    wp_walk using wpAny_loadPart' hl, wpAny_loadPart' hb
    show R (.ok (.ret (.bool (decide (vs.toArray.size > us.toArray.size))))) _
    by_cases h3 : i < ys.length
    · rw [List.drop_eq_getElem_cons h3] at h
      have e : decide (vs.toArray.size > us.toArray.size) = false := by simp; omega
      rw [e]; simpa [ord] using h
    · have hy0 : ys.drop i = [] := by simp; omega
      rw [hy0] at h
      have e : decide (vs.toArray.size > us.toArray.size) = false := by simp; omega
      rw [e]; simpa [ord] using h
  | succ k ih =>
    intro i hk h1 h2 prog w A R s h
    obtain ⟨hp, g, d, tk, os⟩ := s; obtain ⟨hl, hb, h⟩ := h
    wp_walk using wpAny_loadPart' hl, wpAny_loadPart' hb
    have hlt : i < xs.length := by omega
    obtain ⟨t, ex⟩ := ints_at hi hlt
    rw [ex]
    rw [List.drop_eq_getElem_cons hlt] at h
    by_cases h3 : i < ys.length
    · obtain ⟨u, ey⟩ := ints_at hj h3
      rw [ey]
      rw [List.drop_eq_getElem_cons h3] at h
      unfold ord at h
      refine wpAny_bind (EqAt.int_int (A := _) (s := _) _ _ _ _ prog w _ _ ?_)
      by_cases he : xs[i] = ys[i]
      · rw [if_pos he] at h
        have hb' : (xs[i] == ys[i]) = true := by simpa using he
        rw [hb']
        wp_walk
        have hc : ((i : Int) + 1) = ((i + 1 : Nat) : Int) := by push_cast; rfl
        rw [hc]
        exact ⟨plainId_quiet plain_eq_loop _, codeAny_builtin entry_eq_loop (by
          rw [Around.under_plainId plain_eq_loop _]
          exact ih (i + 1) (by omega) (by omega) (by omega) prog w A R _ ⟨hl, hb, h⟩)⟩
      · rw [if_neg he] at h
        have hb' : (xs[i] == ys[i]) = false := by simpa using he
        rw [hb']
        wp_walk using wpAny_loadPart' hl, wpAny_loadPart' hb
        rw [ex, ey]
        refine wpAny_bind (show wpAny _ _ (compareOp .Gt _ _) _ _ _ from PyProof.Rows.gt_int ?_)
        refine wpAny_pure ?_
        by_cases h4 : xs[i] < ys[i]
        · rw [if_pos h4] at h
          have e : (xs[i] > ys[i]) ↔ False := by simp; omega
          simpa [e] using h
        · rw [if_neg h4] at h
          have e : (xs[i] > ys[i]) ↔ True := by simp; omega
          simpa [e] using h
    · have hy0 : ys.drop i = [] := by simp; omega
      rw [hy0] at h
      rw [ints_out hj (by omega)]
      wp_walk using wpAny_loadPart' hl, wpAny_loadPart' hb
      show R (.ok (.ret (.bool (decide (vs.toArray.size > us.toArray.size))))) _
      have e : decide (vs.toArray.size > us.toArray.size) = true := by simp; omega
      rw [e]; simpa [ord] using h

theorem ge_loop (l b : Addr) (vs us : List Value) (xs ys : List Int) (hi : IntsAre vs xs) (hj : IntsAre us ys) (n n2 : Nat) (dd dd2 : Option Addr) (sl sl2 : Array (Option Value)) (k : Nat) :
    ∀ i : Nat, xs.length - i = k → i ≤ xs.length → i ≤ ys.length → Meets (Builtin.«list.__eq__.loop» ⟨[.ref l, .ref b, rawInt i, rawInt 5], []⟩)
      (fun A R s => s.heap.get? l = some { cls := .type "list", dict := dd, data := .seq vs.toArray n, slots := sl } ∧ s.heap.get? b = some { cls := .type "list", dict := dd2, data := .seq us.toArray n2, slots := sl2 } ∧
        R (.ok (.ret (.bool (decide (0 ≤ ord (xs.drop i) (ys.drop i)))))) s) := by
  have hlx := hi.length
  have hly := hj.length
  induction k with
  | zero =>
    intro i hk h1 h2 prog w A R s h
    obtain ⟨hp, g, d, tk, os⟩ := s; obtain ⟨hl, hb, h⟩ := h
    wp_walk using wpAny_loadPart' hl, wpAny_loadPart' hb
    have hx0 : xs.drop i = [] := by simp; omega
    rw [hx0] at h
    rw [ints_out hi (by omega)]
    wp_walk using wpAny_loadPart' hl, wpAny_loadPart' hb
    show R (.ok (.ret (.bool (decide (vs.toArray.size ≥ us.toArray.size))))) _
    by_cases h3 : i < ys.length
    · rw [List.drop_eq_getElem_cons h3] at h
      have e : decide (vs.toArray.size ≥ us.toArray.size) = false := by simp; omega
      rw [e]; simpa [ord] using h
    · have hy0 : ys.drop i = [] := by simp; omega
      rw [hy0] at h
      have e : decide (vs.toArray.size ≥ us.toArray.size) = true := by simp; omega
      rw [e]; simpa [ord] using h
  | succ k ih =>
    intro i hk h1 h2 prog w A R s h
    obtain ⟨hp, g, d, tk, os⟩ := s; obtain ⟨hl, hb, h⟩ := h
    wp_walk using wpAny_loadPart' hl, wpAny_loadPart' hb
    have hlt : i < xs.length := by omega
    obtain ⟨t, ex⟩ := ints_at hi hlt
    rw [ex]
    rw [List.drop_eq_getElem_cons hlt] at h
    by_cases h3 : i < ys.length
    · obtain ⟨u, ey⟩ := ints_at hj h3
      rw [ey]
      rw [List.drop_eq_getElem_cons h3] at h
      unfold ord at h
      refine wpAny_bind (EqAt.int_int (A := _) (s := _) _ _ _ _ prog w _ _ ?_)
      by_cases he : xs[i] = ys[i]
      · rw [if_pos he] at h
        have hb' : (xs[i] == ys[i]) = true := by simpa using he
        rw [hb']
        wp_walk
        have hc : ((i : Int) + 1) = ((i + 1 : Nat) : Int) := by push_cast; rfl
        rw [hc]
        exact ⟨plainId_quiet plain_eq_loop _, codeAny_builtin entry_eq_loop (by
          rw [Around.under_plainId plain_eq_loop _]
          exact ih (i + 1) (by omega) (by omega) (by omega) prog w A R _ ⟨hl, hb, h⟩)⟩
      · rw [if_neg he] at h
        have hb' : (xs[i] == ys[i]) = false := by simpa using he
        rw [hb']
        wp_walk using wpAny_loadPart' hl, wpAny_loadPart' hb
        rw [ex, ey]
        refine wpAny_bind (show wpAny _ _ (compareOp .GtE _ _) _ _ _ from PyProof.Rows.ge_int ?_)
        refine wpAny_pure ?_
        by_cases h4 : xs[i] < ys[i]
        · rw [if_pos h4] at h
          have e : (xs[i] ≥ ys[i]) ↔ False := by simp; omega
          simpa [e] using h
        · rw [if_neg h4] at h
          have e : (xs[i] ≥ ys[i]) ↔ True := by simp; omega
          simpa [e] using h
    · have hy0 : ys.drop i = [] := by simp; omega
      rw [hy0] at h
      rw [ints_out hj (by omega)]
      wp_walk using wpAny_loadPart' hl, wpAny_loadPart' hb
      show R (.ok (.ret (.bool (decide (vs.toArray.size ≥ us.toArray.size))))) _
      have e : decide (vs.toArray.size ≥ us.toArray.size) = true := by simp; omega
      rw [e]; simpa [ord] using h

theorem list_lt (l b : Addr) (vs us : List Value) (xs ys : List Int) (hi : IntsAre vs xs) (hj : IntsAre us ys) (n n2 : Nat) (dd dd2 : Option Addr) (sl sl2 : Array (Option Value)) :
    Meets (Builtin.«list.__lt__» ⟨[.ref l, .ref b], []⟩)
      (fun A R s => s.heap.get? l = some { cls := .type "list", dict := dd, data := .seq vs.toArray n, slots := sl } ∧ s.heap.get? b = some { cls := .type "list", dict := dd2, data := .seq us.toArray n2, slots := sl2 } ∧
        R (.ok (.ret (.bool (decide (ord xs ys < 0))))) s) := by
  intro prog w A R s h
  obtain ⟨hp, g, d, tk, os⟩ := s; obtain ⟨hl, hb, h⟩ := h
  have f3 := AutoSeq1.sub_list_list
  wp_walk using wpAny_loadPart' hl, wpAny_loadPart' hb
  exact ⟨plainId_quiet plain_eq_loop _, codeAny_builtin entry_eq_loop (by
    rw [Around.under_plainId plain_eq_loop _]
    exact lt_loop l b vs us xs ys hi hj n n2 dd dd2 sl sl2 _ 0 rfl (Nat.zero_le _) (Nat.zero_le _) prog w A R _ ⟨hl, hb, h⟩)⟩
theorem lt_ints {prog : Program} {w : World} {A : Around} {E : Value → Shared → Prop} {s : Shared} {Q : Value → Shared → Prop} {l r : Addr} {vs us : List Value} {xs ys : List Int} (hl : s.heap.IsList l vs.toArray) (hi : IntsAre vs xs) (hr : s.heap.IsList r us.toArray) (hj : IntsAre us ys) (hu : A.units < cLine)
    (h : Q (.bool (decide (ord xs ys < 0))) s) : wpAny (model prog w) A (compareOp .Lt (.ref l) (.ref r)) Q E s := by
  obtain ⟨⟨c, dct, dt, sl⟩, hl, hc, n, hd⟩ := hl
  replace hc : c = .type "list" := hc
  replace hd : dt = .seq vs.toArray n := hd
  subst hc hd
  obtain ⟨⟨c, dct2, dt, sl2⟩, hr, hc, n2, hd⟩ := hr
  replace hc : c = .type "list" := hc
  replace hd : dt = .seq us.toArray n2 := hd
  subst hc hd
  exact richCompare_meets_room (op := .Lt) ⟨_, hl, rfl⟩ ⟨_, hr, rfl⟩ F.slot_list_lt F.entry_list_lt (F.args_list_lt_2 _ _) (list_lt l r vs us xs ys hi hj n n2 dct dct2 sl sl2) ⟨hl, hr, by simp, h⟩ hu

theorem list_le (l b : Addr) (vs us : List Value) (xs ys : List Int) (hi : IntsAre vs xs) (hj : IntsAre us ys) (n n2 : Nat) (dd dd2 : Option Addr) (sl sl2 : Array (Option Value)) :
    Meets (Builtin.«list.__le__» ⟨[.ref l, .ref b], []⟩)
      (fun A R s => s.heap.get? l = some { cls := .type "list", dict := dd, data := .seq vs.toArray n, slots := sl } ∧ s.heap.get? b = some { cls := .type "list", dict := dd2, data := .seq us.toArray n2, slots := sl2 } ∧
        R (.ok (.ret (.bool (decide (ord xs ys ≤ 0))))) s) := by
  intro prog w A R s h
  obtain ⟨hp, g, d, tk, os⟩ := s; obtain ⟨hl, hb, h⟩ := h
  have f3 := AutoSeq1.sub_list_list
  wp_walk using wpAny_loadPart' hl, wpAny_loadPart' hb
  exact ⟨plainId_quiet plain_eq_loop _, codeAny_builtin entry_eq_loop (by
    rw [Around.under_plainId plain_eq_loop _]
    exact le_loop l b vs us xs ys hi hj n n2 dd dd2 sl sl2 _ 0 rfl (Nat.zero_le _) (Nat.zero_le _) prog w A R _ ⟨hl, hb, h⟩)⟩
theorem le_ints {prog : Program} {w : World} {A : Around} {E : Value → Shared → Prop} {s : Shared} {Q : Value → Shared → Prop} {l r : Addr} {vs us : List Value} {xs ys : List Int} (hl : s.heap.IsList l vs.toArray) (hi : IntsAre vs xs) (hr : s.heap.IsList r us.toArray) (hj : IntsAre us ys) (hu : A.units < cLine)
    (h : Q (.bool (decide (ord xs ys ≤ 0))) s) : wpAny (model prog w) A (compareOp .LtE (.ref l) (.ref r)) Q E s := by
  obtain ⟨⟨c, dct, dt, sl⟩, hl, hc, n, hd⟩ := hl
  replace hc : c = .type "list" := hc
  replace hd : dt = .seq vs.toArray n := hd
  subst hc hd
  obtain ⟨⟨c, dct2, dt, sl2⟩, hr, hc, n2, hd⟩ := hr
  replace hc : c = .type "list" := hc
  replace hd : dt = .seq us.toArray n2 := hd
  subst hc hd
  exact richCompare_meets_room (op := .LtE) ⟨_, hl, rfl⟩ ⟨_, hr, rfl⟩ F.slot_list_le F.entry_list_le (F.args_list_le_2 _ _) (list_le l r vs us xs ys hi hj n n2 dct dct2 sl sl2) ⟨hl, hr, by simp, h⟩ hu

theorem list_gt (l b : Addr) (vs us : List Value) (xs ys : List Int) (hi : IntsAre vs xs) (hj : IntsAre us ys) (n n2 : Nat) (dd dd2 : Option Addr) (sl sl2 : Array (Option Value)) :
    Meets (Builtin.«list.__gt__» ⟨[.ref l, .ref b], []⟩)
      (fun A R s => s.heap.get? l = some { cls := .type "list", dict := dd, data := .seq vs.toArray n, slots := sl } ∧ s.heap.get? b = some { cls := .type "list", dict := dd2, data := .seq us.toArray n2, slots := sl2 } ∧
        R (.ok (.ret (.bool (decide (0 < ord xs ys))))) s) := by
  intro prog w A R s h
  obtain ⟨hp, g, d, tk, os⟩ := s; obtain ⟨hl, hb, h⟩ := h
  have f3 := AutoSeq1.sub_list_list
  wp_walk using wpAny_loadPart' hl, wpAny_loadPart' hb
  exact ⟨plainId_quiet plain_eq_loop _, codeAny_builtin entry_eq_loop (by
    rw [Around.under_plainId plain_eq_loop _]
    exact gt_loop l b vs us xs ys hi hj n n2 dd dd2 sl sl2 _ 0 rfl (Nat.zero_le _) (Nat.zero_le _) prog w A R _ ⟨hl, hb, h⟩)⟩
theorem gt_ints {prog : Program} {w : World} {A : Around} {E : Value → Shared → Prop} {s : Shared} {Q : Value → Shared → Prop} {l r : Addr} {vs us : List Value} {xs ys : List Int} (hl : s.heap.IsList l vs.toArray) (hi : IntsAre vs xs) (hr : s.heap.IsList r us.toArray) (hj : IntsAre us ys) (hu : A.units < cLine)
    (h : Q (.bool (decide (0 < ord xs ys))) s) : wpAny (model prog w) A (compareOp .Gt (.ref l) (.ref r)) Q E s := by
  obtain ⟨⟨c, dct, dt, sl⟩, hl, hc, n, hd⟩ := hl
  replace hc : c = .type "list" := hc
  replace hd : dt = .seq vs.toArray n := hd
  subst hc hd
  obtain ⟨⟨c, dct2, dt, sl2⟩, hr, hc, n2, hd⟩ := hr
  replace hc : c = .type "list" := hc
  replace hd : dt = .seq us.toArray n2 := hd
  subst hc hd
  exact richCompare_meets_room (op := .Gt) ⟨_, hl, rfl⟩ ⟨_, hr, rfl⟩ F.slot_list_gt F.entry_list_gt (F.args_list_gt_2 _ _) (list_gt l r vs us xs ys hi hj n n2 dct dct2 sl sl2) ⟨hl, hr, by simp, h⟩ hu

theorem list_ge (l b : Addr) (vs us : List Value) (xs ys : List Int) (hi : IntsAre vs xs) (hj : IntsAre us ys) (n n2 : Nat) (dd dd2 : Option Addr) (sl sl2 : Array (Option Value)) :
    Meets (Builtin.«list.__ge__» ⟨[.ref l, .ref b], []⟩)
      (fun A R s => s.heap.get? l = some { cls := .type "list", dict := dd, data := .seq vs.toArray n, slots := sl } ∧ s.heap.get? b = some { cls := .type "list", dict := dd2, data := .seq us.toArray n2, slots := sl2 } ∧
        R (.ok (.ret (.bool (decide (0 ≤ ord xs ys))))) s) := by
  intro prog w A R s h
  obtain ⟨hp, g, d, tk, os⟩ := s; obtain ⟨hl, hb, h⟩ := h
  have f3 := AutoSeq1.sub_list_list
  wp_walk using wpAny_loadPart' hl, wpAny_loadPart' hb
  exact ⟨plainId_quiet plain_eq_loop _, codeAny_builtin entry_eq_loop (by
    rw [Around.under_plainId plain_eq_loop _]
    exact ge_loop l b vs us xs ys hi hj n n2 dd dd2 sl sl2 _ 0 rfl (Nat.zero_le _) (Nat.zero_le _) prog w A R _ ⟨hl, hb, h⟩)⟩
theorem ge_ints {prog : Program} {w : World} {A : Around} {E : Value → Shared → Prop} {s : Shared} {Q : Value → Shared → Prop} {l r : Addr} {vs us : List Value} {xs ys : List Int} (hl : s.heap.IsList l vs.toArray) (hi : IntsAre vs xs) (hr : s.heap.IsList r us.toArray) (hj : IntsAre us ys) (hu : A.units < cLine)
    (h : Q (.bool (decide (0 ≤ ord xs ys))) s) : wpAny (model prog w) A (compareOp .GtE (.ref l) (.ref r)) Q E s := by
  obtain ⟨⟨c, dct, dt, sl⟩, hl, hc, n, hd⟩ := hl
  replace hc : c = .type "list" := hc
  replace hd : dt = .seq vs.toArray n := hd
  subst hc hd
  obtain ⟨⟨c, dct2, dt, sl2⟩, hr, hc, n2, hd⟩ := hr
  replace hc : c = .type "list" := hc
  replace hd : dt = .seq us.toArray n2 := hd
  subst hc hd
  exact richCompare_meets_room (op := .GtE) ⟨_, hl, rfl⟩ ⟨_, hr, rfl⟩ F.slot_list_ge F.entry_list_ge (F.args_list_ge_2 _ _) (list_ge l r vs us xs ys hi hj n n2 dct dct2 sl sl2) ⟨hl, hr, by simp, h⟩ hu
end Mine
end PRules1

section PRules2
open PySem PySem.W PyProof.Rows PySem.Calls PySem.SeqAt PySem.MeetsSeq PySem.MeetsSeq3
namespace Mine
theorem offRules2 : True := by
  w_top off
  exact True.intro
theorem refl_int_bool_or : reflectedDiffers (.type "int") (.type "bool") "or" = pure true := by
  unfold reflectedDiffers
  show (typeLookup (.type "bool") (dunderR "or") >>= fun rb => typeLookup (.type "int") (dunderR "or") >>= fun ra => pure (rb.isSome && rb != ra)) = pure true
  rw [typeLookup_type, typeLookup_type, builtinLookup_eq_fast]; kernel_rfl
theorem plain_int_or : plainId "int.__or__" = true := by decide +kernel
theorem ror_meets (x : Int) (t : Tok) (c : Bool) : Meets (Builtin.«bool.__ror__» ⟨[.bool c, .int x t], []⟩)
    (fun _ R s => R (.ok (.ret (.int (Builtin.bitOr x (if c = true then 1 else 0)) s.toks))) { s with toks := s.toks + 1 }) := by
  intro prog w A R s h
  obtain ⟨hp, g, d, tk, os⟩ := s
  wp_walk
  exact ⟨plainId_quiet plain_int_or _, codeAny_builtin PySem.F.entry_int_or (by
    rw [Around.under_plainId plain_int_or _]
    wp_walk
    exact h)⟩
section
variable {prog : Program} {w : World} {A : Around} {E : Value → Shared → Prop} {s : Shared}
theorem or_int_bool {x : Int} {t : Tok} {c : Bool} {Q : Value → Shared → Prop} (h : Q (.int (Builtin.bitOr x (if c = true then 1 else 0)) s.toks) { s with toks := s.toks + 1 }) :
    wpAny (model prog w) A (binaryOp .BitOr (.int x t) (.bool c)) Q E s := by
  show wpAny _ _ (holding [.int x t, .bool c] (do
    if let some v ← binaryOp1 "or" (.int x t) (.bool c) then return v
    binopTypeError "|" (.int x t) (.bool c))) _ _ _
  refine wpAny_holding (wpAny_bind ?_)
  simp only [binaryOp1]
  refine wpAny_bind (wpAny_typeOf (typeIs_int s x t) (wpAny_bind (wpAny_typeOf (show s.TypeIs (.bool c) "bool" from rfl) (wpAny_bind (wpAny_of_eq PySem.F.fills_int_or ?_)))))
  have hne : (Value.type "int" == Value.type "bool") = false := by decide
  simp only [hne, Bool.false_eq_true, if_false]
  refine wpAny_bind (wpAny_of_eq F.fills_bool_or ?_)
  simp only [Bool.and_self, if_true]
  refine wpAny_bind (wpAny_of_eq isSubtype_bool_int ?_)
  simp only [if_true]
  refine wpAny_bind (wpAny_of_eq refl_int_bool_or ?_)
  simp only [if_true, tryMethod]
  refine wpAny_bind (wpAny_rule ?_)
  (refine wpAny_bind (wpAny_bind ?_))
  have hb : s.TypeIs (.bool c) "bool" := rfl
  (with_reducible refine wpAny_callSpecial?_slot (T := "bool") (s := s) hb F.slot_bool_ror ?_)
  (refine call_meets F.slot_bool_ror rfl F.entry_bool_ror (F.args_bool_ror_2 _ _) (ror_meets x t c) ?_)
  exact wpAny_pure (wpAny_pure (wpAny_pure h))
end
theorem bitOr_two (y : Int) (h0 : 0 ≤ y) (c : Bool) : Builtin.bitOr (y * 2) (if c = true then 1 else 0) = 2 * y + (if c = true then 1 else 0) := by
  rw [bitOr_and]
  have e : Builtin.bitAnd (y * 2) (if c = true then 1 else 0) = 0 := by
    unfold Builtin.bitAnd
    have h1 : decide (0 ≤ y * 2) = true := by simp; omega
    cases c
    · simp [h1]
    · simp only [h1, if_true]
      have h2 : decide ((0 : Int) ≤ 1) = true := rfl
      simp only [h2]
      have h3 : (y * 2).toNat &&& (1 : Int).toNat = 0 := by
        rw [show (1 : Int).toNat = 1 from rfl, Nat.and_one_is_mod]; omega
      rw [h3]; rfl
  rw [e]; omega
end Mine
end PRules2

section PRulesS
open PySem PySem.W PyProof.Rows PySem.Calls PySem.SeqAt PySem.MeetsSeq PySem.MeetsSeq3
namespace Mine
theorem offRulesS : True := by
  w_top off
  exact True.intro
local macro_rules | `(tactic| walk_at "mine wp") => `(tactic| first
  | assumption
  | with_reducible (first | refine PySem.wpAny_pure ?_ | refine PySem.wpAny_bind ?_ | refine PySem.wpAny_holding ?_ | refine PySem.wpAny_rule ?_ | refine PySem.wpAny_letGo ?_ | refine PySem.wpAny_mkStr' ?_ | refine PySem.wpAny_fresh' ?_ | refine PySem.wpAny_alloc' ?_ | refine PySem.wpAny_attempt ?_ | refine PySem.wpAny_of_eq (by assumption) ?_ | refine PySem.wpAny_typeOf (by assumption) ?_ | refine PySem.wpAny_specialOf_val (by assumption) (by assumption) ?_ | refine PySem.wpAny_specialOf (by assumption) (by assumption) ?_ | refine PySem.wpAny_isInstance_val (by assumption) (by assumption) ?_ | refine PySem.wpAny_isInstance (by assumption) (by assumption) ?_ | refine PySem.wpAny_call ?_ | refine PySem.wpAny_runValue ?_ | refine PySem.wpAny_run ?_)
  | ((with_reducible refine PySem.wpAny_load' ?_ ?_); focus (heap_get; done))
  | ((with_reducible refine PySem.wpAny_update' ?_ ?_); focus (heap_get; done))
  | ((with_reducible refine PySem.wpAny_loadPart' ?_ ?_); focus (heap_get; done))
  | ((with_reducible refine PySem.wpAny_updatePart' ?_ ?_); focus (heap_get; done))
  | ((with_reducible refine PySem.wpAny_ite_false ?_ ?_); focus (rfl; done))
  | ((with_reducible refine PySem.wpAny_ite_true ?_ ?_); focus (rfl; done))
  | ((with_reducible refine PySem.wpAny_ite_false ?_ ?_); focus (simp [*]; done))
  | ((with_reducible refine PySem.wpAny_ite_true ?_ ?_); focus (simp [*]; done))
  | ((with_reducible show wpAny _ _ _ _ _ _); wp_delta)
  | ((with_reducible show wpAny _ _ _ _ _ _); wp_step)
  | ((fail_if_success (with_reducible show wpAny _ _ _ _ _ _)); (fail_if_success intro _); wp_step))
theorem entry_hasattr : entryFor table "hasattr" = some Builtin.«hasattr» := entryFor_of_tree (by kernel_rfl)
theorem kind_hasattr : builtinKind "hasattr" = none := by decide +kernel
theorem plain_hasattr : plainId "hasattr" = true := by decide +kernel
theorem args_hasattr (a b : Value) : argsOk "hasattr" ⟨[a, b], []⟩ := by unfold argsOk; kernel_rfl
theorem look_str : typeLookup (.type "str") (Str.ofString "__getitem__") = pure (some (.builtin "str.__getitem__")) := by rw [typeLookup_type, builtinLookup_eq_fast]; kernel_rfl
theorem look_list : typeLookup (.type "list") (Str.ofString "__getitem__") = pure (some (.builtin "list.__getitem__")) := by rw [typeLookup_type, builtinLookup_eq_fast]; kernel_rfl
theorem typeOf_sg : typeOf (.builtin "str.__getitem__") = pure (.type "wrapper_descriptor") := by kernel_rfl
theorem typeOf_lg : typeOf (.builtin "list.__getitem__") = pure (.type "method_descriptor") := by kernel_rfl
theorem slot_wd_get : Slot "wrapper_descriptor" "__get__" "wrapper_descriptor.__get__" :=
  .of (owner := "wrapper_descriptor") (n := "__get__") (by rw [typeLookup_type, builtinLookup_eq_fast]; kernel_rfl) (by decide +kernel) (by decide +kernel) (by decide +kernel)
    (by first | exact .inl (by decide +kernel) | exact .inr (by decide +kernel)) (by rw [isSubtype_type]; kernel_rfl)
theorem slot_md_get : Slot "method_descriptor" "__get__" "method_descriptor.__get__" :=
  .of (owner := "method_descriptor") (n := "__get__") (by rw [typeLookup_type, builtinLookup_eq_fast]; kernel_rfl) (by decide +kernel) (by decide +kernel) (by decide +kernel)
    (by first | exact .inl (by decide +kernel) | exact .inr (by decide +kernel)) (by rw [isSubtype_type]; kernel_rfl)
theorem entry_wd_get : entryFor table "wrapper_descriptor.__get__" = some Builtin.«wrapper_descriptor.__get__» := entryFor_of_tree (by kernel_rfl)
theorem entry_md_get : entryFor table "method_descriptor.__get__" = some Builtin.«method_descriptor.__get__» := entryFor_of_tree (by kernel_rfl)
theorem args_wd_get (a b c : Value) : argsOk "wrapper_descriptor.__get__" ⟨[a, b, c], []⟩ := by unfold argsOk; kernel_rfl
theorem args_md_get (a b c : Value) : argsOk "method_descriptor.__get__" ⟨[a, b, c], []⟩ := by unfold argsOk; kernel_rfl
theorem wd_set : typeLookup (.type "wrapper_descriptor") (Str.ofString "__set__") = pure none := by rw [typeLookup_type, builtinLookup_eq_fast]; kernel_rfl
theorem wd_del : typeLookup (.type "wrapper_descriptor") (Str.ofString "__delete__") = pure none := by rw [typeLookup_type, builtinLookup_eq_fast]; kernel_rfl
theorem md_set : typeLookup (.type "method_descriptor") (Str.ofString "__set__") = pure none := by rw [typeLookup_type, builtinLookup_eq_fast]; kernel_rfl
theorem md_del : typeLookup (.type "method_descriptor") (Str.ofString "__delete__") = pure none := by rw [typeLookup_type, builtinLookup_eq_fast]; kernel_rfl
theorem owner_sg : (".".intercalate ("str.__getitem__".cutAt '.').dropLast) = "str" := by
  have e0 : "str.__getitem__".cutAt '.' = ["str", "__getitem__"] := by first | rfl | decide +kernel
  rw [e0]; decide +kernel
theorem owner_lg : (".".intercalate ("list.__getitem__".cutAt '.').dropLast) = "list" := by
  have e0 : "list.__getitem__".cutAt '.' = ["list", "__getitem__"] := by first | rfl | decide +kernel
  rw [e0]; decide +kernel
theorem sub_sg : isSubtype (.type "str") (.type (".".intercalate ("str.__getitem__".cutAt '.').dropLast)) = pure true := by
  rw [owner_sg, isSubtype_type]; kernel_rfl
theorem sub_lg : isSubtype (.type "list") (.type (".".intercalate ("list.__getitem__".cutAt '.').dropLast)) = pure true := by
  rw [owner_lg, isSubtype_type]; kernel_rfl
theorem told_lg : Manifest.toldItsClass.contains "list.__getitem__" = false := by decide +kernel
theorem look_strA : typeLookup (.type "str") (Str.ofString "__getattribute__") = pure (some (.builtin "object.__getattribute__")) := F.slot_str_getattribute.lookup
section
variable {prog : Program} {w : World} {A : Around} {E : Value → Shared → Prop} {h : Heap} {g : Array GenState} {d : Drawn} {t : Nat} {os : OsState} {x : Str} {u : Tok}
theorem get_str {R : Result → Shared → Prop} (hq : ∀ a h' tk, Keep h h' → R (.ok (.ret (.ref a))) ⟨h', g, d, tk, os⟩) :
    codeAny (model prog w) A (.call (.builtin "wrapper_descriptor.__get__") ⟨[.builtin "str.__getitem__", .str x u, .type "str"], []⟩) R ⟨h, g, d, t, os⟩ := by
  have hT : (⟨h, g, d, t, os⟩ : Shared).TypeIs (.str x u) "str" := rfl
  have hT5 : (⟨h, g, d, t, os⟩ : Shared).TypeIs (.builtin "str.__getitem__") "wrapper_descriptor" := typeOf_sg
  have f8 := sub_sg
  refine codeAny_call_builtin slot_wd_get.plain entry_wd_get (slot_wd_get.check _ _ _ _ _ _ _ _ hT5 (args_wd_get _ _ _) ?_)
  (repeat (any_goals walk_at "mine wp"))
  exact hq _ _ _ fun b o e => Heap.get?_push_of_some _ e
theorem entry_str' {tk : Tok} {Q : Fin → Shared → Prop} (hq : ∀ a h' tk, Keep h h' → Q (.done (.ret (.ref a))) ⟨h', g, d, tk, os⟩) :
    wpAny (model prog w) A (Builtin.«object.__getattribute__» ⟨[.str x u, .str (Str.ofString "__getitem__") tk], []⟩) Q E ⟨h, g, d, t, os⟩ := by
  have hT : (⟨h, g, d, t, os⟩ : Shared).TypeIs (.str x u) "str" := rfl
  have hT5 : (⟨h, g, d, t, os⟩ : Shared).TypeIs (.builtin "str.__getitem__") "wrapper_descriptor" := typeOf_sg
  have f4 := look_str
  have f5 := typeOf_sg
  have f6 := slot_wd_get.lookup
  have f7 := wd_set
  have f9 := wd_del
  (repeat (any_goals walk_at "mine wp"))
  refine get_str fun v h' tk hk => ?_
  (repeat (any_goals walk_at "mine wp"))
  exact hq _ _ _ hk
theorem by_str {tk : Tok} {Q : Value → Shared → Prop} (hq : ∀ a h' tk, Keep h h' → Q (.ref a) ⟨h', g, d, tk, os⟩) : wpAny (model prog w) A (getAttrBy (.str x u) (.str (Str.ofString "__getitem__") tk) false) Q E ⟨h, g, d, t, os⟩ := by
  have hT : (⟨h, g, d, t, os⟩ : Shared).TypeIs (.str x u) "str" := rfl
  have f2 := F.slot_str_getattribute.lookup
  have f3 := F.slot_str_getattribute.bind (.str x u)
  (repeat (any_goals walk_at "mine wp"))
  refine codeAny_call_builtin F.slot_str_getattribute.plain F.entry_object_getattribute (F.slot_str_getattribute.check _ _ _ _ _ _ _ _ (show (⟨h, g, d, t, os⟩ : Shared).TypeIs (.str x u) "str" from rfl) (F.args_object_getattribute_2 _ _) (entry_str' fun v h' tk hk => ?_))
  (repeat (any_goals walk_at "mine wp"))
  exact hq _ _ _ hk
theorem hasattr_str {tk : Tok} {Q : Value → Shared → Prop} (hq : ∀ h' tk, Keep h h' → Q (.bool true) ⟨h', g, d, tk, os⟩) : wpAny (model prog w) A (call (.builtin "hasattr") [.str x u, .str (Str.ofString "__getitem__") tk]) Q E ⟨h, g, d, t, os⟩ := by
  refine call_function_entry kind_hasattr plain_hasattr entry_hasattr (args_hasattr _ _) ?_
  have hT : (⟨h, g, d, t, os⟩ : Shared).TypeIs (.str x u) "str" := rfl
  have f2 := F.slot_str_getattribute.lookup
  have f4 := look_str
  have f5 : (withoutEnding? "str.__getitem__" "#data").isSome = false := by decide +kernel
  (repeat (any_goals (first | assumption | with_reducible refine by_str ?_ | walk_at "mine wp")))
  intro a h' tk hk
  (repeat (any_goals walk_at "mine wp"))
  exact ⟨_, rfl, hq _ _ hk⟩
end
end Mine
end PRulesS

section PRulesL
open PySem PySem.W PyProof.Rows PySem.Calls PySem.SeqAt PySem.MeetsSeq PySem.MeetsSeq3
namespace Mine
theorem offRulesL : True := by
  w_top off
  exact True.intro
local macro_rules | `(tactic| walk_at "mine wp") => `(tactic| first
  | assumption
  | with_reducible (first | refine PySem.wpAny_pure ?_ | refine PySem.wpAny_bind ?_ | refine PySem.wpAny_holding ?_ | refine PySem.wpAny_rule ?_ | refine PySem.wpAny_letGo ?_ | refine PySem.wpAny_mkStr' ?_ | refine PySem.wpAny_fresh' ?_ | refine PySem.wpAny_alloc' ?_ | refine PySem.wpAny_attempt ?_ | refine PySem.wpAny_of_eq (by assumption) ?_ | refine PySem.wpAny_typeOf (by assumption) ?_ | refine PySem.wpAny_specialOf_val (by assumption) (by assumption) ?_ | refine PySem.wpAny_specialOf (by assumption) (by assumption) ?_ | refine PySem.wpAny_isInstance_val (by assumption) (by assumption) ?_ | refine PySem.wpAny_isInstance (by assumption) (by assumption) ?_ | refine PySem.wpAny_call ?_ | refine PySem.wpAny_runValue ?_ | refine PySem.wpAny_run ?_)
  | ((with_reducible refine PySem.wpAny_load' ?_ ?_); focus (heap_get; done))
  | ((with_reducible refine PySem.wpAny_update' ?_ ?_); focus (heap_get; done))
  | ((with_reducible refine PySem.wpAny_loadPart' ?_ ?_); focus (heap_get; done))
  | ((with_reducible refine PySem.wpAny_updatePart' ?_ ?_); focus (heap_get; done))
  | ((with_reducible refine PySem.wpAny_ite_false ?_ ?_); focus (rfl; done))
  | ((with_reducible refine PySem.wpAny_ite_true ?_ ?_); focus (rfl; done))
  | ((with_reducible refine PySem.wpAny_ite_false ?_ ?_); focus (simp [*]; done))
  | ((with_reducible refine PySem.wpAny_ite_true ?_ ?_); focus (simp [*]; done))
  | ((with_reducible show wpAny _ _ _ _ _ _); wp_delta)
  | ((with_reducible show wpAny _ _ _ _ _ _); wp_step)
  | ((fail_if_success (with_reducible show wpAny _ _ _ _ _ _)); (fail_if_success intro _); wp_step))
theorem sub_list_module : isSubtype (.type "list") (.type "module") = pure false := by rw [isSubtype_type]; kernel_rfl
section
variable {prog : Program} {w : World} {A : Around} {E : Value → Shared → Prop} {h : Heap} {g : Array GenState} {d : Drawn} {t : Nat} {os : OsState} {a : Addr} {xs : Array Value} {k : Nat} {sl : Array (Option Value)}
theorem get_list {R : Result → Shared → Prop} (hx : h.get? a = some { cls := .type "list", dict := none, data := .seq xs k, slots := sl }) (hq : ∀ a' h' tk, Keep h h' → R (.ok (.ret (.ref a'))) ⟨h', g, d, tk, os⟩) :
    codeAny (model prog w) A (.call (.builtin "method_descriptor.__get__") ⟨[.builtin "list.__getitem__", .ref a, .type "list"], []⟩) R ⟨h, g, d, t, os⟩ := by
  have hT : (⟨h, g, d, t, os⟩ : Shared).TypeIs (.ref a) "list" := ⟨_, hx, rfl⟩
  have hT5 : (⟨h, g, d, t, os⟩ : Shared).TypeIs (.builtin "list.__getitem__") "method_descriptor" := typeOf_lg
  have f8 := sub_lg
  have f9 := told_lg
  refine codeAny_call_builtin slot_md_get.plain entry_md_get (slot_md_get.check _ _ _ _ _ _ _ _ hT5 (args_md_get _ _ _) ?_)
  (repeat (any_goals walk_at "mine wp"))
  exact hq _ _ _ fun b o e => Heap.get?_push_of_some _ e
theorem entry_list' {tk : Tok} {Q : Fin → Shared → Prop} (hx : h.get? a = some { cls := .type "list", dict := none, data := .seq xs k, slots := sl }) (hq : ∀ a' h' tk, Keep h h' → Q (.done (.ret (.ref a'))) ⟨h', g, d, tk, os⟩) :
    wpAny (model prog w) A (Builtin.«object.__getattribute__» ⟨[.ref a, .str (Str.ofString "__getitem__") tk], []⟩) Q E ⟨h, g, d, t, os⟩ := by
  have hT : (⟨h, g, d, t, os⟩ : Shared).TypeIs (.ref a) "list" := ⟨_, hx, rfl⟩
  have hT5 : (⟨h, g, d, t, os⟩ : Shared).TypeIs (.builtin "list.__getitem__") "method_descriptor" := typeOf_lg
  have f4 := look_list
  have f5 := typeOf_lg
  have f6 := slot_md_get.lookup
  have f7 := md_set
  have f9 := md_del
  (repeat (any_goals walk_at "mine wp"))
  refine get_list hx fun v h' tk hk => ?_
  (repeat (any_goals walk_at "mine wp"))
  exact hq _ _ _ hk
theorem by_list {tk : Tok} {Q : Value → Shared → Prop} (hx : h.get? a = some { cls := .type "list", dict := none, data := .seq xs k, slots := sl }) (hq : ∀ a' h' tk, Keep h h' → Q (.ref a') ⟨h', g, d, tk, os⟩) : wpAny (model prog w) A (getAttrBy (.ref a) (.str (Str.ofString "__getitem__") tk) false) Q E ⟨h, g, d, t, os⟩ := by
  have hT : (⟨h, g, d, t, os⟩ : Shared).TypeIs (.ref a) "list" := ⟨_, hx, rfl⟩
  have f2 := F.slot_list_getattribute.lookup
  have f3 := F.slot_list_getattribute.bind (.ref a)
  (repeat (any_goals walk_at "mine wp"))
  refine codeAny_call_builtin F.slot_list_getattribute.plain PySem.am_entry_list_getattribute (F.slot_list_getattribute.check _ _ _ _ _ _ _ _ (show (⟨h, g, d, t, os⟩ : Shared).TypeIs (.ref a) "list" from ⟨_, hx, rfl⟩) (F.args_list_getattribute_2 _ _) (entry_list' hx fun v h' tk hk => ?_))
  (repeat (any_goals walk_at "mine wp"))
  exact hq _ _ _ hk
theorem hasattr_list {tk : Tok} {Q : Value → Shared → Prop} (hx : h.get? a = some { cls := .type "list", dict := none, data := .seq xs k, slots := sl }) (hq : ∀ h' tk, Keep h h' → Q (.bool true) ⟨h', g, d, tk, os⟩) : wpAny (model prog w) A (call (.builtin "hasattr") [.ref a, .str (Str.ofString "__getitem__") tk]) Q E ⟨h, g, d, t, os⟩ := by
  refine call_function_entry kind_hasattr plain_hasattr entry_hasattr (args_hasattr _ _) ?_
  have hT : (⟨h, g, d, t, os⟩ : Shared).TypeIs (.ref a) "list" := ⟨_, hx, rfl⟩
  have f2 := F.slot_list_getattribute.lookup
  have f4 := look_list
  have f6 := sub_list_module
  have f5 : (withoutEnding? "list.__getitem__" "#data").isSome = false := by decide +kernel
  (repeat (any_goals (first | assumption | with_reducible refine by_list hx ?_ | walk_at "mine wp")))
  intro a' h' tk hk
  (repeat (any_goals walk_at "mine wp"))
  exact ⟨_, rfl, hq _ _ hk⟩
end
end Mine
end PRulesL

open PySem PySem.W PyProof.Rows PySem.Calls
local macro_rules | `(tactic| walk_at "mine enter") => `(tactic| ((case k6 => k_is); (case k7 => k_is); (case k9 => exact BindsTo.of_eq rfl); (case kB => exact locs rfl); (case c2 => exact rfl); (case c3 => exact rfl); (case c4 => exact rfl); (case c5 => decide)))
local macro_rules | `(tactic| walk_at "mine step") => `(tactic| first | (k_unfold; (try dsimp only)) | walk1 | (dsimp only; walk1))
local macro_rules | `(tactic| walk_at "mine steps") => `(tactic| repeat' (first | ((fail_if_success (with_reducible show WhileStep2 _ _ _ _ _ _ _ _)); (fail_if_success (with_reducible show InvPost _ _ _ _ _ _ _ _)); (fail_if_success (with_reducible show InvEnd _ _ _ _ _ _)); (fail_if_success (with_reducible show wpAny _ _ (PySem.pyIter _) _ _ _)); (fail_if_success (with_reducible show wpAny _ _ (PySem.exec (PySem.Stmt.While _ _ _ _) _) _ _ _)); (fail_if_success (with_reducible show wpAny _ _ (PySem.eval (PySem.Expr.ListComp _ _ _ _) _) _ _ _)); walk_at "mine step")))

section PC1
open PySem PySem.W PyProof.Rows PySem.Calls
namespace Mine
theorem offC1 : True := by
  w_top off
  exact True.intro
theorem fillC1 : PySem.Challenge.rw_pg0049_01 = PySem.Challenge.rw_pg0049_01 ∧ hd.heap_39 = hd.heap_39 := by
  k_fill
  exact ⟨rfl, rfl⟩
local macro_rules | `(tactic| walk_at "mine steps") => `(tactic| repeat' (first | ((fail_if_success (with_reducible show wpAny _ _ (PySem.pyIter _) _ _ _)); (fail_if_success (with_reducible show wpAny _ _ (PySem.exec (PySem.Stmt.While _ _ _ _) _) _ _ _)); (fail_if_success (with_reducible show wpAny _ _ (PySem.eval (PySem.Expr.ListComp _ _ _ _) _) _ _ _)); walk_at "mine step")))
theorem strcoll_c {w : World} {dp un : Nat} {fr : Option (List Env)} {gd : Option (List Code)} {s : Shared} {mg mb : Str → Option Value} {p : Program} {loose : List Str} {mean : ExcName → Option Value} {Q E : Value → Shared → Prop} {x y : Str} {tx ty : Tok}
    (X : (hd.heap_39 w.params).In s.heap) (T : Top p loose mean mg mb s.heap) (hdp : dp + 1 < recursionLimit) (hun : un + 100 < cLine) 
    (ret : ∀ (t : Tok) h' tk, Keep s.heap h' → Q (.int (b2i (decide (y.cps.toList < x.cps.toList)) - b2i (decide (x.cps.toList < y.cps.toList))) t) { s with heap := h', toks := tk }) :
    wpAny (model prog0 w) (Ar dp un fr gd) (call (.ref 21) [.str x tx, .str y ty]) Q E s := by
  refine' enter (binds := [(Str.ofString "a", .str x tx), (Str.ofString "b", .str y ty)]) X T ?k6 ?k7 (show dp < recursionLimit by omega) ?k9 ?kB ?_ ?c2 ?c3 ?c4 ?c5
  walk_at "mine enter"
  intro L' h₁ tk F N
  generalize hg : s.heap = g at *
  walk_at "mine steps"
  exact ret _ _ _ F.keep

theorem strxfrm_c {w : World} {dp un : Nat} {fr : Option (List Env)} {gd : Option (List Code)} {s : Shared} {mg mb : Str → Option Value} {p : Program} {loose : List Str} {mean : ExcName → Option Value} {Q E : Value → Shared → Prop} {x : Str} {tx : Tok}
    (X : (hd.heap_39 w.params).In s.heap) (T : Top p loose mean mg mb s.heap) (hdp : dp + 1 < recursionLimit) (hun : un + 100 < cLine) 
    (ret : ∀ (t : Tok) h' tk, Keep s.heap h' → Q (.str x tx) { s with heap := h', toks := tk }) :
    wpAny (model prog0 w) (Ar dp un fr gd) (call (.ref 28) [.str x tx]) Q E s := by
  refine' enter (binds := [(Str.ofString "s", .str x tx)]) X T ?k6 ?k7 (show dp < recursionLimit by omega) ?k9 ?kB ?_ ?c2 ?c3 ?c4 ?c5
  walk_at "mine enter"
  intro L' h₁ tk F N
  generalize hg : s.heap = g at *
  walk_at "mine steps"
  exact ret 0 _ _ F.keep

theorem lt_s {w : World} {dp un : Nat} {fr : Option (List Env)} {gd : Option (List Code)} {s : Shared} {mg mb : Str → Option Value} {p : Program} {loose : List Str} {mean : ExcName → Option Value} {Q E : Value → Shared → Prop} {x y : Str} {tx ty : Tok}
    (X : (hd.heap_39 w.params).In s.heap) (T : Top p loose mean mg mb s.heap) (hdp : dp + 1 < recursionLimit) (hun : un + 100 < cLine) 
    (ret : ∀ (t : Tok) h' tk, Keep s.heap h' → Q (.bool (decide (x.cps.toList < y.cps.toList))) { s with heap := h', toks := tk }) :
    wpAny (model prog0 w) (Ar dp un fr gd) (call (.ref 35) [.str x tx, .str y ty]) Q E s := by
  refine' enter (binds := [(Str.ofString "a", .str x tx), (Str.ofString "b", .str y ty)]) X T ?k6 ?k7 (show dp < recursionLimit by omega) ?k9 ?kB ?_ ?c2 ?c3 ?c4 ?c5
  walk_at "mine enter"
  intro L' h₁ tk F N
  generalize hg : s.heap = g at *
  walk_at "mine steps"
  exact ret 0 _ _ F.keep

theorem le_s {w : World} {dp un : Nat} {fr : Option (List Env)} {gd : Option (List Code)} {s : Shared} {mg mb : Str → Option Value} {p : Program} {loose : List Str} {mean : ExcName → Option Value} {Q E : Value → Shared → Prop} {x y : Str} {tx ty : Tok}
    (X : (hd.heap_39 w.params).In s.heap) (T : Top p loose mean mg mb s.heap) (hdp : dp + 1 < recursionLimit) (hun : un + 100 < cLine) 
    (ret : ∀ (t : Tok) h' tk, Keep s.heap h' → Q (.bool (!decide (y.cps.toList < x.cps.toList))) { s with heap := h', toks := tk }) :
    wpAny (model prog0 w) (Ar dp un fr gd) (call (.ref 42) [.str x tx, .str y ty]) Q E s := by
  refine' enter (binds := [(Str.ofString "a", .str x tx), (Str.ofString "b", .str y ty)]) X T ?k6 ?k7 (show dp < recursionLimit by omega) ?k9 ?kB ?_ ?c2 ?c3 ?c4 ?c5
  walk_at "mine enter"
  intro L' h₁ tk F N
  generalize hg : s.heap = g at *
  walk_at "mine steps"
  exact ret 0 _ _ F.keep

theorem eq_s {w : World} {dp un : Nat} {fr : Option (List Env)} {gd : Option (List Code)} {s : Shared} {mg mb : Str → Option Value} {p : Program} {loose : List Str} {mean : ExcName → Option Value} {Q E : Value → Shared → Prop} {x y : Str} {tx ty : Tok}
    (X : (hd.heap_39 w.params).In s.heap) (T : Top p loose mean mg mb s.heap) (hdp : dp + 1 < recursionLimit) (hun : un + 100 < cLine) 
    (ret : ∀ (t : Tok) h' tk, Keep s.heap h' → Q (.bool (x == y)) { s with heap := h', toks := tk }) :
    wpAny (model prog0 w) (Ar dp un fr gd) (call (.ref 49) [.str x tx, .str y ty]) Q E s := by
  refine' enter (binds := [(Str.ofString "a", .str x tx), (Str.ofString "b", .str y ty)]) X T ?k6 ?k7 (show dp < recursionLimit by omega) ?k9 ?kB ?_ ?c2 ?c3 ?c4 ?c5
  walk_at "mine enter"
  intro L' h₁ tk F N
  generalize hg : s.heap = g at *
  walk_at "mine steps"
  exact ret 0 _ _ F.keep

theorem ne_s {w : World} {dp un : Nat} {fr : Option (List Env)} {gd : Option (List Code)} {s : Shared} {mg mb : Str → Option Value} {p : Program} {loose : List Str} {mean : ExcName → Option Value} {Q E : Value → Shared → Prop} {x y : Str} {tx ty : Tok}
    (X : (hd.heap_39 w.params).In s.heap) (T : Top p loose mean mg mb s.heap) (hdp : dp + 1 < recursionLimit) (hun : un + 100 < cLine) 
    (ret : ∀ (t : Tok) h' tk, Keep s.heap h' → Q (.bool (x != y)) { s with heap := h', toks := tk }) :
    wpAny (model prog0 w) (Ar dp un fr gd) (call (.ref 56) [.str x tx, .str y ty]) Q E s := by
  refine' enter (binds := [(Str.ofString "a", .str x tx), (Str.ofString "b", .str y ty)]) X T ?k6 ?k7 (show dp < recursionLimit by omega) ?k9 ?kB ?_ ?c2 ?c3 ?c4 ?c5
  walk_at "mine enter"
  intro L' h₁ tk F N
  generalize hg : s.heap = g at *
  walk_at "mine steps"
  exact ret 0 _ _ F.keep

theorem ge_s {w : World} {dp un : Nat} {fr : Option (List Env)} {gd : Option (List Code)} {s : Shared} {mg mb : Str → Option Value} {p : Program} {loose : List Str} {mean : ExcName → Option Value} {Q E : Value → Shared → Prop} {x y : Str} {tx ty : Tok}
    (X : (hd.heap_39 w.params).In s.heap) (T : Top p loose mean mg mb s.heap) (hdp : dp + 1 < recursionLimit) (hun : un + 100 < cLine) 
    (ret : ∀ (t : Tok) h' tk, Keep s.heap h' → Q (.bool (!decide (x.cps.toList < y.cps.toList))) { s with heap := h', toks := tk }) :
    wpAny (model prog0 w) (Ar dp un fr gd) (call (.ref 63) [.str x tx, .str y ty]) Q E s := by
  refine' enter (binds := [(Str.ofString "a", .str x tx), (Str.ofString "b", .str y ty)]) X T ?k6 ?k7 (show dp < recursionLimit by omega) ?k9 ?kB ?_ ?c2 ?c3 ?c4 ?c5
  walk_at "mine enter"
  intro L' h₁ tk F N
  generalize hg : s.heap = g at *
  walk_at "mine steps"
  exact ret 0 _ _ F.keep

theorem gt_s {w : World} {dp un : Nat} {fr : Option (List Env)} {gd : Option (List Code)} {s : Shared} {mg mb : Str → Option Value} {p : Program} {loose : List Str} {mean : ExcName → Option Value} {Q E : Value → Shared → Prop} {x y : Str} {tx ty : Tok}
    (X : (hd.heap_39 w.params).In s.heap) (T : Top p loose mean mg mb s.heap) (hdp : dp + 1 < recursionLimit) (hun : un + 100 < cLine) 
    (ret : ∀ (t : Tok) h' tk, Keep s.heap h' → Q (.bool (decide (y.cps.toList < x.cps.toList))) { s with heap := h', toks := tk }) :
    wpAny (model prog0 w) (Ar dp un fr gd) (call (.ref 70) [.str x tx, .str y ty]) Q E s := by
  refine' enter (binds := [(Str.ofString "a", .str x tx), (Str.ofString "b", .str y ty)]) X T ?k6 ?k7 (show dp < recursionLimit by omega) ?k9 ?kB ?_ ?c2 ?c3 ?c4 ?c5
  walk_at "mine enter"
  intro L' h₁ tk F N
  generalize hg : s.heap = g at *
  walk_at "mine steps"
  exact ret 0 _ _ F.keep

theorem inv_c {w : World} {dp un : Nat} {fr : Option (List Env)} {gd : Option (List Code)} {s : Shared} {mg mb : Str → Option Value} {p : Program} {loose : List Str} {mean : ExcName → Option Value} {Q E : Value → Shared → Prop} {x : Int} {tx : Tok}
    (X : (hd.heap_39 w.params).In s.heap) (T : Top p loose mean mg mb s.heap) (hdp : dp + 1 < recursionLimit) (hun : un + 100 < cLine) 
    (ret : ∀ (t : Tok) h' tk, Keep s.heap h' → Q (.int (-1 - x) t) { s with heap := h', toks := tk }) :
    wpAny (model prog0 w) (Ar dp un fr gd) (call (.ref 77) [.int x tx]) Q E s := by
  refine' enter (binds := [(Str.ofString "a", .int x tx)]) X T ?k6 ?k7 (show dp < recursionLimit by omega) ?k9 ?kB ?_ ?c2 ?c3 ?c4 ?c5
  walk_at "mine enter"
  intro L' h₁ tk F N
  generalize hg : s.heap = g at *
  walk_at "mine steps"
  have e : Builtin.bitNot x = -1 - x := by unfold Builtin.bitNot; omega
  exact e ▸ ret _ _ _ F.keep

theorem lshift_c {w : World} {dp un : Nat} {fr : Option (List Env)} {gd : Option (List Code)} {s : Shared} {mg mb : Str → Option Value} {p : Program} {loose : List Str} {mean : ExcName → Option Value} {Q E : Value → Shared → Prop} {x : Int} {tx ty : Tok}
    (X : (hd.heap_39 w.params).In s.heap) (T : Top p loose mean mg mb s.heap) (hdp : dp + 1 < recursionLimit) (hun : un + 100 < cLine) (h0 : 0 ≤ x) (h1 : x < 4096)
    (ret : ∀ (t : Tok) h' tk, Keep s.heap h' → Q (.int (x * 2) t) { s with heap := h', toks := tk }) :
    wpAny (model prog0 w) (Ar dp un fr gd) (call (.ref 84) [.int x tx, .int 1 ty]) Q E s := by
  refine' enter (binds := [(Str.ofString "a", .int x tx), (Str.ofString "b", .int 1 ty)]) X T ?k6 ?k7 (show dp < recursionLimit by omega) ?k9 ?kB ?_ ?c2 ?c3 ?c4 ?c5
  walk_at "mine enter"
  intro L' h₁ tk F N
  generalize hg : s.heap = g at *
  walk_at "mine steps"
  have e : x * 2 ^ Int.toNat 1 = x * 2 := rfl
  exact e ▸ ret _ _ _ F.keep

theorem or_c {w : World} {dp un : Nat} {fr : Option (List Env)} {gd : Option (List Code)} {s : Shared} {mg mb : Str → Option Value} {p : Program} {loose : List Str} {mean : ExcName → Option Value} {Q E : Value → Shared → Prop} {x : Int} {tx : Tok} {c : Bool}
    (X : (hd.heap_39 w.params).In s.heap) (T : Top p loose mean mg mb s.heap) (hdp : dp + 1 < recursionLimit) (hun : un + 100 < cLine) (h0 : 0 ≤ x)
    (ret : ∀ (t : Tok) h' tk, Keep s.heap h' → Q (.int (2 * x + (if c = true then 1 else 0)) t) { s with heap := h', toks := tk }) :
    wpAny (model prog0 w) (Ar dp un fr gd) (call (.ref 91) [.int (x * 2) tx, .bool c]) Q E s := by
  refine' enter (binds := [(Str.ofString "a", .int (x * 2) tx), (Str.ofString "b", .bool c)]) X T ?k6 ?k7 (show dp < recursionLimit by omega) ?k9 ?kB ?_ ?c2 ?c3 ?c4 ?c5
  walk_at "mine enter"
  intro L' h₁ tk F N
  generalize hg : s.heap = g at *
  walk_at "mine steps"
  refine or_int_bool ?_
  rw [bitOr_two x h0 c]
  exact ret _ _ _ F.keep

theorem concat_s {w : World} {dp un : Nat} {fr : Option (List Env)} {gd : Option (List Code)} {s : Shared} {mg mb : Str → Option Value} {p : Program} {loose : List Str} {mean : ExcName → Option Value} {Q E : Value → Shared → Prop} {x y : Str} {tx ty : Tok}
    (X : (hd.heap_39 w.params).In s.heap) (T : Top p loose mean mg mb s.heap) (hdp : dp + 1 < recursionLimit) (hun : un + 100 < cLine) (hx : x.length ≤ 1000) (hy : y.length ≤ 1000)
    (ret : ∀ (t : Tok) h' tk, Keep s.heap h' → Q (.str (x ++ y) t) { s with heap := h', toks := tk }) :
    wpAny (model prog0 w) (Ar dp un fr gd) (call (.ref 98) [.str x tx, .str y ty]) Q E s := by
  refine' enter (binds := [(Str.ofString "a", .str x tx), (Str.ofString "b", .str y ty)]) X T ?k6 ?k7 (show dp < recursionLimit by omega) ?k9 ?kB ?_ ?c2 ?c3 ?c4 ?c5
  walk_at "mine enter"
  intro L' h₁ tk F N
  generalize hg : s.heap = g at *
  walk_at "mine steps"
  refine hasattr_str fun h' tk hk => ?_
  have F := Frkept F hk
  have N := Newskept N hk
  walk_at "mine steps"
  exact ret _ _ _ F.keep

theorem lt_l {w : World} {dp un : Nat} {fr : Option (List Env)} {gd : Option (List Code)} {s : Shared} {mg mb : Str → Option Value} {p : Program} {loose : List Str} {mean : ExcName → Option Value} {Q E : Value → Shared → Prop} {l r : Addr} {vs us : List Value} {xs ys : List Int}
    (X : (hd.heap_39 w.params).In s.heap) (T : Top p loose mean mg mb s.heap) (hdp : dp + 1 < recursionLimit) (hun : un + 100 < cLine) (hl : s.heap.IsList l vs.toArray) (hi : IntsAre vs xs) (hr : s.heap.IsList r us.toArray) (hj : IntsAre us ys)
    (ret : ∀ (t : Tok) h' tk, Keep s.heap h' → Q (.bool (decide (ord xs ys < 0))) { s with heap := h', toks := tk }) :
    wpAny (model prog0 w) (Ar dp un fr gd) (call (.ref 35) [.ref l, .ref r]) Q E s := by
  refine' enter (binds := [(Str.ofString "a", .ref l), (Str.ofString "b", .ref r)]) X T ?k6 ?k7 (show dp < recursionLimit by omega) ?k9 ?kB ?_ ?c2 ?c3 ?c4 ?c5
  walk_at "mine enter"
  intro L' h₁ tk F N
  generalize hg : s.heap = g at *
  walk_at "mine steps"
  refine lt_ints (hl.at fun o e => F.keep _ o e) hi (hr.at fun o e => F.keep _ o e) hj (show un + 3 < cLine by omega) ?_
  exact ret 0 _ _ F.keep

theorem le_l {w : World} {dp un : Nat} {fr : Option (List Env)} {gd : Option (List Code)} {s : Shared} {mg mb : Str → Option Value} {p : Program} {loose : List Str} {mean : ExcName → Option Value} {Q E : Value → Shared → Prop} {l r : Addr} {vs us : List Value} {xs ys : List Int}
    (X : (hd.heap_39 w.params).In s.heap) (T : Top p loose mean mg mb s.heap) (hdp : dp + 1 < recursionLimit) (hun : un + 100 < cLine) (hl : s.heap.IsList l vs.toArray) (hi : IntsAre vs xs) (hr : s.heap.IsList r us.toArray) (hj : IntsAre us ys)
    (ret : ∀ (t : Tok) h' tk, Keep s.heap h' → Q (.bool (decide (ord xs ys ≤ 0))) { s with heap := h', toks := tk }) :
    wpAny (model prog0 w) (Ar dp un fr gd) (call (.ref 42) [.ref l, .ref r]) Q E s := by
  refine' enter (binds := [(Str.ofString "a", .ref l), (Str.ofString "b", .ref r)]) X T ?k6 ?k7 (show dp < recursionLimit by omega) ?k9 ?kB ?_ ?c2 ?c3 ?c4 ?c5
  walk_at "mine enter"
  intro L' h₁ tk F N
  generalize hg : s.heap = g at *
  walk_at "mine steps"
  refine le_ints (hl.at fun o e => F.keep _ o e) hi (hr.at fun o e => F.keep _ o e) hj (show un + 3 < cLine by omega) ?_
  exact ret 0 _ _ F.keep

theorem eq_l {w : World} {dp un : Nat} {fr : Option (List Env)} {gd : Option (List Code)} {s : Shared} {mg mb : Str → Option Value} {p : Program} {loose : List Str} {mean : ExcName → Option Value} {Q E : Value → Shared → Prop} {l r : Addr} {vs us : List Value} {xs ys : List Int}
    (X : (hd.heap_39 w.params).In s.heap) (T : Top p loose mean mg mb s.heap) (hdp : dp + 1 < recursionLimit) (hun : un + 100 < cLine) (hl : s.heap.IsList l vs.toArray) (hi : IntsAre vs xs) (hr : s.heap.IsList r us.toArray) (hj : IntsAre us ys)
    (ret : ∀ (t : Tok) h' tk, Keep s.heap h' → Q (.bool (decide (xs = ys))) { s with heap := h', toks := tk }) :
    wpAny (model prog0 w) (Ar dp un fr gd) (call (.ref 49) [.ref l, .ref r]) Q E s := by
  refine' enter (binds := [(Str.ofString "a", .ref l), (Str.ofString "b", .ref r)]) X T ?k6 ?k7 (show dp < recursionLimit by omega) ?k9 ?kB ?_ ?c2 ?c3 ?c4 ?c5
  walk_at "mine enter"
  intro L' h₁ tk F N
  generalize hg : s.heap = g at *
  walk_at "mine steps"
  exact ret 0 _ _ F.keep

theorem ne_l {w : World} {dp un : Nat} {fr : Option (List Env)} {gd : Option (List Code)} {s : Shared} {mg mb : Str → Option Value} {p : Program} {loose : List Str} {mean : ExcName → Option Value} {Q E : Value → Shared → Prop} {l r : Addr} {vs us : List Value} {xs ys : List Int}
    (X : (hd.heap_39 w.params).In s.heap) (T : Top p loose mean mg mb s.heap) (hdp : dp + 1 < recursionLimit) (hun : un + 100 < cLine) (hl : s.heap.IsList l vs.toArray) (hi : IntsAre vs xs) (hr : s.heap.IsList r us.toArray) (hj : IntsAre us ys)
    (ret : ∀ (t : Tok) h' tk, Keep s.heap h' → Q (.bool (!decide (xs = ys))) { s with heap := h', toks := tk }) :
    wpAny (model prog0 w) (Ar dp un fr gd) (call (.ref 56) [.ref l, .ref r]) Q E s := by
  refine' enter (binds := [(Str.ofString "a", .ref l), (Str.ofString "b", .ref r)]) X T ?k6 ?k7 (show dp < recursionLimit by omega) ?k9 ?kB ?_ ?c2 ?c3 ?c4 ?c5
  walk_at "mine enter"
  intro L' h₁ tk F N
  generalize hg : s.heap = g at *
  walk_at "mine steps"
  exact ret 0 _ _ F.keep

theorem ge_l {w : World} {dp un : Nat} {fr : Option (List Env)} {gd : Option (List Code)} {s : Shared} {mg mb : Str → Option Value} {p : Program} {loose : List Str} {mean : ExcName → Option Value} {Q E : Value → Shared → Prop} {l r : Addr} {vs us : List Value} {xs ys : List Int}
    (X : (hd.heap_39 w.params).In s.heap) (T : Top p loose mean mg mb s.heap) (hdp : dp + 1 < recursionLimit) (hun : un + 100 < cLine) (hl : s.heap.IsList l vs.toArray) (hi : IntsAre vs xs) (hr : s.heap.IsList r us.toArray) (hj : IntsAre us ys)
    (ret : ∀ (t : Tok) h' tk, Keep s.heap h' → Q (.bool (decide (0 ≤ ord xs ys))) { s with heap := h', toks := tk }) :
    wpAny (model prog0 w) (Ar dp un fr gd) (call (.ref 63) [.ref l, .ref r]) Q E s := by
  refine' enter (binds := [(Str.ofString "a", .ref l), (Str.ofString "b", .ref r)]) X T ?k6 ?k7 (show dp < recursionLimit by omega) ?k9 ?kB ?_ ?c2 ?c3 ?c4 ?c5
  walk_at "mine enter"
  intro L' h₁ tk F N
  generalize hg : s.heap = g at *
  walk_at "mine steps"
  refine ge_ints (hl.at fun o e => F.keep _ o e) hi (hr.at fun o e => F.keep _ o e) hj (show un + 3 < cLine by omega) ?_
  exact ret 0 _ _ F.keep

theorem gt_l {w : World} {dp un : Nat} {fr : Option (List Env)} {gd : Option (List Code)} {s : Shared} {mg mb : Str → Option Value} {p : Program} {loose : List Str} {mean : ExcName → Option Value} {Q E : Value → Shared → Prop} {l r : Addr} {vs us : List Value} {xs ys : List Int}
    (X : (hd.heap_39 w.params).In s.heap) (T : Top p loose mean mg mb s.heap) (hdp : dp + 1 < recursionLimit) (hun : un + 100 < cLine) (hl : s.heap.IsList l vs.toArray) (hi : IntsAre vs xs) (hr : s.heap.IsList r us.toArray) (hj : IntsAre us ys)
    (ret : ∀ (t : Tok) h' tk, Keep s.heap h' → Q (.bool (decide (0 < ord xs ys))) { s with heap := h', toks := tk }) :
    wpAny (model prog0 w) (Ar dp un fr gd) (call (.ref 70) [.ref l, .ref r]) Q E s := by
  refine' enter (binds := [(Str.ofString "a", .ref l), (Str.ofString "b", .ref r)]) X T ?k6 ?k7 (show dp < recursionLimit by omega) ?k9 ?kB ?_ ?c2 ?c3 ?c4 ?c5
  walk_at "mine enter"
  intro L' h₁ tk F N
  generalize hg : s.heap = g at *
  walk_at "mine steps"
  refine gt_ints (hl.at fun o e => F.keep _ o e) hi (hr.at fun o e => F.keep _ o e) hj (show un + 3 < cLine by omega) ?_
  exact ret 0 _ _ F.keep

theorem concat_l {w : World} {dp un : Nat} {fr : Option (List Env)} {gd : Option (List Code)} {s : Shared} {mg mb : Str → Option Value} {p : Program} {loose : List Str} {mean : ExcName → Option Value} {Q E : Value → Shared → Prop} {l r : Addr} {vs us : List Value} {xs ys : List Int} {n : Nat}
    (X : (hd.heap_39 w.params).In s.heap) (T : Top p loose mean mg mb s.heap) (hdp : dp + 1 < recursionLimit) (hun : un + 100 < cLine) (hl : s.heap.get? l = some { cls := .type "list", dict := none, data := .seq vs.toArray n, slots := #[] }) (hr : s.heap.IsList r us.toArray) (hx : vs.length ≤ 1000) (hy : us.length ≤ 1000)
    (ret : ∀ a h' tk, Keep s.heap h' → h'.IsList a (vs ++ us).toArray → Q (.ref a) { s with heap := h', toks := tk }) :
    wpAny (model prog0 w) (Ar dp un fr gd) (call (.ref 98) [.ref l, .ref r]) Q E s := by
  refine' enter (binds := [(Str.ofString "a", .ref l), (Str.ofString "b", .ref r)]) X T ?k6 ?k7 (show dp < recursionLimit by omega) ?k9 ?kB ?_ ?c2 ?c3 ?c4 ?c5
  walk_at "mine enter"
  intro L' h₁ tk F N
  generalize hg : s.heap = g at *
  walk_at "mine steps"
  refine hasattr_list (F.keep _ _ hl) fun h' tk hk => ?_
  have F := Frkept F hk
  have N := Newskept N hk
  walk_at "mine steps"
  have hl' : Heap.IsList h' l vs.toArray := ⟨_, F.keep _ _ hl, rfl, n, rfl⟩
  have hr' : Heap.IsList h' r us.toArray := hr.at fun o e => F.keep _ o e
  refine add_arrays F N hl' hr' (fun h'' F'' N'' => ?_) (by have := sizeLine_eq; simp; omega)
  exact ret _ _ _ F''.keep ⟨_, N''.get (.head _), rfl, 0, by simp⟩

end Mine
end PC1

section PC2
open PySem PySem.W PyProof.Rows PySem.Calls
namespace Mine
theorem offC2 : True := by
  w_top off
  exact True.intro
theorem fillC2 : PySem.Challenge.rw_pg0049_01 = PySem.Challenge.rw_pg0049_01 ∧ hd.heap_39 = hd.heap_39 := by
  k_fill
  exact ⟨rfl, rfl⟩
local macro_rules | `(tactic| walk_at "mine steps") => `(tactic| repeat' (first | ((fail_if_success (with_reducible show wpAny _ _ (PySem.pyIter _) _ _ _)); (fail_if_success (with_reducible show wpAny _ _ (PySem.exec (PySem.Stmt.While _ _ _ _) _) _ _ _)); (fail_if_success (with_reducible show wpAny _ _ (PySem.eval (PySem.Expr.ListComp _ _ _ _) _) _ _ _)); walk_at "mine step")))

/-- the six answers for an order's number -/
def six (o : Int) : List Value := [.bool (decide (o < 0)), .bool (decide (o ≤ 0)), .bool (decide (o = 0)), .bool (!decide (o = 0)), .bool (decide (0 ≤ o)), .bool (decide (0 < o))]
theorem str_eq_iff {x y : Str} : x = y ↔ x.cps.toList = y.cps.toList := by
  cases x; cases y; simp [Array.toList_inj]
theorem six_s {x y : Str} {xs ys : List Int} (hx : x.cps.toList = written xs) (hy : y.cps.toList = written ys) :
    [Value.bool (decide (x.cps.toList < y.cps.toList)), Value.bool (!decide (y.cps.toList < x.cps.toList)), Value.bool (x == y), Value.bool (x != y), Value.bool (!decide (x.cps.toList < y.cps.toList)), Value.bool (decide (y.cps.toList < x.cps.toList))] = six (ord xs ys) := by
  have e1 : (x == y) = decide (ord xs ys = 0) := by
    rw [Bool.eq_iff_iff, decide_eq_true_iff, beq_iff_eq, str_eq_iff, hx, hy]; exact eq_ord xs ys
  have e2 : decide (written xs < written ys) = decide (ord xs ys < 0) := by simp only [lt_ord]
  have e3 : decide (written ys < written xs) = decide (0 < ord xs ys) := by
    have := lt_ord ys xs
    rw [ord_swap] at this
    rw [decide_eq_decide, this]; omega
  have e4 : (!decide (0 < ord xs ys)) = decide (ord xs ys ≤ 0) := by rw [← decide_not, decide_eq_decide]; omega
  have e5 : (!decide (ord xs ys < 0)) = decide (0 ≤ ord xs ys) := by rw [← decide_not, decide_eq_decide]; omega
  simp only [bne, e1, hx, hy, e2, e3, e4, e5, six]
theorem six_l (xs ys : List Int) :
    [Value.bool (decide (ord xs ys < 0)), Value.bool (decide (ord xs ys ≤ 0)), Value.bool (decide (xs = ys)), Value.bool (!decide (xs = ys)), Value.bool (decide (0 ≤ ord xs ys)), Value.bool (decide (0 < ord xs ys))] = six (ord xs ys) := by
  have e1 : decide (xs = ys) = decide (ord xs ys = 0) := by
    rw [decide_eq_decide]; exact ⟨fun h => h ▸ ord_self xs, ord_zero xs ys⟩
  simp only [e1, six]
theorem strcoll_int {x y : Str} {xs ys : List Int} (hx : x.cps.toList = written xs) (hy : y.cps.toList = written ys) :
    b2i (decide (y.cps.toList < x.cps.toList)) - b2i (decide (x.cps.toList < y.cps.toList)) = ord xs ys := by
  have e2 : decide (written xs < written ys) = decide (ord xs ys < 0) := by simp only [lt_ord]
  have e3 : decide (written ys < written xs) = decide (0 < ord xs ys) := by
    have := lt_ord ys xs
    rw [ord_swap] at this
    rw [decide_eq_decide, this]; omega
  rw [hx, hy, e2, e3]
  rcases ord_values xs ys with h | h | h <;> simp [h, b2i]
local macro_rules | `(tactic| walk_at "call ref cons nil") => `(tactic| (k_dflt ((rename Fr _ _ _ _ => F9); (rename News _ _ _ _ => N9); (rename Frag.In _ _ => X9); (rename Top _ _ _ _ _ _ => T9); (refine lt_s (X9.keeps F9.keep) (T9.keeps F9.keep) (by first | omega | (dsimp only [Around.deeper]; omega)) (by first | omega | (dsimp only [Around.deeper]; omega))  ?_); (intro _ h2 _ k2); (have F8 := Frkept F9 k2); (have N8 := Newskept N9 k2); (try dsimp only))))
local macro_rules | `(tactic| walk_at "call ref cons nil") => `(tactic| (k_dflt ((rename Fr _ _ _ _ => F9); (rename News _ _ _ _ => N9); (rename Frag.In _ _ => X9); (rename Top _ _ _ _ _ _ => T9); (refine le_s (X9.keeps F9.keep) (T9.keeps F9.keep) (by first | omega | (dsimp only [Around.deeper]; omega)) (by first | omega | (dsimp only [Around.deeper]; omega))  ?_); (intro _ h2 _ k2); (have F8 := Frkept F9 k2); (have N8 := Newskept N9 k2); (try dsimp only))))
local macro_rules | `(tactic| walk_at "call ref cons nil") => `(tactic| (k_dflt ((rename Fr _ _ _ _ => F9); (rename News _ _ _ _ => N9); (rename Frag.In _ _ => X9); (rename Top _ _ _ _ _ _ => T9); (refine eq_s (X9.keeps F9.keep) (T9.keeps F9.keep) (by first | omega | (dsimp only [Around.deeper]; omega)) (by first | omega | (dsimp only [Around.deeper]; omega))  ?_); (intro _ h2 _ k2); (have F8 := Frkept F9 k2); (have N8 := Newskept N9 k2); (try dsimp only))))
local macro_rules | `(tactic| walk_at "call ref cons nil") => `(tactic| (k_dflt ((rename Fr _ _ _ _ => F9); (rename News _ _ _ _ => N9); (rename Frag.In _ _ => X9); (rename Top _ _ _ _ _ _ => T9); (refine ne_s (X9.keeps F9.keep) (T9.keeps F9.keep) (by first | omega | (dsimp only [Around.deeper]; omega)) (by first | omega | (dsimp only [Around.deeper]; omega))  ?_); (intro _ h2 _ k2); (have F8 := Frkept F9 k2); (have N8 := Newskept N9 k2); (try dsimp only))))
local macro_rules | `(tactic| walk_at "call ref cons nil") => `(tactic| (k_dflt ((rename Fr _ _ _ _ => F9); (rename News _ _ _ _ => N9); (rename Frag.In _ _ => X9); (rename Top _ _ _ _ _ _ => T9); (refine ge_s (X9.keeps F9.keep) (T9.keeps F9.keep) (by first | omega | (dsimp only [Around.deeper]; omega)) (by first | omega | (dsimp only [Around.deeper]; omega))  ?_); (intro _ h2 _ k2); (have F8 := Frkept F9 k2); (have N8 := Newskept N9 k2); (try dsimp only))))
local macro_rules | `(tactic| walk_at "call ref cons nil") => `(tactic| (k_dflt ((rename Fr _ _ _ _ => F9); (rename News _ _ _ _ => N9); (rename Frag.In _ _ => X9); (rename Top _ _ _ _ _ _ => T9); (refine gt_s (X9.keeps F9.keep) (T9.keeps F9.keep) (by first | omega | (dsimp only [Around.deeper]; omega)) (by first | omega | (dsimp only [Around.deeper]; omega))  ?_); (intro _ h2 _ k2); (have F8 := Frkept F9 k2); (have N8 := Newskept N9 k2); (try dsimp only))))
theorem signs_s {w : World} {dp un : Nat} {fr : Option (List Env)} {gd : Option (List Code)} {s : Shared} {mg mb : Str → Option Value} {p : Program} {loose : List Str} {mean : ExcName → Option Value} {Q E : Value → Shared → Prop} {x y : Str} {tx ty : Tok} {xs ys : List Int}
    (X : (hd.heap_39 w.params).In s.heap) (T : Top p loose mean mg mb s.heap) (hdp : dp + 3 < recursionLimit) (hun : un + 200 < cLine) (hx : x.cps.toList = written xs) (hy : y.cps.toList = written ys)
    (ret : ∀ a h' tk, Keep s.heap h' → h'.IsList a (six (ord xs ys)).toArray → Q (.ref a) { s with heap := h', toks := tk }) :
    wpAny (model prog0 w) (Ar dp un fr gd) (call (.ref 138) [.str x tx, .str y ty]) Q E s := by
  refine' enter (binds := [(Str.ofString "one", .str x tx), (Str.ofString "two", .str y ty)]) X T ?k6 ?k7 (show dp < recursionLimit by omega) ?k9 ?kB ?_ ?c2 ?c3 ?c4 ?c5
  walk_at "mine enter"
  intro L' h₁ tk F N
  generalize hg : s.heap = g at *
  walk_at "mine steps"
  rename Fr _ _ _ _ => F
  rename News _ _ _ _ => N
  refine ret _ _ _ F.keep ⟨_, N.get (.head _), rfl, 0, ?_⟩
  rw [← six_s hx hy]

local macro_rules | `(tactic| walk_at "call ref cons nil") => `(tactic| (k_dflt ((rename Fr _ _ _ _ => F9); (rename News _ _ _ _ => N9); (rename Frag.In _ _ => X9); (rename Top _ _ _ _ _ _ => T9); (refine lt_l (X9.keeps F9.keep) (T9.keeps F9.keep) (by first | omega | (dsimp only [Around.deeper]; omega)) (by first | omega | (dsimp only [Around.deeper]; omega)) (Heap.IsList.at (show Heap.IsList _ _ _ by assumption) fun o e => F9.keep _ o e) (by assumption) (Heap.IsList.at (show Heap.IsList _ _ _ by assumption) fun o e => F9.keep _ o e) (by assumption) ?_); (intro _ h2 _ k2); (have F8 := Frkept F9 k2); (have N8 := Newskept N9 k2); (try dsimp only))))
local macro_rules | `(tactic| walk_at "call ref cons nil") => `(tactic| (k_dflt ((rename Fr _ _ _ _ => F9); (rename News _ _ _ _ => N9); (rename Frag.In _ _ => X9); (rename Top _ _ _ _ _ _ => T9); (refine le_l (X9.keeps F9.keep) (T9.keeps F9.keep) (by first | omega | (dsimp only [Around.deeper]; omega)) (by first | omega | (dsimp only [Around.deeper]; omega)) (Heap.IsList.at (show Heap.IsList _ _ _ by assumption) fun o e => F9.keep _ o e) (by assumption) (Heap.IsList.at (show Heap.IsList _ _ _ by assumption) fun o e => F9.keep _ o e) (by assumption) ?_); (intro _ h2 _ k2); (have F8 := Frkept F9 k2); (have N8 := Newskept N9 k2); (try dsimp only))))
local macro_rules | `(tactic| walk_at "call ref cons nil") => `(tactic| (k_dflt ((rename Fr _ _ _ _ => F9); (rename News _ _ _ _ => N9); (rename Frag.In _ _ => X9); (rename Top _ _ _ _ _ _ => T9); (refine eq_l (X9.keeps F9.keep) (T9.keeps F9.keep) (by first | omega | (dsimp only [Around.deeper]; omega)) (by first | omega | (dsimp only [Around.deeper]; omega)) (Heap.IsList.at (show Heap.IsList _ _ _ by assumption) fun o e => F9.keep _ o e) (by assumption) (Heap.IsList.at (show Heap.IsList _ _ _ by assumption) fun o e => F9.keep _ o e) (by assumption) ?_); (intro _ h2 _ k2); (have F8 := Frkept F9 k2); (have N8 := Newskept N9 k2); (try dsimp only))))
local macro_rules | `(tactic| walk_at "call ref cons nil") => `(tactic| (k_dflt ((rename Fr _ _ _ _ => F9); (rename News _ _ _ _ => N9); (rename Frag.In _ _ => X9); (rename Top _ _ _ _ _ _ => T9); (refine ne_l (X9.keeps F9.keep) (T9.keeps F9.keep) (by first | omega | (dsimp only [Around.deeper]; omega)) (by first | omega | (dsimp only [Around.deeper]; omega)) (Heap.IsList.at (show Heap.IsList _ _ _ by assumption) fun o e => F9.keep _ o e) (by assumption) (Heap.IsList.at (show Heap.IsList _ _ _ by assumption) fun o e => F9.keep _ o e) (by assumption) ?_); (intro _ h2 _ k2); (have F8 := Frkept F9 k2); (have N8 := Newskept N9 k2); (try dsimp only))))
local macro_rules | `(tactic| walk_at "call ref cons nil") => `(tactic| (k_dflt ((rename Fr _ _ _ _ => F9); (rename News _ _ _ _ => N9); (rename Frag.In _ _ => X9); (rename Top _ _ _ _ _ _ => T9); (refine ge_l (X9.keeps F9.keep) (T9.keeps F9.keep) (by first | omega | (dsimp only [Around.deeper]; omega)) (by first | omega | (dsimp only [Around.deeper]; omega)) (Heap.IsList.at (show Heap.IsList _ _ _ by assumption) fun o e => F9.keep _ o e) (by assumption) (Heap.IsList.at (show Heap.IsList _ _ _ by assumption) fun o e => F9.keep _ o e) (by assumption) ?_); (intro _ h2 _ k2); (have F8 := Frkept F9 k2); (have N8 := Newskept N9 k2); (try dsimp only))))
local macro_rules | `(tactic| walk_at "call ref cons nil") => `(tactic| (k_dflt ((rename Fr _ _ _ _ => F9); (rename News _ _ _ _ => N9); (rename Frag.In _ _ => X9); (rename Top _ _ _ _ _ _ => T9); (refine gt_l (X9.keeps F9.keep) (T9.keeps F9.keep) (by first | omega | (dsimp only [Around.deeper]; omega)) (by first | omega | (dsimp only [Around.deeper]; omega)) (Heap.IsList.at (show Heap.IsList _ _ _ by assumption) fun o e => F9.keep _ o e) (by assumption) (Heap.IsList.at (show Heap.IsList _ _ _ by assumption) fun o e => F9.keep _ o e) (by assumption) ?_); (intro _ h2 _ k2); (have F8 := Frkept F9 k2); (have N8 := Newskept N9 k2); (try dsimp only))))
theorem signs_l {w : World} {dp un : Nat} {fr : Option (List Env)} {gd : Option (List Code)} {s : Shared} {mg mb : Str → Option Value} {p : Program} {loose : List Str} {mean : ExcName → Option Value} {Q E : Value → Shared → Prop} {l r : Addr} {vs us : List Value} {xs ys : List Int}
    (X : (hd.heap_39 w.params).In s.heap) (T : Top p loose mean mg mb s.heap) (hdp : dp + 3 < recursionLimit) (hun : un + 200 < cLine) (hl : s.heap.IsList l vs.toArray) (hi : IntsAre vs xs) (hr : s.heap.IsList r us.toArray) (hj : IntsAre us ys)
    (ret : ∀ a h' tk, Keep s.heap h' → h'.IsList a (six (ord xs ys)).toArray → Q (.ref a) { s with heap := h', toks := tk }) :
    wpAny (model prog0 w) (Ar dp un fr gd) (call (.ref 138) [.ref l, .ref r]) Q E s := by
  refine' enter (binds := [(Str.ofString "one", .ref l), (Str.ofString "two", .ref r)]) X T ?k6 ?k7 (show dp < recursionLimit by omega) ?k9 ?kB ?_ ?c2 ?c3 ?c4 ?c5
  walk_at "mine enter"
  intro L' h₁ tk F N
  generalize hg : s.heap = g at *
  walk_at "mine steps"
  rename Fr _ _ _ _ => F
  rename News _ _ _ _ => N
  refine ret _ _ _ F.keep ⟨_, N.get (.head _), rfl, 0, ?_⟩
  rw [← six_l]

end Mine
end PC2

section PC3
open PySem PySem.W PyProof.Rows PySem.Calls
namespace Mine
theorem offC3 : True := by
  w_top off
  exact True.intro
theorem fillC3 : PySem.Challenge.rw_pg0049_01 = PySem.Challenge.rw_pg0049_01 ∧ hd.heap_39 = hd.heap_39 := by
  k_fill
  exact ⟨rfl, rfl⟩
local macro_rules | `(tactic| walk_at "mine steps") => `(tactic| repeat' (first | ((fail_if_success (with_reducible show wpAny _ _ (PySem.pyIter _) _ _ _)); (fail_if_success (with_reducible show wpAny _ _ (PySem.exec (PySem.Stmt.While _ _ _ _) _) _ _ _)); (fail_if_success (with_reducible show wpAny _ _ (PySem.eval (PySem.Expr.ListComp _ _ _ _) _) _ _ _)); walk_at "mine step")))

def S (l : List Nat) : Str := ⟨l.toArray⟩
theorem S_toList (l : List Nat) : (S l).cps.toList = l := rfl
theorem S_length (l : List Nat) : (S l).length = l.length := by simp [S, Str.length]
theorem S_of (x : Str) : S x.cps.toList = x := by cases x; simp [S]
theorem ofA : Str.ofString "A" = ⟨#[65]⟩ := by decide
theorem ofB : Str.ofString "B" = ⟨#[66]⟩ := by decide
theorem of0 : Str.ofString "" = ⟨#[]⟩ := by decide
theorem turned_map (x : Str) : (signs x).map (fun a => if (a == Str.ofString "A") = true then Str.ofString "B" else Str.ofString "A") = (turn x.cps.toList).map fun k => (⟨#[k]⟩ : Str) := by
  unfold signs turn
  rw [List.map_map, List.map_map]
  refine List.map_congr_left fun n _ => ?_
  simp only [Function.comp, ofA, ofB, turnC]
  by_cases h : n = 65
  · subst h; rfl
  · have h1 : ((⟨#[n]⟩ : Str) == ⟨#[65]⟩) = false := by
      rw [beq_eq_false_iff_ne]; intro e
      injection e with e
      have := congrArg Array.toList e
      simp at this; exact h this
    rw [h1, if_neg h]; rfl
theorem turned_join (x : Str) : Txt.join (Str.ofString "") ((signs x).map (fun a => if (a == Str.ofString "A") = true then Str.ofString "B" else Str.ofString "A")) = S (turn x.cps.toList) := by
  rw [turned_map, of0]
  have h := join_closes (sep := ⟨#[]⟩) (sep' := ⟨#[]⟩) (ys := (turn x.cps.toList).map fun k => (⟨#[k]⟩ : Str)) rfl
  rw [beq_iff_eq.mp h, join_ones]; rfl
theorem turned_strs {ys : List Value} {x : Str} (h : CarriedAll ys (List.map (fun a => if (a == Str.ofString "A") = true then PyData.str (Str.ofString "B") else PyData.str (Str.ofString "A")) (List.filter (fun _ => true) (signs x)))) :
    StrsAre ys ((signs x).map (fun a => if (a == Str.ofString "A") = true then Str.ofString "B" else Str.ofString "A")) := by
  rw [List.filter_eq_self.mpr (fun _ _ => rfl)] at h
  refine CarriedAll.strsOf (f := fun a => if (a == Str.ofString "A") = true then Str.ofString "B" else Str.ofString "A") ?_
  have e : (fun a => if (a == Str.ofString "A") = true then PyData.str (Str.ofString "B") else PyData.str (Str.ofString "A")) = fun a => PyData.str (if (a == Str.ofString "A") = true then Str.ofString "B" else Str.ofString "A") := by
    funext a; split <;> rfl
  rw [e] at h; exact h
theorem sum_ones : ∀ l : List Nat, ((l.map fun k => (⟨#[k]⟩ : Str)).map (·.length)).sum = l.length
  | [] => rfl
  | a :: l => by
    have := sum_ones l
    rw [List.map_cons, List.map_cons, List.sum_cons, this, List.length_cons]
    show 1 + l.length = l.length + 1
    omega
theorem turned_c {w : World} {dp un : Nat} {fr : Option (List Env)} {gd : Option (List Code)} {s : Shared} {mg mb : Str → Option Value} {p : Program} {loose : List Str} {mean : ExcName → Option Value} {Q E : Value → Shared → Prop} {x : Str} {tx : Tok}
    (X : (hd.heap_39 w.params).In s.heap) (T : Top p loose mean mg mb s.heap) (hdp : dp + 1 < recursionLimit) (hun : un + 100 < cLine) (hx : x.length ≤ 1000)
    (ret : ∀ (t : Tok) h' tk, Keep s.heap h' → Q (.str (S (turn x.cps.toList)) t) { s with heap := h', toks := tk }) :
    wpAny (model prog0 w) (Ar dp un fr gd) (call (.ref 110) [.str x tx]) Q E s := by
  refine' enter (binds := [(Str.ofString "text", .str x tx)]) X T ?k6 ?k7 (show dp < recursionLimit by omega) ?k9 ?kB ?_ ?c2 ?c3 ?c4 ?c5
  walk_at "mine enter"
  intro L' h₁ tk F N
  generalize hg : s.heap = g at *
  repeat' (first | ((fail_if_success (with_reducible show wpAny _ _ (PySem.call (Value.builtin "str.join") _) _ _ _)); walk_at "mine step"))
  rename CarriedAll _ _ => hC
  rename Heap.IsList _ _ _ => hL
  rename Fr _ _ _ _ => F
  refine join_listC hL (turned_strs hC) (by decide) ?_ ?_
  · rw [turned_map, sum_ones]
    simp only [turn, List.length_map, Array.length_toList]
    have : x.cps.size ≤ 1000 := hx
    omega
  · intro t' k
    rw [turned_join]
    exact ret _ _ _ F.keep

end Mine
end PC3

section PC4
open PySem PySem.W PyProof.Rows PySem.Calls
namespace Mine
theorem offC4 : True := by
  w_top off
  exact True.intro
theorem Frpins {g h : Heap} {L : Addr} {m : Str → Option Value} (F : Fr g L h m) {ps : List (Str × Value)} (hp : ∀ p ∈ ps, m p.1 = some p.2) : Fr g L h (kstB m ps) := by
  have e : kstB m ps = m := funext fun z => kstB_eq hp fun _ => rfl
  rw [e]; exact F
theorem Frpin {g h : Heap} {L : Addr} {m : Str → Option Value} {z : Str} {v : Value} (F : Fr g L h m) (hm : m z = some v) : Fr g L h (fun y => if y = z then some v else m y) := by
  have e : (fun y => if y = z then some v else m y) = m := by
    funext y
    by_cases hy : y = z
    · rw [if_pos hy, hy, hm]
    · rw [if_neg hy]
  rw [e]; exact F
theorem Frpin1 {g h : Heap} {L : Addr} {m : Str → Option Value} {x z : Str} {u v : Value} (F : Fr g L h (fun y => if y = x then some u else m y)) (hm : m z = some v) : Fr g L h (fun y => if y = x then some u else if y = z then some v else m y) := by
  have e : (fun y => if y = z then some v else m y) = m := by
    funext y
    by_cases hy : y = z
    · rw [if_pos hy, hy, hm]
    · rw [if_neg hy]
  have e2 : (fun y => if y = x then some u else if y = z then some v else m y) = fun y => if y = x then some u else m y := by
    funext y
    have := congrFun e y
    simp only [this]
  rw [e2]; exact F
theorem all2 {α : Type} {P : α → Prop} {a b : α} (h1 : P a) (h2 : P b) : ∀ p ∈ [a, b], P p := by simp [h1, h2]
theorem all1 {α : Type} {P : α → Prop} {a : α} (h1 : P a) : ∀ p ∈ [a], P p := by simp [h1]
theorem all3 {α : Type} {P : α → Prop} {a b c : α} (h1 : P a) (h2 : P b) (h3 : P c) : ∀ p ∈ [a, b, c], P p := by simp [h1, h2, h3]
theorem all4 {α : Type} {P : α → Prop} {a b c d : α} (h1 : P a) (h2 : P b) (h3 : P c) (h4 : P d) : ∀ p ∈ [a, b, c, d], P p := by simp [h1, h2, h3, h4]
theorem all5 {α : Type} {P : α → Prop} {a b c d e : α} (h1 : P a) (h2 : P b) (h3 : P c) (h4 : P d) (h5 : P e) : ∀ p ∈ [a, b, c, d, e], P p := by simp [h1, h2, h3, h4, h5]
theorem all6 {α : Type} {P : α → Prop} {a b c d e f : α} (h1 : P a) (h2 : P b) (h3 : P c) (h4 : P d) (h5 : P e) (h6 : P f) : ∀ p ∈ [a, b, c, d, e, f], P p := by simp [h1, h2, h3, h4, h5, h6]
end Mine
end PC4

section PC5
open PySem PySem.W PyProof.Rows PySem.Calls
namespace Mine
theorem offC5 : True := by
  w_top off
  exact True.intro
theorem S_append (a b : List Nat) : S a ++ S b = S (a ++ b) := by
  show Str.append (S a) (S b) = S (a ++ b)
  simp [Str.append, S]
theorem item_AB {lf : Int} (h : 0 ≤ lf) : Txt.item (Str.ofString "AB") (lf.fmod 2) = S [65 + lf.toNat % 2] := by
  have e : lf.fmod 2 = lf % 2 := Int.fmod_eq_emod_of_nonneg lf (by omega)
  rw [e]
  have h2 : lf % 2 = 0 ∨ lf % 2 = 1 := by omega
  rcases h2 with h2 | h2
  · have : lf.toNat % 2 = 0 := by omega
    rw [h2, this]; decide
  · have : lf.toNat % 2 = 1 := by omega
    rw [h2, this]; decide
theorem fold_rep (k : Nat) (a : Array Nat) : ((List.replicate k (#[66] : Array Nat)).foldl (· ++ ·) a) = a ++ (List.replicate k 66).toArray := by
  induction k generalizing a with
  | zero => simp
  | succ k ih =>
    rw [List.replicate_succ, List.foldl_cons, ih, List.replicate_succ]
    apply Array.ext'
    simp
theorem mul_B (k : Nat) : Txt.mul (Str.ofString "B") ((k : Int) + 1) = S (List.replicate (k + 1) 66) := by
  unfold Txt.mul
  rw [ofB, if_neg (by omega)]
  by_cases h : k = 0
  · subst h; rfl
  · have h1 : (((k : Int) + 1 == 1 || (⟨#[66]⟩ : Str).length == 0) = true) ↔ False := by
      simp [Str.length]; omega
    rw [if_neg (by rw [h1]; exact id)]
    have h2 : ((k : Int) + 1).toNat = k + 1 := by omega
    rw [h2, fold_rep]
    simp [S]
theorem slice_1 (l : List Nat) : Txt.slice (S l) (some 1) none = S (l.drop 1) := by
  show StrLaws.sliceText (S l) (some 1) none = _
  cases l with
  | nil => decide
  | cons a l =>
    rw [StrLaws.sliceText_from (by simp [S]; omega)]
    simp [S]
theorem word_len {x : Int} (h : -4096 ≤ x ∧ x < 4096) : (word x).length ≤ 25 := by
  have key : ∀ n : Nat, n < 4096 → (wordN n).length ≤ 25 := fun n hn => by
    have := figs_len_lt 12 n (by omega)
    rw [wordN_len]; omega
  unfold word
  split
  · exact key _ (by omega)
  · simp only [turn, List.length_map]; exact key _ (by omega)
theorem written_len : ∀ {xs : List Int}, (∀ x ∈ xs, -4096 ≤ x ∧ x < 4096) → (written xs).length ≤ 25 * xs.length
  | [], _ => by simp [written]
  | x :: xs, h => by
    rw [written_cons, List.length_append, List.length_cons]
    have := word_len (h x (by simp))
    have := written_len (xs := xs) fun y hy => h y (by simp [hy])
    omega
theorem written_take {xs : List Int} {i : Nat} {n : Int} (h : xs[i]? = some n) : written (xs.take (i + 1)) = written (xs.take i) ++ word n := by
  rw [List.take_add_one, h, written_append]
  simp [written]
/-- the word that the code builds of V's figures -/
theorem word_built (V : Nat) : Txt.mul (Str.ofString "B") (((S (figs V)).length : Int) + 1) ++ Str.ofString "A" ++ Txt.slice (S (figs V)) (some 1) none = S (wordN V) := by
  rw [S_length, mul_B, slice_1, show Str.ofString "A" = S [65] from by decide, S_append, S_append]
  unfold wordN
  simp
end Mine
end PC5

section PC6
open PySem PySem.W PyProof.Rows PySem.Calls
namespace Mine
theorem offC6 : True := by
  w_top off
  exact True.intro
theorem fillC6 : PySem.Challenge.rw_pg0049_01 = PySem.Challenge.rw_pg0049_01 ∧ hd.heap_39 = hd.heap_39 := by
  k_fill
  exact ⟨rfl, rfl⟩
local macro_rules | `(tactic| walk_at "call ref cons nil") => `(tactic| (k_dflt ((rename Fr _ _ _ _ => F9); (rename News _ _ _ _ => N9); (rename Frag.In _ _ => X9); (rename Top _ _ _ _ _ _ => T9); (refine turned_c (X9.keeps F9.keep) (T9.keeps F9.keep) (by first | omega | (dsimp only [Around.deeper]; omega)) (by first | omega | (dsimp only [Around.deeper]; omega)) (by omega) ?_); (intro _ h2 _ k2); (have F8 := Frkept F9 k2); (have N8 := Newskept N9 k2); (try dsimp only))))

theorem fdiv_two {lf : Int} (h : 0 ≤ lf) : (lf.fdiv 2).toNat = lf.toNat / 2 := by
  have : lf.fdiv 2 = lf / 2 := Int.fdiv_eq_ediv_of_nonneg lf (by omega)
  rw [this]; omega
theorem fdiv_two' {lf : Int} (h : 0 < lf) : 0 ≤ lf.fdiv 2 ∧ lf.fdiv 2 < lf := by
  have : lf.fdiv 2 = lf / 2 := Int.fdiv_eq_ediv_of_nonneg lf (by omega)
  rw [this]; omega
theorem written_c {w : World} {dp un : Nat} {fr : Option (List Env)} {gd : Option (List Code)} {s : Shared} {mg mb : Str → Option Value} {p : Program} {loose : List Str} {mean : ExcName → Option Value} {Q E : Value → Shared → Prop} {l : Addr} {vs : List Value} {xs : List Int}
    (X : (hd.heap_39 w.params).In s.heap) (T : Top p loose mean mg mb s.heap) (hdp : dp + 3 < recursionLimit) (hun : un + 200 < cLine) (hl : s.heap.IsList l vs.toArray) (hi : IntsAre vs xs) (hx : xs.length ≤ 20) (hb : ∀ x ∈ xs, -4096 ≤ x ∧ x < 4096)
    (ret : ∀ (t : Tok) h' tk, Keep s.heap h' → Q (.str (S (written xs)) t) { s with heap := h', toks := tk }) :
    wpAny (model prog0 w) (Ar dp un fr gd) (call (.ref 117) [.ref l]) Q E s := by
  refine' enter (binds := [(Str.ofString "row", .ref l)]) X T ?k6 ?k7 (show dp < recursionLimit by omega) ?k9 ?kB ?_ ?c2 ?c3 ?c4 ?c5
  walk_at "mine enter"
  intro L' h₁ tk F N
  generalize hg : s.heap = g at *
  walk_at "mine steps"
  rename Fr _ _ _ _ => F
  rename News _ _ _ _ => N
  rename IntsAre _ _ => hi
  refine iter_inv (fun i m => ∃ t, m (Str.ofString "text") = some (.str (S (written (xs.take i))) t)) rfl hl hi F N ⟨_, rfl⟩ ?_ ?_
  · rintro i n t m₁ h tk own hn ⟨tt, hm⟩ F₁ N₁
    have F₁ := Frpin1 F₁ hm
    have hbn := hb n (List.mem_of_getElem? hn)
    have hwl : (S (written (xs.take i))).length ≤ 500 := by
      rw [S_length]
      have := written_len (xs := xs.take i) fun y hy => hb y (List.mem_of_mem_take hy)
      simp only [List.length_take] at this; omega
    clear hm
    obtain ⟨V, hV⟩ : ∃ V : Nat, V = (if 0 ≤ n then n else -1 - n).toNat := ⟨_, rfl⟩
    have hV4 : V < 4096 := by rw [hV]; split <;> omega
    have hw : word n = if 0 ≤ n then wordN V else turn (wordN V) := by
      rw [hV]; unfold word; split <;> rfl
    have hwV : (S (wordN V)).length ≤ 25 := by rw [S_length, wordN_len]; have := figs_len_lt 12 V (by omega); omega
    have hwT : (S (turn (S (wordN V)).cps.toList)).length ≤ 25 := by
      rw [S_length]; simp only [turn, List.length_map]; rw [S_toList, ← S_length]; exact hwV
    by_cases hn0 : 0 ≤ n
    all_goals walk_at "mine steps"
    all_goals (
      rename Fr _ _ _ _ => F₂
      rename News _ _ _ _ => N₂
      refine While_inv2 (L := L') (fun k m nx => nx = own ++ [] ∧ ∃ lf Fg t1 t2 t3 t4, m (Str.ofString "left") = some (.int lf t1) ∧ m (Str.ofString "figures") = some (.str (S Fg) t2) ∧ m (Str.ofString "text") = some (.str (S (written (xs.take i))) t3) ∧ m (Str.ofString "x") = some (.int n t4) ∧ 0 ≤ lf ∧ lf < 4096 ∧ figs lf.toNat ++ Fg = figs V ∧ k = lf.toNat) F₂ N₂ ⟨rfl, _, [], _, _, _, _, rfl, rfl, rfl, rfl, ?_, ?_, ?_, rfl⟩ ?_
      · omega
      · omega
      · rw [hV]; simp [hn0]
      · rintro k m₂ nx h₂ tk₂ F₃ N₃ ⟨rfl, lf, Fg, t1, t2, t3, t4, e1, e2, e3, e4, h0, h1, hf, rfl⟩
        have F₃ := Frpins (ps := [(Str.ofString "left", _), (Str.ofString "figures", _), (Str.ofString "text", _), (Str.ofString "x", _)]) F₃ (all4 e1 e2 e3 e4)
        dsimp only [kstB] at F₃
        clear e1 e2 e3 e4
        have hlen : Fg.length ≤ 12 := by
          have a1 := congrArg List.length hf
          have a2 := figs_len_lt 12 V (by omega)
          simp only [List.length_append] at a1; omega
        have hlenS : (S Fg).length ≤ 12 := by rw [S_length]; exact hlen
        clear hV
        repeat' (first | ((fail_if_success (with_reducible show WhileStep2 _ _ _ _ _ _ _ _)); (fail_if_success (with_reducible show wpAny _ _ (PySem.execs (PySem.Stmt.Assign [PySem.Expr.Name (Str.ofString "text") _] _ _ :: _) _) _ _ _)); walk_at "mine step"))
        · rename Fr _ _ _ _ => F₄
          rename News _ _ _ _ => N₄
          have hlf : 0 < lf := by omega
          have hd := fdiv_two' hlf
          rw [item_AB h0, S_append] at F₄
          dsimp only [WhileStep2]
          refine ⟨_, _, _, _, (lf.fdiv 2).toNat, rfl, F₄, N₄, by omega, rfl, lf.fdiv 2, [65 + lf.toNat % 2] ++ Fg, _, _, _, _, rfl, rfl, rfl, rfl, hd.1, by omega, ?_, rfl⟩
          · rw [fdiv_two h0, ← List.append_assoc, ← figs_pos (by omega), hf]
        · refine wpAny_execs_cons ?_
          have e0 : lf = 0 := by omega
          subst e0
          have hFg : Fg = figs V := by rw [← hf]; simp [figs_zero]
          subst hFg
          simp only [word_built] at *
          walk_at "mine steps"
          rename Fr _ _ _ _ => F₄
          rename News _ _ _ _ => N₄
          have ew := written_take hn
          rw [hw] at ew
          first
            | (rw [if_pos hn0] at ew; rw [S_append, ← ew] at F₄; exact InvEnd.intro F₄ N₄ (fun _ hp => hp) ⟨_, rfl⟩)
            | (rw [if_neg hn0] at ew; rw [S_toList, S_append, ← ew] at F₄; exact InvEnd.intro F₄ N₄ (fun _ hp => hp) ⟨_, rfl⟩))
  · rintro m₁ h tk ⟨tt, hm⟩ F₁ N₁
    have F₁ := Frpin F₁ hm
    rw [List.take_length] at F₁
    walk_at "mine steps"
    exact ret _ _ _ F₁.keep

end Mine
end PC6

section PM1
open PySem PySem.W PyProof.Rows PySem.Calls
namespace Mine
theorem offM1 : True := by
  w_top off
  exact True.intro
/-- tokens are never taken back -/
theorem runs_toks {M : Model} {Γ : Ctx} {p : Pos} {t : Sem PySem.Fin} {fs : List Frame} {s s' : Shared} {e : End} (h : Runs M Γ p t fs s e s') : s.toks ≤ s'.toks := by
  induction h with
  | done => exact Nat.le_refl _
  | raise => exact Nat.le_refl _
  | again _ _ ih => exact ih
  | rule _ ih => exact ih
  | «at» _ ih => exact ih
  | load _ _ ih => exact ih
  | update _ _ ih => exact ih
  | loadIfAlive _ ih => exact ih
  | point _ ih => exact ih
  | alloc _ ih => exact ih
  | fresh _ ih => exact Nat.le_trans (Nat.le_succ _) ih
  | ask _ ih => exact ih
  | choose _ _ ih => exact ih
  | os _ ih => exact ih
  | handled _ ih => exact ih
  | genState _ _ ih => exact ih
  | stack _ ih => exact ih
  | thread _ ih => exact ih
  | newGen _ ih => exact ih
  | call _ _ ih1 ih2 => exact Nat.le_trans ih1 ih2
  | callSusp _ ih => exact ih
  | yield => exact Nat.le_refl _
  | resumeFresh _ _ _ _ ih1 ih2 => exact Nat.le_trans ih1 ih2
  | resumeSuspended _ _ _ _ ih1 ih2 => exact Nat.le_trans ih1 ih2
  | resumeJustStarted _ _ _ ih => exact ih
  | resumeThrowFresh _ _ ih => exact ih
  | resumeRunning _ _ ih => exact ih
  | resumeFinished _ _ ih => exact ih
  | segRet _ _ ih1 ih2 => exact Nat.le_trans ih1 ih2
  | segGen _ _ ih1 ih2 => exact Nat.le_trans ih1 ih2
  | segSuspOut _ _ ih => exact ih
  | segSuspGen _ _ _ _ ih1 ih2 => exact Nat.le_trans ih1 ih2
theorem wakes_toks {M : Model} {Γ : Ctx} {p : Pos} {g : Nat} {r : Resume} {s s' : Shared} {res : GenResult} (h : Wakes M Γ p g r s res s') : s.toks ≤ s'.toks := by
  unfold Wakes at h
  split at h
  · exact h.elim
  · split at h
    · obtain ⟨e₁, s₁, hr, _, _, rfl⟩ := h; have q := runs_toks hr; exact q
    · obtain ⟨_, rfl⟩ := h; exact Nat.le_refl _
    · obtain ⟨_, rfl⟩ := h; exact Nat.le_refl _
  · obtain ⟨e₁, s₁, hr, _, _, rfl⟩ := h; have q := runs_toks hr; exact q
  · obtain ⟨_, rfl⟩ := h; exact Nat.le_refl _
  · obtain ⟨_, rfl⟩ := h; exact Nat.le_refl _
theorem wp_toks {α : Type} {M : Model} {Γ : Ctx} (n : Nat) {Q : α → Pos → Shared → Prop} {E : Value → Pos → Shared → Prop} : ∀ (t : Sem α) (p : Pos) (s : Shared), n ≤ s.toks →
    Sem.wp M Γ t (fun a p' s' => n ≤ s'.toks → Q a p' s') (fun e p' s' => n ≤ s'.toks → E e p' s') p s → Sem.wp M Γ t Q E p s := by
  intro t
  induction t with
  | pure a => intro p s hn h; simp only [Sem.wp] at h ⊢; exact h hn
  | raise e => intro p s hn h; simp only [Sem.wp] at h ⊢; exact h hn
  | unsupported w => intro p s hn h; simp only [Sem.wp] at h
  | finish e => intro p s hn h; simp only [Sem.wp] at h
  | rule tag k ih => intro p s hn h; simp only [Sem.wp] at h ⊢; exact ih _ _ _ hn h
  | «at» q k ih => intro p s hn h; simp only [Sem.wp] at h ⊢; exact ih _ _ _ hn h
  | load a part k ih => intro p s hn h; simp only [Sem.wp] at h ⊢; obtain ⟨o, ho, h⟩ := h; exact ⟨o, ho, ih _ _ _ hn h⟩
  | update a part f k ih => intro p s hn h; simp only [Sem.wp] at h ⊢; exact ⟨h.1, ih _ _ _ hn h.2⟩
  | alloc o k ih => intro p s hn h; simp only [Sem.wp] at h ⊢; exact ih _ _ _ hn h
  | loadIfAlive a k ih => intro p s hn h; simp only [Sem.wp] at h ⊢; exact ih _ _ _ hn h
  | point l k ih => intro p s hn h; simp only [Sem.wp] at h ⊢; exact ih _ _ _ hn h
  | register a k ih => intro p s hn h; simp only [Sem.wp] at h
  | fresh k ih => intro p s hn h; simp only [Sem.wp] at h ⊢; exact ih _ _ _ (Nat.le_trans hn (Nat.le_succ _)) h
  | ask k ih => intro p s hn h; simp only [Sem.wp] at h ⊢; exact ih _ _ _ hn h
  | choose src n k ih => intro p s hn h; simp only [Sem.wp] at h ⊢; exact ⟨h.1, ih _ _ _ hn h.2⟩
  | os req l k ih => intro p s hn h; simp only [Sem.wp] at h ⊢; exact ih _ _ _ hn h
  | call c hd g l k ih =>
    intro p s hn h
    simp only [Sem.wp] at h ⊢
    obtain ⟨r, s', hr, h⟩ := h
    exact ⟨r, s', hr, ih _ _ _ (Nat.le_trans hn (runs_toks hr)) h⟩
  | handled own k ih => intro p s hn h; simp only [Sem.wp] at h ⊢; exact ih _ _ _ hn h
  | newGen c k ih => intro p s hn h; simp only [Sem.wp] at h ⊢; exact ih _ _ _ hn h
  | genState g k ih => intro p s hn h; simp only [Sem.wp] at h ⊢; obtain ⟨st, hs, h⟩ := h; exact ⟨st, hs, ih _ _ _ hn h⟩
  | resume g r l k ih =>
    intro p s hn h
    simp only [Sem.wp] at h ⊢
    obtain ⟨res, s', hw, h⟩ := h
    exact ⟨res, s', hw, ih _ _ _ (Nat.le_trans hn (wakes_toks hw)) h⟩
  | yield v g l k ih => intro p s hn h; simp only [Sem.wp] at h
  | stack k ih => intro p s hn h; simp only [Sem.wp] at h ⊢; exact ih _ _ _ hn h
  | fork c k ih => intro p s hn h; simp only [Sem.wp] at h
  | thread k ih => intro p s hn h; simp only [Sem.wp] at h ⊢; exact ih _ _ _ hn h
  | await a t d l k ih => intro p s hn h; simp only [Sem.wp] at h
/-- behind a tree no fewer tokens are out than ahead of it -/
theorem wpAny_toks {α : Type} {M : Model} {A : Around} {t : Sem α} {Q : α → Shared → Prop} {E : Value → Shared → Prop} {s : Shared}
    (h : wpAny M A t (fun v s' => s.toks ≤ s'.toks → Q v s') (fun e s' => s.toks ≤ s'.toks → E e s') s) : wpAny M A t Q E s :=
  fun Γ p hΓ => wp_toks s.toks t p s (Nat.le_refl _) (h Γ p hΓ)
theorem wpAny_toksN {α : Type} {M : Model} {A : Around} {t : Sem α} {Q : α → Shared → Prop} {E : Value → Shared → Prop} {s : Shared} (n : Nat) (hn : n ≤ s.toks)
    (h : wpAny M A t (fun v s' => n ≤ s'.toks → Q v s') (fun e s' => n ≤ s'.toks → E e s') s) : wpAny M A t Q E s :=
  fun Γ p hΓ => wp_toks n t p s hn (h Γ p hΓ)
end Mine
end PM1

section PM2
open PySem PySem.W PyProof.Rows PySem.Calls
namespace Mine
theorem offM2 : True := by
  w_top off
  exact True.intro
section
variable {prog : Program} {w : World} {A : Around} {E : Value → Shared → Prop} {s : Shared}
theorem enum_next {e it : Addr} {x : Str} {t : Tok} {i c : Nat} {old : Value} {ty : String} {Q : Option Value → Shared → Prop}
    (he : IsEnum s.heap e it i old) (hit : s.heap.IsStrIter it ty x t i) (hne : e ≠ it)
    (hnext : ∀ (A : Around) (Q' : Value → Shared → Prop) (E : Value → Shared → Prop), (∀ h', h'.IsStrIter it ty x t (i + 1) → Heap.SameBut it s.heap h' → Q' (.str ⟨#[c]⟩ s.toks) { s with heap := h', toks := s.toks + 1 }) → wpAny (model prog w) A (Builtin.SmallTypes.nextOf (.ref it)) Q' E s)
    (hQ : ∀ h' tk, IsEnumOut h' e it ((i : Int) + 1) (.str ⟨#[c]⟩ s.toks) s.heap.objs.size → h'.IsStrIter it ty x t (i + 1) →
      h'.get? s.heap.objs.size = some { cls := .type "tuple", data := .seq #[.int i (s.toks + 1), .str ⟨#[c]⟩ s.toks] } →
      (∀ b o, b ≠ e → b ≠ it → s.heap.get? b = some o → h'.get? b = some o) → s.toks ≤ tk → Q (some (.ref s.heap.objs.size)) { s with heap := h', toks := tk }) :
    wpAny (model prog w) A (pyNext (.ref e)) Q E s := by
  have hT : s.TypeIs (.ref e) "enumerate" := ⟨_, he, rfl⟩
  have hel : e < s.heap.objs.size := Heap.lt_size he
  unfold pyNext
  refine wpAny_bind (wpAny_attempt (wpAny_callSpecial?_slot (name := Str.ofString "__next__") hT F.slot_enumerate_next (wpAny_call_entry F.slot_enumerate_next hT F.entry_enumerate_next ?_ (F.args_enumerate_next_1 _))))
  obtain ⟨hp, g, d, tk, os⟩ := s
  show wpAny _ _ (field (.ref e) 2 >>= _) _ _ _
  refine wpAny_bind (wpAny_field he rfl (x := .ref it) rfl ?_)
  refine wpAny_bind (hnext _ _ _ fun h₁ hit₁ hs₁ => ?_)
  have he₁ : IsEnum h₁ e it i old := (hs₁.2 e hne).trans he
  have hz₁ : h₁.objs.size = hp.objs.size := hs₁.1
  have hk₁ : ∀ b o, b ≠ it → hp.get? b = some o → h₁.get? b = some o := fun b o hb x => hs₁.extBut b o hb x
  show wpAny _ _ (field (.ref e) 3 >>= _) _ _ ⟨h₁, g, d, tk + 1, os⟩
  refine wpAny_bind (wpAny_field he₁ rfl (x := rawInt i) rfl ?_)
  show wpAny _ _ (field (.ref e) 4 >>= _) _ _ ⟨h₁, g, d, tk + 1, os⟩
  refine wpAny_bind (wpAny_field he₁ rfl (x := .none) rfl ?_)
  show wpAny _ _ (mkInt i >>= _) _ _ ⟨h₁, g, d, tk + 1, os⟩
  refine wpAny_bind (wpAny_mkInt ?_)
  refine wpAny_bind (wpAny_setField_rec he₁ (by simp) fun h₂ he₂ hs₂ => ?_)
  refine wpAny_bind (wpAny_setField_rec he₂ (by simp) fun h₃ he₃ hs₃ => ?_)
  refine wpAny_bind (wpAny_newTuple ?_)
  replace hs₂ : Heap.SameBut e h₁ h₂ := hs₂
  replace hs₃ : Heap.SameBut e h₂ h₃ := hs₃
  have hz₃ : h₃.objs.size = hp.objs.size := by rw [hs₃.1, hs₂.1, hs₁.1]
  have k3 : ∀ b o, b ≠ e → h₁.get? b = some o → h₃.get? b = some o := fun b o hb y => hs₃.extBut b o hb (hs₂.extBut b o hb y)
  generalize hh₄ : h₃.push { cls := .type "tuple", data := .seq [Value.int i (tk + 1), Value.str ⟨#[c]⟩ tk].toArray } = h₄
  have k4 : ∀ b o, b ≠ e → h₁.get? b = some o → h₄.get? b = some o := fun b o hb y => by rw [← hh₄]; exact Heap.get?_push_of_some _ (k3 b o hb y)
  have t4 : h₄.get? hp.objs.size = some { cls := .type "tuple", data := .seq #[.int i (tk + 1), .str ⟨#[c]⟩ tk] } := by rw [← hh₄, ← hz₃]; exact Heap.get?_push_size _ rfl
  have he₄ : IsEnum h₄ e it ((i : Int) + 1) old := by rw [← hh₄]; exact Heap.get?_push_of_some _ he₃
  rw [show ({ heap := h₃, gens := g, drawn := d, toks := tk + 1 + 1, os := os } : Shared).heap.objs.size = hp.objs.size from hz₃]
  show wpAny _ _ (Builtin.SmallTypes.ownedTupleIsFree (.ref e) >>= _) _ _ ⟨h₄, g, d, tk + 1 + 1, os⟩
  refine wpAny_bind ?_
  unfold Builtin.SmallTypes.ownedTupleIsFree
  refine wpAny_bind (wpAny_field he₄ rfl (x := .none) rfl (wpAny_pure ?_))
  simp only [if_true]
  refine wpAny_bind (wpAny_rule (wpAny_bind (wpAny_field he₄ rfl (x := old) rfl ?_)))
  refine wpAny_bind (wpAny_setField_rec he₄ (by simp) fun h₅ he₅ hs₅ => wpAny_bind ?_)
  replace hs₅ : Heap.SameBut e h₄ h₅ := hs₅
  show wpAny _ _ (Builtin.SmallTypes.ownedTupleHandOut (.ref e) (.ref hp.objs.size)) _ _ ⟨h₅, g, d, tk + 1 + 1, os⟩
  unfold Builtin.SmallTypes.ownedTupleHandOut
  refine wpAny_bind (wpAny_setField_rec he₅ (by simp) fun h₆ he₆ hs₆ => ?_)
  replace hs₆ : Heap.SameBut e h₅ h₆ := hs₆
  refine wpAny_setField_rec he₆ (by simp) fun h₇ he₇ hs₇ => ?_
  replace hs₇ : Heap.SameBut e h₆ h₇ := hs₇
  have k7 : ∀ b o, b ≠ e → h₄.get? b = some o → h₇.get? b = some o := fun b o hb y => hs₇.extBut b o hb (hs₆.extBut b o hb (hs₅.extBut b o hb y))
  refine wpAny_bind (wpAny_letGo (wpAny_pure ⟨_, rfl, wpAny_pure (hQ h₇ _ he₇ ?_ ?_ ?_ ?_)⟩))
  · obtain ⟨o, ho, r⟩ := hit₁
    exact ⟨o, k7 _ _ (Ne.symm hne) (k4 _ _ (Ne.symm hne) ho), r⟩
  · exact k7 _ _ (Nat.ne_of_gt hel) t4
  · exact fun b o hb hb' y => k7 b o hb (k4 b o hb (hk₁ b o hb' y))
  · show tk ≤ tk + 1 + 1
    omega
end
end Mine
end PM2

section PM3
open PySem PySem.W PyProof.Rows PySem.Calls
namespace Mine
theorem offM3 : True := by
  w_top off
  exact True.intro
section
variable {prog : Program} {w : World} {A : Around} {E : Value → Shared → Prop} {s : Shared} {env : Env} {h₀ : Heap}
/-- a loop over enumerate of a text that is left by a return at its k-th sign; its else is not met; each sign's token is no elder than the loop -/
theorem enum_search {R : Result → Shared → Prop} {xi xc : Str} {pk pv pt : Pos} {x1 : Nat} {body orelse : List Stmt} {e it : Addr} {x : Str} {t : Tok} {m : Str → Option Value} (hh : A.handled = none)
    (hxi : env.kindOf xi = some .local) (hxc : env.kindOf xc = some .local)
    (hp : (env.scope.kind == .class || (env.scope.kind == .module && env.locals != env.globals)) = false)
    (he : IsEnum s.heap e it 0 .none) (hit : s.heap.IsStrIter it (strIterType x) x t 0) (hei : e ≠ it) (heL : env.locals ≠ e) (hiL : env.locals ≠ it) (he0 : h₀.get? e = none) (hi0 : h₀.get? it = none)
    (F : Fr h₀ env.locals s.heap m) (k : Nat) (hk : k < x.cps.size) (n : Nat) (hn : n ≤ s.toks)
    (step : ∀ (i c : Nat) (u v : Tok) (m₁ : Str → Option Value) (h : Heap) (tk : Nat), i ≤ k → x.cps[i]? = some c → n ≤ v → (∀ y, y ≠ xi → y ≠ xc → m₁ y = m y) →
      Fr h₀ env.locals h (fun y => if y = xc then some (.str ⟨#[c]⟩ v) else if y = xi then some (.int i u) else m₁ y) →
      wpAny (model prog w) A (execs body env) (fun f s₃ => match f with
        | .ret v => R (.ok (.ret v)) s₃
        | .next => i < k ∧ ∃ tk', s₃ = { s with heap := h, toks := tk' }
        | _ => False) (fun _ _ => False) { s with heap := h, toks := tk }) :
    codeAny (model prog w) A (.forLoop (.Tuple [.Name xi pk, .Name xc pv] x1 pt) (.ref e) body orelse env) R s := by
  refine codeAny_forLoop_any
    (fun d s' => ∃ (h : Heap) (tk i : Nat) (m' : Str → Option Value) (old : Value), s' = { s with heap := h, toks := tk } ∧ n ≤ tk ∧ IsEnum h e it (i : Int) old ∧ h.IsStrIter it (strIterType x) x t i ∧ Fr h₀ env.locals h m' ∧ (∀ y, y ≠ xi → y ≠ xc → m' y = m y) ∧ i ≤ k ∧ d = k + 1 - i) ?_ (k + 1)
    ⟨s.heap, s.toks, 0, m, .none, rfl, hn, he, hit, F, fun _ _ _ => rfl, Nat.zero_le _, rfl⟩
  rintro d s' ⟨h, tk, i, m', old, rfl, hn', he', hit', F', hm, hi, rfl⟩
  have hlt : i < x.cps.size := by omega
  have hc : x.cps[i]? = some x.cps[i] := by simp [hlt]
  refine enum_next (c := x.cps[i]) he' hit' hei ?_ ?_
  · intro A' Q' E' hq
    unfold strIterType at hit' hq
    split at hq
    · rename_i ha
      rw [if_pos ha] at hit'
      exact wpAny_nextOf_ascii_item hit' hc hq
    · rename_i ha
      rw [if_neg ha] at hit'
      exact wpAny_nextOf_wide_item hit' hc hq
  intro h₁ tk₁ ho hit₁ hT hk₁ htk₁
  replace htk₁ : tk ≤ tk₁ := htk₁
  refine wpAny_letOwnedTupleGo_enum ho fun h₂ he₂ hs₂ => ?_
  replace hs₂ : Heap.SameBut e h₁ h₂ := hs₂
  have helt : e < h.objs.size := Heap.lt_size he'
  have ht₂ : h₂.IsTuple h.objs.size #[.int i (tk + 1), .str ⟨#[x.cps[i]]⟩ tk] := ⟨_, hs₂.extBut _ _ (Nat.ne_of_gt helt) hT, rfl, _, rfl⟩
  refine wpAny_assign_Tuple hh ht₂ rfl rfl fun h₄ hx₃ => ?_
  replace hx₃ : Heap.ExtBut h₂.objs.size h₂ h₄ := hx₃
  have up : ∀ b o, h₂.get? b = some o → h₄.get? b = some o := fun b o y => hx₃ b o (Nat.ne_of_lt (Heap.lt_size y)) y
  have kp : ∀ b o, b ≠ e → b ≠ it → h.get? b = some o → h₄.get? b = some o := fun b o hb hb' y => up b o (hs₂.extBut b o hb (hk₁ b o hb hb' y))
  have F₃ : Fr h₀ env.locals h₄ m' := ⟨F'.ns.at' fun o q => kp _ o heL hiL q, fun b o q => kp b o (fun z => by rw [z, he0] at q; cases q) (fun z => by rw [z, hi0] at q; cases q) (F'.keep b o q), F'.above⟩
  have he₄ : IsEnum h₄ e it ((i + 1 : Nat) : Int) (.str ⟨#[x.cps[i]]⟩ tk) := up _ _ (by simpa using he₂)
  have hit₄ : h₄.IsStrIter it (strIterType x) x t (i + 1) := by
    obtain ⟨o, q, r⟩ := hit₁
    exact ⟨o, up _ _ (hs₂.extBut _ _ (Ne.symm hei) q), r⟩
  show wpAny _ A (do holding [.str ⟨#[x.cps[i]]⟩ tk] (assign (.Name xi pk) env (.int i (tk + 1))); do holding [] (assign (.Name xc pv) env (.str ⟨#[x.cps[i]]⟩ tk)); pure ()) _ _ _
  refine wpAny_bind (wpAny_holding (wpAny_assign_Name (wpAny_storeName_local hxi F₃.ns (fun h₅ hn₅ hs₅ => ?_) hp)))
  replace hs₅ : Heap.SameBut env.locals h₄ h₅ := hs₅
  have F₅ := F₃.set hn₅ hs₅
  refine wpAny_bind (wpAny_holding (wpAny_assign_Name (wpAny_storeName_local hxc F₅.ns (fun h₆ hn₆ hs₆ => wpAny_pure ?_) hp)))
  replace hs₆ : Heap.SameBut env.locals h₅ h₆ := hs₆
  have F₆ := F₅.set hn₆ hs₆
  have he₆ : IsEnum h₆ e it ((i + 1 : Nat) : Int) (.str ⟨#[x.cps[i]]⟩ tk) := hs₆.extBut _ _ (Ne.symm heL) (hs₅.extBut _ _ (Ne.symm heL) he₄)
  have hit₆ : h₆.IsStrIter it (strIterType x) x t (i + 1) := by
    obtain ⟨o, q, r⟩ := hit₄
    exact ⟨o, hs₆.extBut _ _ (Ne.symm hiL) (hs₅.extBut _ _ (Ne.symm hiL) q), r⟩
  refine wpAny_toksN n (by dsimp only; omega) (wpAny_mono (step i _ (tk + 1) tk m' h₆ _ hi hc hn' hm F₆) (fun f s₃ q hn₃ => ?_) fun _ _ q => q.elim)
  cases f with
  | ret v => exact q
  | brk => exact q.elim
  | cont => exact q.elim
  | next =>
    obtain ⟨hik, tk', rfl⟩ := q
    refine ⟨k + 1 - (i + 1), by omega, h₆, tk', i + 1, _, _, rfl, hn₃, he₆, hit₆, F₆, fun y h1 h2 => ?_, by omega, rfl⟩
    show (if y = xc then _ else if y = xi then _ else m' y) = m y
    rw [if_neg h2, if_neg h1]; exact hm y h1 h2

/-- for i, j in enumerate(x): .. else: .. -/
theorem enum_for {Q : Flow → Shared → Prop} {xi xc : Str} {pk pv pt pos : Pos} {x1 : Nat} {body orelse : List Stmt} {iter : PySem.Expr} {m : Str → Option Value} {x : Str} {t : Tok} (hh : A.handled = none)
    (hxi : env.kindOf xi = some .local) (hxc : env.kindOf xc = some .local)
    (hp : (env.scope.kind == .class || (env.scope.kind == .module && env.locals != env.globals)) = false)
    (F : Fr h₀ env.locals s.heap m) (k : Nat) (hk : k < x.cps.size) (n : Nat) (hn : n ≤ s.toks)
    (hev : ∀ Q' : Value → Shared → Prop, (∀ tk, n ≤ tk → wpAny (model prog w) A (call (.type "enumerate") [.str x t]) Q' E { s with toks := tk }) → wpAny (model prog w) A (eval iter env) Q' E s)
    (step : ∀ (i c : Nat) (u v : Tok) (m₁ : Str → Option Value) (h : Heap) (tk : Nat), i ≤ k → x.cps[i]? = some c → n ≤ v → (∀ y, y ≠ xi → y ≠ xc → m₁ y = m y) →
      Fr h₀ env.locals h (fun y => if y = xc then some (.str ⟨#[c]⟩ v) else if y = xi then some (.int i u) else m₁ y) →
      wpAny (model prog w) A (execs body env) (fun f s₃ => match f with
        | .ret v => Q (.ret v) s₃
        | .next => i < k ∧ ∃ tk', s₃ = { s with heap := h, toks := tk' }
        | _ => False) (fun _ _ => False) { s with heap := h, toks := tk })
    (hs : ∀ x, foldedSetIterable iter env x = pure x) :
    wpAny (model prog w) A (exec (.For (.Tuple [.Name xi pk, .Name xc pv] x1 pt) iter body orelse pos) env) Q E s := by
  have hLs : env.locals < s.heap.objs.size := F.ns.lt
  have hab : h₀.objs.size ≤ env.locals := F.above
  refine wpAny_For (hev _ fun tk hn' => call_enumerate_str fun h' he hit hsz hkp => wpAny_pyIter_enum he ?_) hs
  have F' : Fr h₀ env.locals h' m := ⟨F.ns.keeps hkp, fun b o e => hkp b o (F.keep b o e), F.above⟩
  exact enum_search hh hxi hxc hp he hit (Nat.succ_ne_self _) (Nat.ne_of_lt (Nat.lt_succ_of_lt hLs)) (Nat.ne_of_lt hLs)
    (Heap.get?_none_of_le (Nat.le_trans hab (Nat.le_of_lt (Nat.lt_succ_of_lt hLs)))) (Heap.get?_none_of_le (Nat.le_trans hab (Nat.le_of_lt hLs))) F' k hk n hn' step
end
end Mine
end PM3

section PC8
open PySem PySem.W PyProof.Rows PySem.Calls
namespace Mine
theorem offC8 : True := by
  w_top off
  exact True.intro
theorem fillC8 : PySem.Challenge.rw_pg0049_01 = PySem.Challenge.rw_pg0049_01 ∧ hd.heap_39 = hd.heap_39 := by
  k_fill
  exact ⟨rfl, rfl⟩

theorem booked_none {w : World} {h : Heap} {p : Program} {loose : List Str} {mean : ExcName → Option Value} {mg mb : Str → Option Value} (X : (hd.heap_39 w.params).In h) (T : Top p loose mean mg mb h) : NoneBooked h := by
  obtain ⟨mc, hn, _⟩ := T.nodigits
  exact ⟨mc, hn, ns_none_of X hn (by k_is)⟩
theorem enterT {w : World} {A : Around} {s : Shared} {K : Frag} {mg mb : Str → Option Value} {p : Program} {loose : List Str} {mean : ExcName → Option Value}
    {name qual : Str} {params : Arguments} {body : List Stmt} {scope : Scope} {dV kV doc pm cdv ct oc : Value} {an od : Option Addr} {osl : Array (Option Value)} {f : Addr} {args : List Value} {binds : List (Str × Value)}
    {Q : Value → Shared → Prop} {E : Value → Shared → Prop} {prog : Program} (X : K.In s.heap) (T : Top p loose mean mg mb s.heap)
    (ho : K.lookup f = some ⟨oc, od, .func (fnOf name qual params body scope dV kV doc pm an cdv ct), osl⟩) (hcd : codeIn K cdv qual = true) (hroom : A.depth < recursionLimit)
    (hbind : BindsTo s (fnOf name qual params body scope dV kV doc pm an cdv ct) ⟨args, []⟩ binds) (hloc : ∀ y ∈ binds, scope.names.lookup y.1 = some .local)
    (h : ∀ L' h₁ tk, s.toks ≤ tk → Fr s.heap L' h₁ (fun y => binds.reverse.lookup y) → News s.heap L' h₁ [] →
      wpAny (model prog w) (A.deeper (envOf qual scope L' f cdv)) (execs body (envOf qual scope L' f cdv))
        (fun fl s' => Q (match fl with | .ret v => v | _ => .none) s') (fun _ _ => False)
        { s with heap := h₁, toks := tk })
    (hco : scope.isCoroutine = false) (hgen : scope.isGenerator = false) (hk : scope.kind = .function)
    (hcell : ∀ x ∈ scope.names, x.2 ≠ .cell) : wpAny (model prog w) A (call (.ref f) args) Q E s := by
  refine wpAny_call ?_
  refine codeAny_call_def (fd := fnOf name qual params body scope dV kV doc pm an cdv ct) (body := body) (binds := binds) hroom (X _ _ ho) rfl T.nolimit (codeRec_of X hcd) rfl hbind hcell hloc (fun h₁ hns hk₁ => ?_) hco hgen hk
  refine wpAny_mono (h s.heap.objs.size h₁ _ (Nat.le_add_right _ _) ⟨hns, hk₁, Nat.le_refl _⟩ News.nil) (fun fl s' hl => hl) fun _ _ y => y.elim
theorem is_str {M : Model} {A : Around} {E : Value → Shared → Prop} {s : Shared} {y z : Str} {u v : Tok} {Q : Value → Shared → Prop} (h0 : u ≠ 0) (h1 : v ≠ 0) (hne : y ≠ z → u ≠ v) (hb : NoneBooked s.heap)
    (hq : ∀ b, (y ≠ z → b = false) → Q (.bool b) s) : wpAny M A (compareOp .Is (.str y u) (.str z v)) Q E s := by
  show wpAny M A (do return .bool (← isSame (.str y u) (.str z v))) Q E s
  refine wpAny_bind ?_
  show wpAny M A (isSame.created (y == z) u v) _ E s
  unfold isSame.created
  have e0 : (u == 0 || v == 0) = false := by simp [h0, h1]
  rw [if_neg (by rw [e0]; exact Bool.false_ne_true)]
  by_cases huv : u = v
  · have e1 : (u == v) = true := by simpa using huv
    rw [if_pos e1]
    exact wpAny_pure (wpAny_pure (hq _ fun h => absurd huv (hne h)))
  · have e1 : (u == v) = false := by simpa using huv
    rw [if_neg (by rw [e1]; exact Bool.false_ne_true)]
    by_cases hyz : y = z
    · have e2 : (!(y == z)) = false := by simp [hyz]
      rw [if_neg (by rw [e2]; exact Bool.false_ne_true)]
      refine wpAny_bind (wpAny_sharingNotTold_none hb ?_)
      rw [if_neg Bool.false_ne_true]
      refine wpAny_bind (wpAny_sharingNotTold_none hb ?_)
      rw [if_neg Bool.false_ne_true]
      exact wpAny_bind (wpAny_rule (wpAny_bind (wpAny_askSetting (wpAny_pure (wpAny_pure (hq _ fun h => absurd hyz h))))))
    · have e2 : (!(y == z)) = true := by simp [hyz]
      rw [if_pos e2]
      exact wpAny_pure (wpAny_pure (hq _ fun _ => rfl))
theorem indexOf_c {w : World} {dp un : Nat} {fr : Option (List Env)} {gd : Option (List Code)} {s : Shared} {mg mb : Str → Option Value} {p : Program} {loose : List Str} {mean : ExcName → Option Value} {Q E : Value → Shared → Prop} {x : Str} {c k : Nat} {tx ty : Tok}
    (X : (hd.heap_39 w.params).In s.heap) (T : Top p loose mean mg mb s.heap) (hdp : dp + 1 < recursionLimit) (hun : un + 100 < cLine) (hk : k < x.cps.size) (hc : x.cps[k]? = some c) (hno : ∀ i, i < k → x.cps[i]? ≠ some c) (h0 : ty ≠ 0) (htk : ty + 1 ≤ s.toks)
    (ret : ∀ (t : Tok) h' tk, Keep s.heap h' → Q (.int k t) { s with heap := h', toks := tk }) :
    wpAny (model prog0 w) (Ar dp un fr gd) (call (.ref 105) [.str x tx, .str ⟨#[c]⟩ ty]) Q E s := by
  refine' enterT (binds := [(Str.ofString "a", .str x tx), (Str.ofString "b", .str ⟨#[c]⟩ ty)]) X T ?k6 ?k7 (show dp < recursionLimit by omega) ?k9 ?kB ?_ ?c2 ?c3 ?c4 ?c5
  walk_at "mine enter"
  intro L' h₁ tk htk' F N
  have hnb : NoneBooked s.heap := booked_none X T
  have N0 := N
  clear N
  generalize hg : s.heap = g at *
  refine wpAny_execs_cons ?_
  refine enum_for (t := tx) rfl rfl rfl rfl F k hk (ty + 1) (show ty + 1 ≤ tk from Nat.le_trans htk htk') ?_ ?_ ?_
  · intro Q' hQ
    repeat' (first | ((fail_if_success (with_reducible show wpAny _ _ (PySem.call (Value.type "enumerate") _) _ _ _)); walk_at "mine step"))
    exact hQ _ (Nat.le_trans htk htk')
  · intro i e u v m₁ h tk hi he hv hm F₁
    have e1 : (fun y => if y = Str.ofString "j" then some (Value.str ⟨#[e]⟩ v) else if y = Str.ofString "i" then some (Value.int i u) else m₁ y) = (fun y => if y = Str.ofString "j" then some (Value.str ⟨#[e]⟩ v) else if y = Str.ofString "i" then some (Value.int i u) else List.lookup y [(Str.ofString "a", Value.str x tx), (Str.ofString "b", Value.str ⟨#[c]⟩ ty)].reverse) := by
      funext y
      by_cases h1 : y = Str.ofString "j"
      · simp [h1]
      · by_cases h2 : y = Str.ofString "i"
        · simp [h2]
        · simp only [if_neg h1, if_neg h2]; exact hm y h2 h1
    rw [e1] at F₁
    clear hm e1
    have hec : (⟨#[e]⟩ : Str) ≠ ⟨#[c]⟩ ↔ e ≠ c := by
      constructor
      · intro q r; exact q (by rw [r])
      · intro q r
        injection r with r
        have := congrArg Array.toList r
        simp at this; exact q this
    repeat' (first | ((fail_if_success (with_reducible show wpAny _ _ (PySem.compareOp CmpOp.Is _ _) _ _ _)); walk_at "mine step"))
    refine is_str (Nat.ne_of_gt (Nat.lt_of_lt_of_le (Nat.succ_pos ty) hv)) h0 (fun _ => Nat.ne_of_gt (Nat.lt_of_succ_le hv)) ⟨hnb.choose, hnb.choose_spec.1.keeps F₁.keep, hnb.choose_spec.2⟩ fun b hb => ?_
    by_cases hq : e = c
    · have hik : i = k := by
        rcases Nat.lt_or_eq_of_le hi with h1 | h1
        · exact absurd (hq ▸ he) (hno i h1)
        · exact h1
      subst hik hq
      cases b
      all_goals walk_at "mine steps"
      all_goals first | exact ret _ _ _ F₁.keep | (exfalso; rename_i q; simp at q)
    · have hik : i < k := by
        rcases Nat.lt_or_eq_of_le hi with h1 | h1
        · exact h1
        · subst h1; rw [hc] at he; exact absurd (Option.some.inj he).symm hq
      have hb' := hb (hec.mpr hq)
      subst hb'
      walk_at "mine steps"
      all_goals first | exact hik | exact ⟨hik, _, rfl⟩ | (exfalso; rename_i q; exact hec.mpr hq (beq_iff_eq.mp q)) | (exfalso; rename_i q; exact hec.mpr hq q)
  · intro _; rfl

end Mine
end PC8

section PR1
open PySem PySem.W PyProof.Rows PySem.Calls
namespace Mine
theorem offR1 : True := by
  w_top off
  exact True.intro
def val (l : List Nat) : Int := l.foldl (fun a c => 2 * a + (if c = 66 then 1 else 0)) 0
theorem val_snoc (l : List Nat) (c : Nat) : val (l ++ [c]) = 2 * val l + (if c = 66 then 1 else 0) := by simp [val]
theorem val_nil : val [] = 0 := rfl
theorem val_figs (n : Nat) : val (figs n) = n := by
  induction n using Nat.strongRecOn with
  | _ n ih =>
    by_cases h : n = 0
    · subst h; rw [figs_zero]; rfl
    · rw [figs_pos h, val_snoc, ih (n / 2) (by omega)]
      split <;> omega
theorem val_bound (l : List Nat) : 0 ≤ val l ∧ val l < 2 ^ l.length := by
  have key : ∀ k (l : List Nat), l.length = k → 0 ≤ val l ∧ val l < 2 ^ k := by
    intro k
    induction k with
    | zero => intro l hl; have : l = [] := List.eq_nil_of_length_eq_zero hl
              subst this; simp [val_nil]
    | succ k ih =>
      intro l hl
      have hne : l ≠ [] := by intro e; subst e; simp at hl
      have e := List.dropLast_concat_getLast hne
      rw [← e, val_snoc]
      have := ih l.dropLast (by simp [hl])
      rw [Int.pow_succ]
      split <;> omega
  exact key _ l rfl
theorem val_take {l : List Nat} {j c : Nat} (h : l[j]? = some c) : val (l.take (j + 1)) = 2 * val (l.take j) + (if c = 66 then 1 else 0) := by
  rw [List.take_add_one, h]; exact val_snoc _ _
theorem val_start (n : Nat) : val ((figs n).take 1) = if (figs n).length = 0 then 0 else 1 := by
  by_cases h : n = 0
  · subst h; rw [figs_zero]; rfl
  · obtain ⟨t, e⟩ := figs_head h
    rw [e]; rfl
theorem val_small {V j : Nat} (hV : V < 4096) (hj : j < (figs V).length) : 0 ≤ val ((figs V).take j) ∧ val ((figs V).take j) < 4096 := by
  have h1 := val_bound ((figs V).take j)
  have h2 := figs_len_lt 12 V (by omega)
  have h3 : (2 : Int) ^ ((figs V).take j).length ≤ 2 ^ 12 := by
    have : (2 : Nat) ^ ((figs V).take j).length ≤ 2 ^ 12 := Nat.pow_le_pow_right (by omega) (by simp only [List.length_take]; omega)
    exact_mod_cast this
  have h4 : (2 : Int) ^ 12 = 4096 := by decide
  omega
/-- the sign that leads the word of x, and the other one -/
def leadC (x : Int) : Nat := if 0 ≤ x then 66 else 65
def offC (x : Int) : Nat := if 0 ≤ x then 65 else 66
def numN (x : Int) : Nat := (if 0 ≤ x then x else -1 - x).toNat
def tailW (x : Int) : List Nat := if 0 ≤ x then (figs (numN x)).drop 1 else turn ((figs (numN x)).drop 1)
theorem word_shape (x : Int) : word x = List.replicate ((figs (numN x)).length + 1) (leadC x) ++ offC x :: tailW x := by
  unfold word leadC offC tailW wordN
  by_cases h : 0 ≤ x
  · have e : numN x = x.toNat := by unfold numN; rw [if_pos h]
    simp only [if_pos h, e]
  · have e : numN x = (-1 - x).toNat := by unfold numN; rw [if_neg h]
    simp only [if_neg h, e]
    rw [turn_append, turn, List.map_replicate]
    rfl
theorem word_len' (x : Int) : (word x).length = max ((figs (numN x)).length + 2) (2 * (figs (numN x)).length + 1) := by
  have h : (tailW x).length = (figs (numN x)).length - 1 := by unfold tailW; split <;> simp [turn]
  rw [word_shape]
  simp only [List.length_append, List.length_replicate, List.length_cons, h]
  omega
theorem numN_lt {x : Int} (h : -4096 ≤ x ∧ x < 4096) : numN x < 4096 := by unfold numN; split <;> omega
theorem word_first (x : Int) (r : List Nat) : (word x ++ r)[0]? = some (leadC x) := by
  rw [word_shape, List.replicate_succ]; rfl
theorem word_hit (x : Int) (r : List Nat) : (word x ++ r)[(figs (numN x)).length + 1]? = some (offC x) := by
  rw [word_shape, List.append_assoc, List.getElem?_append_right (by simp)]
  simp
theorem lead_off (x : Int) : leadC x ≠ offC x := by unfold leadC offC; split <;> decide
theorem word_miss (x : Int) (r : List Nat) {i : Nat} (h : i < (figs (numN x)).length + 1) : (word x ++ r)[i]? ≠ some (offC x) := by
  rw [word_shape, List.append_assoc, List.getElem?_append_left (by simpa using h), List.getElem?_replicate]
  rw [if_pos h]
  intro e
  exact lead_off x (Option.some.inj e)
theorem word_tail (x : Int) : (word x).drop ((figs (numN x)).length + 2) = tailW x := by
  rw [word_shape]
  have e : (figs (numN x)).length + 2 = (List.replicate ((figs (numN x)).length + 1) (leadC x)).length + 1 := by simp
  rw [e, List.drop_append, List.drop_eq_nil_of_le (by simp)]
  simp
/-- a tail's sign against the lead tells the figure -/
theorem tail_sign {x : Int} {j c : Nat} (h : (tailW x)[j]? = some c) : ∃ d, (figs (numN x))[j + 1]? = some d ∧ (c = leadC x ↔ d = 66) := by
  unfold tailW at h
  by_cases hx : 0 ≤ x
  · rw [if_pos hx, List.getElem?_drop] at h
    refine ⟨c, by rw [Nat.add_comm]; exact h, ?_⟩
    unfold leadC; rw [if_pos hx]
  · rw [if_neg hx, turn, List.getElem?_map, List.getElem?_drop] at h
    cases hd : (figs (numN x))[1 + j]? with
    | none => rw [hd] at h; cases h
    | some d =>
      rw [hd] at h
      refine ⟨d, by rw [Nat.add_comm]; exact hd, ?_⟩
      have hab := figs_ab (numN x) d (List.mem_of_getElem? hd)
      have e : turnC d = c := Option.some.inj h
      rw [← e]; unfold leadC turnC; rw [if_neg hx]
      rcases hab with rfl | rfl <;> simp
theorem num_back (x : Int) : (if 0 ≤ x then (numN x : Int) else -1 - (numN x : Int)) = x := by
  unfold numN; split <;> omega
theorem tail_len (x : Int) : (tailW x).length = (figs (numN x)).length - 1 := by unfold tailW; split <;> simp [turn]
end Mine
end PR1

section PR2
open PySem PySem.W PyProof.Rows PySem.Calls
namespace Mine
theorem offR2 : True := by
  w_top off
  exact True.intro
section
variable {prog : Program} {w : World} {A : Around} {E : Value → Shared → Prop} {Q : Flow → Shared → Prop} {s : Shared} {env : Env} {h₀ : Heap} {L : Addr}
theorem while_toks {test : PySem.Expr} {body : List Stmt} {pos : Pos} {m : Str → Option Value} {news : List (Addr × Obj)} (N0 : Nat) (hN0 : N0 ≤ s.toks) (J : Nat → (Str → Option Value) → List (Addr × Obj) → Prop) {n₀ : Nat}
    (F : Fr h₀ L s.heap m) (N : News h₀ L s.heap news) (hJ : J n₀ m news)
    (turn : ∀ n m₁ news₁ h₁ tk₁, N0 ≤ tk₁ → Fr h₀ L h₁ m₁ → News h₀ L h₁ news₁ → J n m₁ news₁ →
      wpAny (model prog w) A (isTrue test env (eval test env)) (fun b s₂ =>
        if b = true then wpAny (model prog w) A (execs body env) (WhileStep2 h₀ L s J Q n) E s₂ else Q .next s₂) E { s with heap := h₁, toks := tk₁ })
    (hE : PassesOwn (model prog w) A env E) :
    wpAny (model prog w) A (exec (.While test body [] pos) env) Q E s := by
  refine wpAny_While (codeAny_whileLoop (fun n s' => ∃ h₁ tk₁ m₁ news₁, s' = { s with heap := h₁, toks := tk₁ } ∧ N0 ≤ tk₁ ∧ Fr h₀ L h₁ m₁ ∧ News h₀ L h₁ news₁ ∧ J n m₁ news₁) ?_ n₀ ⟨s.heap, s.toks, m, news, rfl, hN0, F, N, hJ⟩)
  rintro n s' ⟨h₁, tk₁, m₁, news₁, rfl, htk, F₁, N₁, J₁⟩
  refine wpAny_toksN N0 htk (wpAny_mono (turn n m₁ news₁ h₁ tk₁ htk F₁ N₁ J₁) (fun b s₂ h₂ hn₂ => ?_) fun e s' q _ => hE e s' q)
  cases b with
  | false =>
    simp only [Bool.false_eq_true, if_false] at h₂ ⊢
    exact wpAny_execs_nil h₂
  | true =>
    simp only [if_true] at h₂ ⊢
    refine wpAny_toksN N0 hn₂ (wpAny_mono h₂ (fun f s₃ h₃ hn₃ => ?_) fun e s' q _ => hE e s' q)
    cases f with
    | ret v => exact h₃
    | brk => exact h₃
    | next =>
      obtain ⟨h', tk, m₂, news₂, n', rfl, F₂, N₂, hn, J₂⟩ := h₃
      exact ⟨n', hn, h', tk, m₂, news₂, rfl, hn₃, F₂, N₂, J₂⟩
    | cont =>
      obtain ⟨h', tk, m₂, news₂, n', rfl, F₂, N₂, hn, J₂⟩ := h₃
      exact ⟨n', hn, h', tk, m₂, news₂, rfl, hn₃, F₂, N₂, J₂⟩
end
theorem item_nat {l : List Nat} {k c : Nat} (h : l[k]? = some c) : Txt.item (S l) (k : Int) = S [c] := by
  have hk : k < l.length := (List.getElem?_eq_some_iff.mp h).1
  have e : Txt.charAt (S l) (k : Int) = some c := by
    unfold Txt.charAt
    have e1 : seqIndex? (k : Int) (S l).length = some k := by
      rw [S_length]; unfold seqIndex?
      simp; omega
    rw [e1]
    simpa [S] using h
  unfold Txt.item
  rw [e]; rfl
theorem slice_from {l : List Nat} {k : Nat} (h : k ≤ l.length) : Txt.slice (S l) (some (k : Int)) none = S (l.drop k) := by
  show StrLaws.sliceText (S l) (some (k : Int)) none = _
  rw [StrLaws.sliceText_from (by simp [S]; omega)]
  simp [S]
  exact List.take_of_length_le (by simp)
theorem slice_mid {l : List Nat} {a b : Nat} (hab : a ≤ b) (hb : b ≤ l.length) : Txt.slice (S l) (some (a : Int)) (some (b : Int)) = S ((l.drop a).take (b - a)) := by
  show StrLaws.sliceText (S l) (some (a : Int)) (some (b : Int)) = _
  rw [StrLaws.sliceText_nat _ hab (by rw [S_length]; exact hb)]
  rfl
end Mine
end PR2

section PC9
open PySem PySem.W PyProof.Rows PySem.Calls
namespace Mine
theorem offC9 : True := by
  w_top off
  exact True.intro
theorem fillC9 : PySem.Challenge.rw_pg0049_01 = PySem.Challenge.rw_pg0049_01 ∧ hd.heap_39 = hd.heap_39 := by
  k_fill
  exact ⟨rfl, rfl⟩
local macro_rules | `(tactic| walk_at "call ref cons nil") => `(tactic| (k_dflt ((rename Fr _ _ _ _ => F9); (rename News _ _ _ _ => N9); (rename Frag.In _ _ => X9); (rename Top _ _ _ _ _ _ => T9); (refine inv_c (X9.keeps F9.keep) (T9.keeps F9.keep) (by first | omega | (dsimp only [Around.deeper]; omega)) (by first | omega | (dsimp only [Around.deeper]; omega))  ?_); (intro _ h2 _ k2); (have F8 := Frkept F9 k2); (have N8 := Newskept N9 k2); (try dsimp only))))
local macro_rules | `(tactic| walk_at "call ref cons nil") => `(tactic| (k_dflt ((rename Fr _ _ _ _ => F9); (rename News _ _ _ _ => N9); (rename Frag.In _ _ => X9); (rename Top _ _ _ _ _ _ => T9); (refine eq_s (X9.keeps F9.keep) (T9.keeps F9.keep) (by first | omega | (dsimp only [Around.deeper]; omega)) (by first | omega | (dsimp only [Around.deeper]; omega))  ?_); (intro _ h2 _ k2); (have F8 := Frkept F9 k2); (have N8 := Newskept N9 k2); (try dsimp only))))
local macro_rules | `(tactic| walk_at "call ref cons nil") => `(tactic| (k_dflt ((rename Fr _ _ _ _ => F9); (rename News _ _ _ _ => N9); (rename Frag.In _ _ => X9); (rename Top _ _ _ _ _ _ => T9); (refine lshift_c (X9.keeps F9.keep) (T9.keeps F9.keep) (by first | omega | (dsimp only [Around.deeper]; omega)) (by first | omega | (dsimp only [Around.deeper]; omega)) (by omega) (by omega) ?_); (intro _ h2 _ k2); (have F8 := Frkept F9 k2); (have N8 := Newskept N9 k2); (try dsimp only))))
local macro_rules | `(tactic| walk_at "call ref cons nil") => `(tactic| (k_dflt ((rename Fr _ _ _ _ => F9); (rename News _ _ _ _ => N9); (rename Frag.In _ _ => X9); (rename Top _ _ _ _ _ _ => T9); (refine or_c (X9.keeps F9.keep) (T9.keeps F9.keep) (by first | omega | (dsimp only [Around.deeper]; omega)) (by first | omega | (dsimp only [Around.deeper]; omega)) (by omega) ?_); (intro _ h2 _ k2); (have F8 := Frkept F9 k2); (have N8 := Newskept N9 k2); (try dsimp only))))

local macro_rules | `(tactic| walk_at "mine stmt") => `(tactic| repeat' (first | ((fail_if_success (with_reducible show wpAny _ _ (PySem.execs _ _) _ _ _)); (fail_if_success (with_reducible show WhileStep2 _ _ _ _ _ _ _ _)); (fail_if_success (with_reducible show InvPost _ _ _ _ _ _ _ _)); (fail_if_success (with_reducible show InvEnd _ _ _ _ _ _)); (fail_if_success (with_reducible show wpAny _ _ (PySem.pyIter _) _ _ _)); (fail_if_success (with_reducible show wpAny _ _ (PySem.call (Value.ref _) _) _ _ _)); (fail_if_success (with_reducible show wpAny _ _ (PySem.exec (PySem.Stmt.While _ _ _ _) _) _ _ _)); (fail_if_success (with_reducible show wpAny _ _ (PySem.eval (PySem.Expr.Subscript (PySem.Expr.Name (Str.ofString "text") _) (PySem.Expr.Slice _ _ _ _) _) _) _ _ _)); walk_at "mine step")))

theorem indexOf_word {w : World} {dp un : Nat} {fr : Option (List Env)} {gd : Option (List Code)} {s : Shared} {mg mb : Str → Option Value} {p : Program} {loose : List Str} {mean : ExcName → Option Value} {Q E : Value → Shared → Prop} {n : Int} {r : List Nat} {y : Str} {tx ty : Tok} (hy : y = ⟨#[offC n]⟩)
    (X : (hd.heap_39 w.params).In s.heap) (T : Top p loose mean mg mb s.heap) (hdp : dp + 1 < recursionLimit) (hun : un + 100 < cLine) (h0 : ty ≠ 0) (htk : ty + 1 ≤ s.toks)
    (ret : ∀ (t : Tok) h' tk, Keep s.heap h' → Q (.int (((figs (numN n)).length + 1 : Nat) : Int) t) { s with heap := h', toks := tk }) :
    wpAny (model prog0 w) (Ar dp un fr gd) (call (.ref 105) [.str (S (word n ++ r)) tx, .str y ty]) Q E s := by
  subst hy
  have hh := word_hit n r
  have hlt := (List.getElem?_eq_some_iff.mp hh).1
  refine indexOf_c (k := (figs (numN n)).length + 1) X T hdp hun (by simpa [S] using hlt) (by simpa [S] using hh) (fun i hi => ?_) h0 htk ret
  simpa [S] using word_miss n r hi

theorem ints_snoc' : ∀ {vs : List Value} {xs : List Int} {n : Int} {t : Tok}, IntsAre vs xs → IntsAre (vs ++ [.int n t]) (xs ++ [n])
  | _, _, n, t, .nil => .cons n t .nil
  | _, _, _, _, .cons k u r => .cons k u (ints_snoc' r)
theorem ints_snoc {vs : List Value} {xs : List Int} {i : Nat} {n : Int} {t : Tok} (h : IntsAre vs (xs.take i)) (hn : xs[i]? = some n) : IntsAre (vs ++ [.int n t]) (xs.take (i + 1)) := by
  rw [List.take_add_one, hn]; exact ints_snoc' h
theorem Frpins1 {g h : Heap} {L : Addr} {m : Str → Option Value} {z : Str} {u : Value} (F : Fr g L h (fun y => if y = z then some u else m y)) {ps : List (Str × Value)} (hp : ∀ p ∈ ps, m p.1 = some p.2) : Fr g L h (fun y => if y = z then some u else kstB m ps y) := by
  have e : kstB m ps = m := funext fun z => kstB_eq hp fun _ => rfl
  rw [e]; exact F
theorem sign_step (n : Int) (j c : Nat) (h : (tailW n)[j]? = some c) : 2 * val ((figs (numN n)).take (j + 1)) + (if ((⟨#[c]⟩ : Str) == S [leadC n]) = true then 1 else 0) = val ((figs (numN n)).take (j + 1 + 1)) := by
  obtain ⟨d, hd, hiff⟩ := tail_sign h
  rw [val_take hd]
  congr 1
  by_cases q : c = leadC n
  · rw [if_pos (hiff.mp q), if_pos (by rw [q]; exact beq_self_eq_true _)]
  · rw [if_neg (fun r => q (hiff.mpr r)), if_neg ?_]
    intro r
    have r := beq_iff_eq.mp r
    injection r with r
    have := congrArg Array.toList r
    simp at this; exact q this
theorem val_whole (n : Int) : val ((figs (numN n)).take ((S (tailW n)).cps.size + 1)) = (numN n : Int) := by
  have : (figs (numN n)).take ((S (tailW n)).cps.size + 1) = figs (numN n) := List.take_of_length_le (by
    have : (S (tailW n)).cps.size = (tailW n).length := by simp [S]
    rw [this, tail_len]; omega)
  rw [this, val_figs]
theorem behind_is {xs : List Int} {i : Nat} {n : Int} (h : xs[i]? = some n) : ((written (xs.take i)).length : Int) + (if 2 * (((figs (numN n)).length + 1 : Nat) : Int) - 1 > (((figs (numN n)).length + 1 : Nat) : Int) + 1 then 2 * (((figs (numN n)).length + 1 : Nat) : Int) - 1 else (((figs (numN n)).length + 1 : Nat) : Int) + 1) = ((written (xs.take (i + 1))).length : Nat) := by
  rw [written_take h, List.length_append, word_len']
  split <;> omega
theorem number_is (n : Int) : (if 1 < (((figs (numN n)).length + 1 : Nat) : Int) - 1 then 1 else (((figs (numN n)).length + 1 : Nat) : Int) - 1) = val ((figs (numN n)).take 1) := by
  rw [val_start]
  by_cases h : (figs (numN n)).length = 0
  · rw [if_pos h, if_neg (by omega)]; omega
  · rw [if_neg h]; split <;> omega
theorem tail_is {xs : List Int} {i : Nat} {n : Int} (h : xs[i]? = some n) (hs : written xs = written (xs.take i) ++ (word n ++ written (xs.drop (i + 1)))) :
    Txt.slice (S (written xs)) (some (((written (xs.take i)).length : Int) + (((figs (numN n)).length + 1 : Nat) : Int) + 1)) (some ((written (xs.take (i + 1))).length : Nat)) = S (tailW n) := by
  have e1 : ((written (xs.take i)).length : Int) + (((figs (numN n)).length + 1 : Nat) : Int) + 1 = (((written (xs.take i)).length + ((figs (numN n)).length + 2) : Nat) : Int) := by omega
  have hw := word_len' n
  have hl : (written (xs.take (i + 1))).length = (written (xs.take i)).length + (word n).length := by rw [written_take h, List.length_append]
  rw [e1, slice_mid (by rw [hl, hw]; omega) (by rw [hl, hs]; simp only [List.length_append]; omega), hl]
  congr 1
  rw [hs, ← List.drop_drop, List.drop_left, List.drop_append_of_le_length (by rw [hw]; omega), word_tail]
  have e2 : (written (xs.take i)).length + (word n).length - ((written (xs.take i)).length + ((figs (numN n)).length + 2)) = (tailW n).length := by
    rw [tail_len, hw]; omega
  rw [e2, List.take_left]
theorem read_c {w : World} {dp un : Nat} {fr : Option (List Env)} {gd : Option (List Code)} {s : Shared} {mg mb : Str → Option Value} {p : Program} {loose : List Str} {mean : ExcName → Option Value} {Q E : Value → Shared → Prop} {xs : List Int} {tx : Tok}
    (X : (hd.heap_39 w.params).In s.heap) (T : Top p loose mean mg mb s.heap) (hdp : dp + 3 < recursionLimit) (hun : un + 200 < cLine) (hx : xs.length ≤ 40) (hb : ∀ x ∈ xs, -4096 ≤ x ∧ x < 4096)
    (ret : ∀ a vs h' tk, Keep s.heap h' → IntsAre vs xs → h'.IsList a vs.toArray → Q (.ref a) { s with heap := h', toks := tk }) :
    wpAny (model prog0 w) (Ar dp un fr gd) (call (.ref 124) [.str (S (written xs)) tx]) Q E s := by
  refine' enter (binds := [(Str.ofString "text", .str (S (written xs)) tx)]) X T ?k6 ?k7 (show dp < recursionLimit by omega) ?k9 ?kB ?_ ?c2 ?c3 ?c4 ?c5
  walk_at "mine enter"
  intro L' h₁ tk F N
  generalize hg : s.heap = g at *
  refine wpAny_execs_cons ?_
  walk_at "mine stmt"
  refine wpAny_execs_cons ?_
  walk_at "mine stmt"
  refine wpAny_execs_cons ?_
  rename Fr _ _ _ _ => F
  rename News _ _ _ _ => N
  rename Addr => r0
  dsimp only at *
  refine while_toks (L := L') 1 (by dsimp only; omega) (fun k m nx => ∃ i vs cnt t1 t2, i ≤ xs.length ∧ nx = [(r0, W.listOf vs.toArray cnt)] ∧ IntsAre vs (xs.take i) ∧ m (Str.ofString "row") = some (.ref r0) ∧ m (Str.ofString "place") = some (.int ((written (xs.take i)).length : Nat) t1) ∧ m (Str.ofString "text") = some (.str (S (written xs)) t2) ∧ k = xs.length - i) F N ⟨0, [], 0, _, _, Nat.zero_le _, rfl, .nil, rfl, rfl, rfl, rfl⟩ ?_ .never
  rintro k m₁ nx h₂ tk₂ hq2 F₂ N₂ ⟨i, vs, cnt, t1, t2, hi, rfl, hI, e1, e2, e3, rfl⟩
  have F₂ := Frpins (ps := [(Str.ofString "row", _), (Str.ofString "place", _), (Str.ofString "text", _)]) F₂ (all3 e1 e2 e3)
  dsimp only [kstB] at F₂
  clear e1 e2 e3 F N
  have hlx : (written xs).length ≤ 1000 := by have := written_len hb; omega
  have hsx : (S (written xs)).length = (written xs).length := S_length _
  by_cases hil : i < xs.length
  · obtain ⟨n, hn⟩ : ∃ n, n = xs[i] := ⟨_, rfl⟩
    have hni : xs[i]? = some n := by simp [hil, hn]
    have hnb := hb n (List.mem_of_getElem? hni)
    have hsplit : written xs = written (xs.take i) ++ (word n ++ written (xs.drop (i + 1))) := by
      conv => lhs; rw [← List.take_append_drop i xs, List.drop_eq_getElem_cons hil, written_append, written_cons]
      rw [hn]
    have hlw : (written xs).length = (written (xs.take i)).length + (word n).length + (written (xs.drop (i + 1))).length := by
      rw [hsplit]; simp only [List.length_append]; omega
    have hwl := word_len' n
    have hp0 : (written xs)[(written (xs.take i)).length]? = some (leadC n) := by
      rw [hsplit, List.getElem?_append_right (Nat.le_refl _), Nat.sub_self]; exact word_first n _
    have hdrop : (written xs).drop (written (xs.take i)).length = word n ++ written (xs.drop (i + 1)) := by
      rw [hsplit]; exact List.drop_left
    walk_at "mine stmt"
    -- lead
    refine wpAny_execs_cons (wpAny_toksN 1 (by dsimp only; omega) ?_)
    walk_at "mine stmt"
    rename Fr _ _ _ _ => F₃
    rename News _ _ _ _ => N₃
    rw [item_nat hp0] at F₃
    rename 1 ≤ (_ : Nat) => hq3
    dsimp only at *
    -- size
    refine wpAny_execs_cons (wpAny_toksN 1 (by dsimp only; omega) ?_)
    walk_at "mine stmt"
    refine wpAny_toksN 1 (by dsimp only; omega) ?_
    walk_at "mine step"
    repeat' (first | ((fail_if_success (with_reducible show wpAny _ _ (PySem.spliced _) _ _ _)); walk_at "mine step"))
    rename 1 ≤ (_ : Nat) => hq4
    dsimp only at hq4
    rw [slice_from (by omega), hdrop]
    have hV := numN_lt hnb
    have hback := num_back n
    have hl6 : leadC n = (if 0 ≤ n then 66 else 65) := rfl
    have ho6 : (if 0 ≤ n then Str.ofString "A" else Str.ofString "B") = ⟨#[offC n]⟩ := by unfold offC; split; exact ofA; exact ofB
    have hsg : ∀ j c : Nat, (tailW n)[j]? = some c → 2 * val ((figs (numN n)).take (j + 1)) + (if ((⟨#[c]⟩ : Str) == S [leadC n]) = true then 1 else 0) = val ((figs (numN n)).take (j + 1 + 1)) := sign_step n
    by_cases hn0 : 0 ≤ n
    · rw [if_pos hn0] at hl6 ho6 hback
      rw [hl6] at hsg
      rename Fr _ _ _ _ => F₃
      rw [hl6] at F₃
      walk_at "mine stmt"
      rename Fr _ _ _ _ => F₄
      rename News _ _ _ _ => N₄
      refine indexOf_word ho6 (X.keeps F₄.keep) (T.keeps F₄.keep) (by dsimp only; omega) (by dsimp only; omega) (Nat.succ_ne_zero _) (Nat.le_refl _) ?_
      intro t5 h5 tk5 k5
      have F₅ := Frkept F₄ k5
      have N₅ := Newskept N₄ k5
      dsimp only at *
      walk_at "mine stmt"
      refine wpAny_execs_cons ?_
      walk_at "mine stmt"
      rename Fr _ _ _ _ => F₆
      rw [behind_is hni] at F₆
      refine wpAny_execs_cons ?_
      walk_at "mine stmt"
      rename Fr _ _ _ _ => F₇
      rename News _ _ _ _ => N₇
      rw [number_is n] at F₇
      dsimp only at *
      refine wpAny_execs_cons ?_
      refine For_invV g rfl rfl ?_ (fun _ => rfl) PassesOwn.never
      walk_at "mine step"
      walk_at "mine stmt"
      rename Fr _ _ _ _ => F₈
      rename News _ _ _ _ => N₈
      rw [tail_is hni hsplit]
      refine loop_str rfl F₈ N₈ (fun j m => ∃ t1 t2 t3 t4, m (Str.ofString "number") = some (.int (val ((figs (numN n)).take (j + 1))) t1) ∧ m (Str.ofString "lead") = some (.str (S [66]) t2) ∧ m (Str.ofString "row") = some (.ref r0) ∧ m (Str.ofString "behind") = some (.int ((written (xs.take (i + 1))).length : Nat) t3) ∧ m (Str.ofString "text") = some (.str (S (written xs)) t4)) ⟨_, _, _, _, rfl, rfl, rfl, rfl, rfl⟩ ?_ ?_
      · rintro j c u m₃ h₉ tk₉ own hc ⟨a1, a2, a3, a4, b1, b2, b3, b4, b5⟩ F₉ N₉
        have F₉ := Frpins1 (ps := [(Str.ofString "number", _), (Str.ofString "lead", _), (Str.ofString "row", _), (Str.ofString "behind", _), (Str.ofString "text", _)]) F₉ (all5 b1 b2 b3 b4 b5)
        dsimp only [kstB] at F₉
        clear b1 b2 b3 b4 b5
        have hcj : (tailW n)[j]? = some c := by simpa [S] using hc
        have hjl := (List.getElem?_eq_some_iff.mp hcj).1
        have hv := val_small (V := numN n) (j := j + 1) hV (by rw [tail_len] at hjl; omega)
        walk_at "mine steps"
        rename Fr _ _ _ _ => FA
        rename News _ _ _ _ => NA
        rw [hsg j c hcj] at FA
        exact InvEnd.intro FA NA (fun _ hp => hp) ⟨_, _, _, _, rfl, rfl, rfl, rfl, rfl⟩
      · rintro m₃ h₉ tk₉ ⟨a1, a2, a3, a4, b1, b2, b3, b4, b5⟩ F₉ N₉
        have F₉ := Frpins (ps := [(Str.ofString "number", _), (Str.ofString "lead", _), (Str.ofString "row", _), (Str.ofString "behind", _), (Str.ofString "text", _)]) F₉ (all5 b1 b2 b3 b4 b5)
        dsimp only [kstB] at F₉
        clear b1 b2 b3 b4 b5
        rw [val_whole] at F₉
        walk_at "mine steps"
        rename Fr _ _ _ _ => FB
        rename News _ _ _ _ => NB
        rw [hback, List.push_toArray] at NB
        dsimp only [WhileStep2]
        exact ⟨_, _, _, _, xs.length - (i + 1), rfl, FB, NB, by omega, i + 1, vs ++ [.int n _], _, _, _, hil, rfl, ints_snoc hI hni, rfl, rfl, rfl, rfl⟩
    · rw [if_neg hn0] at hl6 ho6 hback
      rw [hl6] at hsg
      rename Fr _ _ _ _ => F₃
      rw [hl6] at F₃
      walk_at "mine stmt"
      rename Fr _ _ _ _ => F₄
      rename News _ _ _ _ => N₄
      refine indexOf_word ho6 (X.keeps F₄.keep) (T.keeps F₄.keep) (by dsimp only; omega) (by dsimp only; omega) (Nat.succ_ne_zero _) (Nat.le_refl _) ?_
      intro t5 h5 tk5 k5
      have F₅ := Frkept F₄ k5
      have N₅ := Newskept N₄ k5
      dsimp only at *
      walk_at "mine stmt"
      refine wpAny_execs_cons ?_
      walk_at "mine stmt"
      rename Fr _ _ _ _ => F₆
      rw [behind_is hni] at F₆
      refine wpAny_execs_cons ?_
      walk_at "mine stmt"
      rename Fr _ _ _ _ => F₇
      rename News _ _ _ _ => N₇
      rw [number_is n] at F₇
      dsimp only at *
      refine wpAny_execs_cons ?_
      refine For_invV g rfl rfl ?_ (fun _ => rfl) PassesOwn.never
      walk_at "mine step"
      walk_at "mine stmt"
      rename Fr _ _ _ _ => F₈
      rename News _ _ _ _ => N₈
      rw [tail_is hni hsplit]
      refine loop_str rfl F₈ N₈ (fun j m => ∃ t1 t2 t3 t4, m (Str.ofString "number") = some (.int (val ((figs (numN n)).take (j + 1))) t1) ∧ m (Str.ofString "lead") = some (.str (S [65]) t2) ∧ m (Str.ofString "row") = some (.ref r0) ∧ m (Str.ofString "behind") = some (.int ((written (xs.take (i + 1))).length : Nat) t3) ∧ m (Str.ofString "text") = some (.str (S (written xs)) t4)) ⟨_, _, _, _, rfl, rfl, rfl, rfl, rfl⟩ ?_ ?_
      · rintro j c u m₃ h₉ tk₉ own hc ⟨a1, a2, a3, a4, b1, b2, b3, b4, b5⟩ F₉ N₉
        have F₉ := Frpins1 (ps := [(Str.ofString "number", _), (Str.ofString "lead", _), (Str.ofString "row", _), (Str.ofString "behind", _), (Str.ofString "text", _)]) F₉ (all5 b1 b2 b3 b4 b5)
        dsimp only [kstB] at F₉
        clear b1 b2 b3 b4 b5
        have hcj : (tailW n)[j]? = some c := by simpa [S] using hc
        have hjl := (List.getElem?_eq_some_iff.mp hcj).1
        have hv := val_small (V := numN n) (j := j + 1) hV (by rw [tail_len] at hjl; omega)
        walk_at "mine steps"
        rename Fr _ _ _ _ => FA
        rename News _ _ _ _ => NA
        rw [hsg j c hcj] at FA
        exact InvEnd.intro FA NA (fun _ hp => hp) ⟨_, _, _, _, rfl, rfl, rfl, rfl, rfl⟩
      · rintro m₃ h₉ tk₉ ⟨a1, a2, a3, a4, b1, b2, b3, b4, b5⟩ F₉ N₉
        have F₉ := Frpins (ps := [(Str.ofString "number", _), (Str.ofString "lead", _), (Str.ofString "row", _), (Str.ofString "behind", _), (Str.ofString "text", _)]) F₉ (all5 b1 b2 b3 b4 b5)
        dsimp only [kstB] at F₉
        clear b1 b2 b3 b4 b5
        rw [val_whole] at F₉
        walk_at "mine steps"
        rename Fr _ _ _ _ => FB
        rename News _ _ _ _ => NB
        rw [hback, List.push_toArray] at NB
        dsimp only [WhileStep2]
        exact ⟨_, _, _, _, xs.length - (i + 1), rfl, FB, NB, by omega, i + 1, vs ++ [.int n _], _, _, _, hil, rfl, ints_snoc hI hni, rfl, rfl, rfl, rfl⟩
  · have hie : i = xs.length := by omega
    subst hie
    rw [List.take_length] at F₂ hI
    walk_at "mine steps"
    exact ret _ _ _ _ F₂.keep hI ⟨_, N₂.get (.head _), rfl, _, rfl⟩

end Mine
end PC9

section PC10
open PySem PySem.W PyProof.Rows PySem.Calls
namespace Mine
theorem offC10 : True := by
  w_top off
  exact True.intro
theorem fill0 : PySem.Challenge.rw_pg0049_01 = PySem.Challenge.rw_pg0049_01 ∧ hd.heap_39 = hd.heap_39 := by
  k_fill
  exact ⟨rfl, rfl⟩
local macro_rules | `(tactic| walk_at "mine steps") => `(tactic| repeat' (first | ((fail_if_success (with_reducible show wpAny _ _ (PySem.pyIter _) _ _ _)); (fail_if_success (with_reducible show wpAny _ _ (PySem.exec (PySem.Stmt.While _ _ _ _) _) _ _ _)); (fail_if_success (with_reducible show wpAny _ _ (PySem.eval (PySem.Expr.ListComp _ _ _ _) _) _ _ _)); walk_at "mine step")))

theorem ord_at : ∀ (i : Nat) (xs ys : List Int), i < xs.length → i < ys.length → xs.take i = ys.take i → xs.getD i 0 ≠ ys.getD i 0 → ord xs ys = if xs.getD i 0 < ys.getD i 0 then -1 else 1
  | 0, x :: xs, y :: ys, _, _, _, hne => by
    simp only [List.getD_cons_zero] at hne ⊢
    unfold ord; rw [if_neg hne]
  | i + 1, x :: xs, y :: ys, h1, h2, ht, hne => by
    simp only [List.take_succ_cons, List.cons.injEq] at ht
    simp only [List.getD_cons_succ] at hne ⊢
    unfold ord; rw [if_pos ht.1]
    exact ord_at i xs ys (by simpa using h1) (by simpa using h2) ht.2 hne
theorem ord_end : ∀ (xs ys : List Int), xs.take (min xs.length ys.length) = ys.take (min xs.length ys.length) → ord xs ys = b2i (decide (ys.length < xs.length)) - b2i (decide (xs.length < ys.length))
  | [], [], _ => rfl
  | [], _ :: _, _ => by simp [ord, b2i]
  | _ :: _, [], _ => by simp [ord, b2i]
  | x :: xs, y :: ys, h => by
    have e : min (x :: xs).length (y :: ys).length = min xs.length ys.length + 1 := by simp only [List.length_cons]; omega
    rw [e, List.take_succ_cons, List.take_succ_cons, List.cons.injEq] at h
    unfold ord; rw [if_pos h.1, ord_end xs ys h.2]
    simp
theorem take_more {i : Nat} {xs ys : List Int} (h1 : i < xs.length) (h2 : i < ys.length) (ht : xs.take i = ys.take i) (he : xs.getD i 0 = ys.getD i 0) : xs.take (i + 1) = ys.take (i + 1) := by
  rw [List.take_add_one, List.take_add_one, ht, List.getElem?_eq_getElem h1, List.getElem?_eq_getElem h2]
  simp only [List.getD_eq_getElem?_getD, List.getElem?_eq_getElem h1, List.getElem?_eq_getElem h2, Option.getD_some] at he
  rw [he]
theorem order_c {w : World} {dp un : Nat} {fr : Option (List Env)} {gd : Option (List Code)} {s : Shared} {mg mb : Str → Option Value} {p : Program} {loose : List Str} {mean : ExcName → Option Value} {Q E : Value → Shared → Prop} {l r : Addr} {vs us : List Value} {xs ys : List Int}
    (X : (hd.heap_39 w.params).In s.heap) (T : Top p loose mean mg mb s.heap) (hdp : dp + 3 < recursionLimit) (hun : un + 200 < cLine) (hl : s.heap.IsList l vs.toArray) (hi : IntsAre vs xs) (hr : s.heap.IsList r us.toArray) (hj : IntsAre us ys) (hx : xs.length ≤ 1000) (hy : ys.length ≤ 1000)
    (ret : ∀ (t : Tok) h' tk, Keep s.heap h' → Q (.int (ord xs ys) t) { s with heap := h', toks := tk }) :
    wpAny (model prog0 w) (Ar dp un fr gd) (call (.ref 131) [.ref l, .ref r]) Q E s := by
  refine' enter (binds := [(Str.ofString "row", .ref l), (Str.ofString "other", .ref r)]) X T ?k6 ?k7 (show dp < recursionLimit by omega) ?k9 ?kB ?_ ?c2 ?c3 ?c4 ?c5
  walk_at "mine enter"
  intro L' h₁ tk F N
  generalize hg : s.heap = g at *
  walk_at "mine steps"
  refine loop_range (n := min xs.length ys.length) rfl (by assumption) ?_ ?_ (by assumption) (by assumption) (fun i m => xs.take i = ys.take i ∧ ∀ z, z ≠ Str.ofString "k" → m z = List.lookup z [(Str.ofString "row", Value.ref l), (Str.ofString "other", Value.ref r)].reverse) ?_ ?_ ?_
  · refine small_one ?_ ?_ ?_ ?_ <;> (try split) <;> omega
  · unfold Builtin.Range.rangeSize
    split <;> split <;> omega
  · exact ⟨by simp, fun _ _ => rfl⟩
  · rintro i t m₁ h tk own hin ⟨ht, hm⟩ F₁ N₁
    have e1 : (fun y => if y = Str.ofString "k" then some (Value.int (0 + (i : Int)) t) else m₁ y) = (fun y => if y = Str.ofString "k" then some (Value.int (i : Int) t) else List.lookup y [(Str.ofString "row", Value.ref l), (Str.ofString "other", Value.ref r)].reverse) := by
      funext y
      by_cases hy : y = Str.ofString "k"
      · simp [hy]
      · simp only [if_neg hy]; exact hm y hy
    rw [e1] at F₁
    have hi1 : i < xs.length := by omega
    have hi2 : i < ys.length := by omega
    walk_at "mine steps"
    all_goals (try dsimp only)
    all_goals (simp only [Int.toNat_natCast] at *)
    · have e := ord_at i xs ys hi1 hi2 ht (by assumption)
      rw [if_pos (by assumption)] at e
      exact e ▸ ret _ _ _ F₁.keep
    · have e := ord_at i xs ys hi1 hi2 ht (by assumption)
      rw [if_neg (by assumption)] at e
      exact e ▸ ret _ _ _ F₁.keep
    · exact InvEnd.intro F₁ N₁ (fun _ hp => hp) ⟨take_more hi1 hi2 ht (by rename_i h9; exact h9), fun z hz => by simp only [if_neg hz]⟩
  · rintro m₁ h tk ⟨ht, hm⟩ F₁ N₁
    have e1 : m₁ = (fun y => if y = Str.ofString "k" then m₁ y else List.lookup y [(Str.ofString "row", Value.ref l), (Str.ofString "other", Value.ref r)].reverse) := by
      funext y
      by_cases hy : y = Str.ofString "k"
      · simp [hy]
      · simp only [if_neg hy]; exact hm y hy
    rw [e1] at F₁
    walk_at "mine steps"
    all_goals (try dsimp only)
    have e := ord_end xs ys ht
    simp only [← Int.ofNat_lt] at e
    exact e ▸ ret _ _ _ F₁.keep

end Mine
end PC10

section PL0
open PySem PySem.W PyProof.Rows PySem.Calls
namespace Mine
theorem offL0 : True := by
  w_top off
  exact True.intro
section
variable {prog : Program} {w : World} {A : Around} {E : Value → Shared → Prop} {s : Shared} {env : Env}
/-- [f(x) for x in xs], f a def of the text, by f's contract -/
theorem comp_call {fname x : Str} {p1 p2 p3 px : Pos} {iter : PySem.Expr} {scope : Scope} {pos : Pos} {Q : Value → Shared → Prop} {K : Frag} {fa : Addr} (mg : Str → Option Value) (F : Value → Value → Prop)
    (hh : A.handled = none) (hfree : ∀ y ∈ scope.names, y.2 ≠ .free) (hcell : ∀ y ∈ scope.names, y.2 ≠ .cell) (hkind : scope.kind = .function)
    (hnames : ∀ y ∈ scope.names, y.2 = .local → scope.names.lookup y.1 = some .local) (hx : scope.names.lookup x = some .local) (hf : scope.names.lookup fname = some .globalImplicit)
    (hdx : (x == ("__debug__" : Str)) = false) (hdf : (fname == ("__debug__" : Str)) = false) (hglob : env.globals = mainGlobals) (hkp : keepIn K (.ref fa) = true)
    (h : wpAny (model prog w) A (eval iter env) (fun xv s₁ => ∃ ax items, xv = .ref ax ∧ s₁.heap.IsList ax items ∧ items.size ≤ sizeLine ∧ K.In s₁.heap ∧ s₁.heap.Ns mainGlobals mg ∧ mg fname = some (.ref fa) ∧
      (∀ v s₂ E', v ∈ items → (∀ b o, s₁.heap.get? b = some o → s₂.heap.get? b = some o) → wpAny (model prog w) A (call (.ref fa) [v]) (fun y s₃ => F v y ∧ Keeps s₂ s₃) E' s₂) ∧
      (∀ D h' tk ys, s₁.heap.get? D = none → h'.IsList D ys → Paired F items.toList ys.toList → (∀ b o, s₁.heap.get? b = some o → h'.get? b = some o) → Q (.ref D) { s₁ with heap := h', toks := tk })) E s)
    (hs : ∀ x, foldedSetIterable iter env x = pure x := by intro _; rfl) :
    wpAny (model prog w) A (eval (.ListComp (.Call (.Name fname p1) [.Name x p2] [] p3) [⟨.Name x px, iter, [], 0⟩] scope pos) env) Q E s := by
  refine wpAny_ListComp_map (fun _ => true) F hh hfree hcell hkind hnames hx (wpAny_mono h (fun xv s₁ h₁ => ?_) fun _ _ e => e) hs
  obtain ⟨ax, items, rfl, hl, hsz, hX, hg, hm, hcall, hQ⟩ := h₁
  refine ⟨ax, items, rfl, hl, hsz, ?_, ?_, ?_⟩
  · intro C v s₂ m₂ E' _ _ _ _
    exact wpAny_tests_nil ⟨rfl, s₂.heap, s₂.toks, rfl, fun _ _ e => e⟩
  · intro C v s₂ m₂ E' hv _ hn hmx hk
    refine Call_ ?_ rfl
    refine Name_function_global hkind hf (loadGlobal_global (mg := mg) ?_ hm ?_) hdf
    · show s₂.heap.Ns env.globals mg
      rw [hglob]; exact hg.keeps hk
    refine callWith_K (first := []) (hX.keeps hk) hkp ?_ rfl rfl
    refine spliced_more (wpAny_Name (wpAny_loadName_local hkind hx hn hmx ?_) hdx) rfl
    exact spliced_none ⟨hX.keeps hk, hcall v s₂ E' hv hk⟩
  · intro D h' tk ys hD hl' hp hk
    refine hQ D h' tk ys hD hl' ?_ hk
    rw [List.filter_eq_self.mpr fun _ _ => rfl] at hp
    exact hp
end
theorem keeps_of {s : Shared} {h' : Heap} {tk : Nat} (k : Keep s.heap h') : Keeps s { s with heap := h', toks := tk } := ⟨h', tk, rfl, k⟩
theorem paired_get {α β : Type} {F : α → β → Prop} : ∀ {l₁ : List α} {l₂ : List β}, Paired F l₁ l₂ → ∀ {i : Nat} {a : α}, l₁[i]? = some a → ∃ b, l₂[i]? = some b ∧ F a b
  | _, _, .cons h _, 0, a, e => by cases e; exact ⟨_, rfl, h⟩
  | _, _, .cons _ r, i + 1, a, e => by simpa using paired_get r (by simpa using e)
end Mine
end PL0

section PL1
open PySem PySem.W PyProof.Rows PySem.Calls
namespace Mine
theorem offL1 : True := by
  w_top off
  exact True.intro
/-- the ledger bears a list of rows of ints -/
structure RowsIn (news : List (Addr × Obj)) (R : Addr) (zs : List (List Int)) (as : List Addr) : Prop where
  len : as.length = zs.length
  rows : (R, W.listOf (as.map Value.ref).toArray 0) ∈ news
  row : ∀ (i : Nat) (a : Addr), as[i]? = some a → ∃ (us : List Value) (z : List Int), (a, W.listOf us.toArray 0) ∈ news ∧ IntsAre us z ∧ zs[i]? = some z
theorem rows_sum {l' l1 l2 l3 d0 d1 d2 d3 : Addr} {w0 w1 w2 w3 : List Value} {t1 t2 t3 t4 : Tok} {rest : List (Addr × Obj)} {z0 z1 z2 z3 : List Int}
    (h0 : IntsAre w0 z0) (h1 : IntsAre w1 z1) (h2 : IntsAre w2 z2) (h3 : IntsAre w3 z3) :
    RowsIn ((l', W.listOf #[.ref d3, .ref d2, .ref d1, .ref d0, .ref l3, .ref l2, .ref l1] 0) :: (l1, W.listOf #[.int 1 t1] 0) :: (l2, W.listOf #[.int (-5) t2, .int 4 t3] 0) :: (l3, W.listOf #[.int 0 t4] 0) ::
      (d0, W.listOf w0.toArray 0) :: (d1, W.listOf w1.toArray 0) :: (d2, W.listOf w2.toArray 0) :: (d3, W.listOf w3.toArray 0) :: rest) l' [z3, z2, z1, z0, [0], [-5, 4], [1]] [d3, d2, d1, d0, l3, l2, l1] := by
  refine ⟨rfl, .head _, fun i a e => ?_⟩
  match i with
  | 0 => cases e; exact ⟨w3, z3, by simp, h3, rfl⟩
  | 1 => cases e; exact ⟨w2, z2, by simp, h2, rfl⟩
  | 2 => cases e; exact ⟨w1, z1, by simp, h1, rfl⟩
  | 3 => cases e; exact ⟨w0, z0, by simp, h0, rfl⟩
  | 4 => cases e; exact ⟨[.int 0 t4], [0], by simp, .cons _ _ .nil, rfl⟩
  | 5 => cases e; exact ⟨[.int (-5) t2, .int 4 t3], [-5, 4], by simp, .cons _ _ (.cons _ _ .nil), rfl⟩
  | 6 => cases e; exact ⟨[.int 1 t1], [1], by simp, .cons _ _ .nil, rfl⟩
  | k + 7 => simp at e
/-- a row that the law may hold -/
def RowOk (z : List Int) : Prop := z.length ≤ 3 ∧ ∀ x ∈ z, -4096 < x ∧ x < 4096
def cut (k : Int) : Int := if 0 ≤ k then k.fmod (2 ^ 12) else -(-k).fmod (2 ^ 12)
theorem cut_ok (k : Int) : -4096 < cut k ∧ cut k < 4096 := by
  unfold cut
  have e : (2 : Int) ^ 12 = 4096 := by decide
  rw [e]
  split
  · rw [Int.fmod_eq_emod_of_nonneg _ (by omega)]; omega
  · rw [Int.fmod_eq_emod_of_nonneg _ (by omega)]; omega
theorem rows_ok (V : List Int) (hl : V.length ≤ 9) (hV : ∀ x ∈ V, -4096 < x ∧ x < 4096) (n : Nat) (hn : n ≤ 3) : ∀ z ∈ [V.take 2, V.take 3, (V.drop 3).take n, V.drop 6, [0], [-5, 4], [1]], RowOk z := by
  intro z hz
  simp only [List.mem_cons, List.not_mem_nil, or_false] at hz
  rcases hz with rfl | rfl | rfl | rfl | rfl | rfl | rfl
  · exact ⟨by simp only [List.length_take]; omega, fun x hx => hV x (List.mem_of_mem_take hx)⟩
  · exact ⟨by simp only [List.length_take]; omega, fun x hx => hV x (List.mem_of_mem_take hx)⟩
  · exact ⟨by simp only [List.length_take]; omega, fun x hx => hV x (List.mem_of_mem_drop (List.mem_of_mem_take hx))⟩
  · exact ⟨by simp only [List.length_drop]; omega, fun x hx => hV x (List.mem_of_mem_drop hx)⟩
  · exact ⟨by decide, by decide⟩
  · exact ⟨by decide, by decide⟩
  · exact ⟨by decide, by decide⟩
end Mine
end PL1

section PL2
open PySem PySem.W PyProof.Rows PySem.Calls
namespace Mine
theorem offL2 : True := by
  w_top off
  exact True.intro
theorem ints_fun : ∀ {us : List Value} {z z' : List Int}, IntsAre us z → IntsAre us z' → z = z'
  | _, _, _, .nil, .nil => rfl
  | _, _, _, .cons k t r, .cons _ _ r' => by rw [ints_fun r r']
/-- the element's relation in [_law_written(row) for row in rows] -/
def WRel (h : Heap) (v y : Value) : Prop := ∃ a us z t, v = .ref a ∧ h.get? a = some (W.listOf us.toArray 0) ∧ IntsAre us z ∧ y = .str (S (written z)) t
/-- the texts of the rows -/
def TextsAre (zs : List (List Int)) (ys : List Value) : Prop := ys.length = zs.length ∧ ∀ (i : Nat) (z : List Int), zs[i]? = some z → ∃ t, ys[i]? = some (.str (S (written z)) t)
theorem paired_len {α β : Type} {F : α → β → Prop} : ∀ {l₁ : List α} {l₂ : List β}, Paired F l₁ l₂ → l₁.length = l₂.length
  | _, _, .nil => rfl
  | _, _, .cons _ r => by simp [paired_len r]
theorem texts_of {g h : Heap} {L R : Addr} {news : List (Addr × Obj)} {zs : List (List Int)} {as : List Addr} {ys : List Value} (N : News g L h news) (RI : RowsIn news R zs as) (P : Paired (WRel h) (as.map Value.ref) ys) : TextsAre zs ys := by
  refine ⟨by rw [← paired_len P, List.length_map, RI.len], fun i z hz => ?_⟩
  have hi : i < as.length := by rw [RI.len]; exact (List.getElem?_eq_some_iff.mp hz).1
  have ha : as[i]? = some as[i] := by simp [hi]
  obtain ⟨us, z', hm, hI, hz'⟩ := RI.row i _ ha
  rw [hz] at hz'
  cases hz'
  obtain ⟨y, hy, a, us', z', t, e1, e2, hI', rfl⟩ := paired_get P (i := i) (a := Value.ref as[i]) (by simp [hi])
  cases e1
  have e3 := N.get hm
  rw [e2] at e3
  have e4 : us' = us := by
    have := Option.some.inj e3
    simpa [W.listOf] using this
  subst e4
  exact ⟨t, by rw [hy, ints_fun hI hI']⟩
section
variable {w : World} {dp un : Nat} {fr : Option (List Env)} {gd : Option (List Code)} {s s₂ : Shared} {mg mb : Str → Option Value} {p : Program} {loose : List Str} {mean : ExcName → Option Value} {E : Value → Shared → Prop}
/-- each row's element -/
theorem row_elt {g : Heap} {L R : Addr} {news : List (Addr × Obj)} {zs : List (List Int)} {as : List Addr} {v : Value} (X : (hd.heap_39 w.params).In s.heap) (T : Top p loose mean mg mb s.heap) (hdp : dp + 3 < recursionLimit) (hun : un + 200 < cLine)
    (N : News g L s.heap news) (RI : RowsIn news R zs as) (ok : ∀ z ∈ zs, RowOk z) (hv : v ∈ as.map Value.ref) (hk : ∀ b o, s.heap.get? b = some o → s₂.heap.get? b = some o) :
    wpAny (model prog0 w) (Ar dp un fr gd) (call (.ref 117) [v]) (fun y s₃ => WRel s.heap v y ∧ Keeps s₂ s₃) E s₂ := by
  obtain ⟨a, ha, rfl⟩ := List.mem_map.mp hv
  obtain ⟨i, hi, e⟩ := List.mem_iff_getElem.mp ha
  obtain ⟨us, z, hm, hI, hz⟩ := RI.row i a (by simp [hi, e])
  have hok := ok z (List.mem_of_getElem? hz)
  refine written_c (X.keeps hk) (T.keeps hk) hdp hun (vs := us) ⟨_, hk _ _ (N.get hm), rfl, 0, rfl⟩ hI (by have := hok.1; omega) (fun x hx => by have := hok.2 x hx; omega) fun t h' tk k => ?_
  exact ⟨⟨a, us, z, t, rfl, N.get hm, hI, rfl⟩, h', tk, rfl, k⟩
end
end Mine
end PL2

section PL3
open PySem PySem.W PyProof.Rows PySem.Calls
namespace Mine
theorem offL3 : True := by
  w_top off
  exact True.intro
theorem rows_all {g h : Heap} {L l' l1 l2 l3 d0 d1 d2 d3 : Addr} {w0 w1 w2 w3 : List Value} {t1 t2 t3 t4 : Tok} {rest : List (Addr × Obj)} {xs : List Int}
    (N : News g L h ((l', W.listOf #[.ref d3, .ref d2, .ref d1, .ref d0, .ref l3, .ref l2, .ref l1] 0) :: (l1, W.listOf #[.int 1 t1] 0) :: (l2, W.listOf #[.int (-5) t2, .int 4 t3] 0) :: (l3, W.listOf #[.int 0 t4] 0) ::
      (d0, W.listOf w0.toArray 0) :: (d1, W.listOf w1.toArray 0) :: (d2, W.listOf w2.toArray 0) :: (d3, W.listOf w3.toArray 0) :: rest))
    (h0 : IntsAre w0 (List.drop 6 (List.map (fun k' => if 0 ≤ k' then k'.fmod (2 ^ 12) else -(-k').fmod (2 ^ 12)) (List.take 9 xs))))
    (h1 : IntsAre w1 (List.take (min 6 (List.map (fun k' => if 0 ≤ k' then k'.fmod (2 ^ 12) else -(-k').fmod (2 ^ 12)) (List.take 9 xs)).length - 3) (List.drop 3 (List.map (fun k' => if 0 ≤ k' then k'.fmod (2 ^ 12) else -(-k').fmod (2 ^ 12)) (List.take 9 xs)))))
    (h2 : IntsAre w2 (List.take 3 (List.map (fun k' => if 0 ≤ k' then k'.fmod (2 ^ 12) else -(-k').fmod (2 ^ 12)) (List.take 9 xs))))
    (h3 : IntsAre w3 (List.take 2 (List.map (fun k' => if 0 ≤ k' then k'.fmod (2 ^ 12) else -(-k').fmod (2 ^ 12)) (List.take 9 xs)))) :
    ∃ zs as, as = [d3, d2, d1, d0, l3, l2, l1] ∧ zs.length = 7 ∧ (∀ z ∈ zs, RowOk z) ∧ ∀ rest' : List (Addr × Obj), RowsIn ((l', W.listOf #[.ref d3, .ref d2, .ref d1, .ref d0, .ref l3, .ref l2, .ref l1] 0) :: (l1, W.listOf #[.int 1 t1] 0) :: (l2, W.listOf #[.int (-5) t2, .int 4 t3] 0) :: (l3, W.listOf #[.int 0 t4] 0) ::
      (d0, W.listOf w0.toArray 0) :: (d1, W.listOf w1.toArray 0) :: (d2, W.listOf w2.toArray 0) :: (d3, W.listOf w3.toArray 0) :: rest') l' zs as := by
  refine ⟨_, _, rfl, ?_, ?_, fun _ => rows_sum h0 h1 h2 h3⟩
  · rfl
  · refine rows_ok _ (by rw [List.length_map, List.length_take]; omega) (fun x hx => ?_) _ (by omega)
    obtain ⟨k, _, rfl⟩ := List.mem_map.mp hx
    exact cut_ok k
end Mine
end PL3

section PL4
open PySem PySem.W PyProof.Rows PySem.Calls
namespace Mine
theorem offL4 : True := by
  w_top off
  exact True.intro
section
variable {w : World} {dp un : Nat} {fr : Option (List Env)} {gd : Option (List Code)} {s : Shared} {g h g' : Heap} {mg mb : Str → Option Value} {p : Program} {loose : List Str} {mean : ExcName → Option Value} {E : Value → Shared → Prop} {env : Env}
theorem texts_step {x : Str} {p1 p2 p3 px : Pos} {iter : PySem.Expr} {scope : Scope} {pos : Pos} {Q : Value → Shared → Prop} {L R : Addr} {news : List (Addr × Obj)} {zs : List (List Int)} {as : List Addr}
    (X : (hd.heap_39 w.params).In g) (T : Top p loose mean mg mb g) (hk : ∀ b o, g.get? b = some o → h.get? b = some o)
    (N : News g' L h news) (RI : RowsIn news R zs as) (hz7 : zs.length = 7) (ok : ∀ z ∈ zs, RowOk z) (hdp : dp + 3 < recursionLimit) (hun : un + 200 < cLine)
    (hfree : ∀ y ∈ scope.names, y.2 ≠ .free) (hcell : ∀ y ∈ scope.names, y.2 ≠ .cell) (hkind : scope.kind = .function)
    (hnames : ∀ y ∈ scope.names, y.2 = .local → scope.names.lookup y.1 = some .local) (hx : scope.names.lookup x = some .local) (hf : scope.names.lookup ("_law_written" : Str) = some .globalImplicit)
    (hdx : (x == ("__debug__" : Str)) = false) (hglob : env.globals = mainGlobals) (hkp : keepIn (hd.heap_39 w.params) (.ref 117) = true)
    (e : nsIn (hd.heap_39 w.params) mainGlobals "_law_written" = some (some (.ref 117)))
    (hi : wpAny (model prog0 w) (Ar dp un fr gd) (eval iter env) (fun xv s₁ => xv = .ref R ∧ s₁.heap = h ∧
      (∀ D h' tk ys, h.get? D = none → h'.IsList D ys → TextsAre zs ys.toList → Keep h h' → Q (.ref D) { s₁ with heap := h', toks := tk })) E s)
    (hs : ∀ x, foldedSetIterable iter env x = pure x := by intro _; rfl) :
    wpAny (model prog0 w) (Ar dp un fr gd) (eval (.ListComp (.Call (.Name "_law_written" p1) [.Name x p2] [] p3) [⟨.Name x px, iter, [], 0⟩] scope pos) env) Q E s := by
  refine comp_call (K := hd.heap_39 w.params) (fa := 117) mg (WRel h) rfl hfree hcell hkind hnames hx hf hdx (by decide) hglob hkp ?_ hs
  refine wpAny_mono hi (fun xv s₁ h₁ => ?_) fun _ _ e => e
  obtain ⟨rfl, rfl, hQ⟩ := h₁
  refine ⟨R, _, rfl, ⟨_, N.get RI.rows, rfl, 0, rfl⟩, ?_, X.keeps hk, T.g.keeps hk, mg_of X T.g e, ?_, ?_⟩
  · have : as.length = 7 := by rw [RI.len, hz7]
    simp [this]; decide
  · intro v s₂ E' hv hk2
    refine row_elt (X.keeps hk) (T.keeps hk) hdp hun N RI ok ?_ hk2
    simpa using hv
  · intro D h' tk ys hD hl hP hk'
    exact hQ D h' tk ys hD hl (texts_of N RI (by simpa using hP)) hk'
end
end Mine
end PL4

section PL5
open PySem PySem.W PyProof.Rows PySem.Calls
namespace Mine
theorem offL5 : True := by
  w_top off
  exact True.intro
section
variable {g h h' : Heap} {L D : Addr} {news : List (Addr × Obj)} {o : Obj} {m : Str → Option Value}
theorem news_add (N : News g L h news) (KP : Keep h h') (DN : h.get? D = none) (gD : h'.get? D = some o) (F : Fr g L h m) : News g L h' ((D, o) :: news) := by
  intro p hp
  rcases List.mem_cons.mp hp with rfl | hp
  · refine ⟨gD, fun e => ?_, ?_⟩
    · obtain ⟨oL, _, _, hL, _⟩ := F.ns
      simp only at e
      rw [← e, DN] at hL; cases hL
    · cases hq : g.get? D with
      | none => rfl
      | some o' => rw [F.keep _ _ hq] at DN; cases DN
  · exact Newskept N KP p hp
theorem news_ne (N : News g L h news) (DN : h.get? D = none) : ∀ p ∈ news, @Ne Nat D p.1 := fun p hp e => by
  have := (N p hp).1
  rw [← e, DN] at this; cases this
end
end Mine
end PL5

section PP1
open PySem PySem.W PyProof.Rows
namespace Mine
theorem offP1 : True := by
  w_top off
  exact True.intro
/-- the order of the places: by key, like ones as they stand -/
def Rk (key : Nat → List Nat) (i j : Nat) : Prop := key i < key j ∨ (key i = key j ∧ i < j)
theorem Rk.trans {key : Nat → List Nat} {a b c : Nat} (h1 : Rk key a b) (h2 : Rk key b c) : Rk key a c := by
  rcases h1 with h1 | ⟨e1, l1⟩
  · rcases h2 with h2 | ⟨e2, _⟩
    · exact .inl (List.lt_trans h1 h2)
    · exact .inl (e2 ▸ h1)
  · rcases h2 with h2 | ⟨e2, l2⟩
    · exact .inl (e1 ▸ h2)
    · exact .inr ⟨e1.trans e2, Nat.lt_trans l1 l2⟩
theorem rev_get {p : Array Nat} {i j : Nat} (hj : j ≤ p.size) (k : Nat) : (kas_rev p i j).getD k 0 = if i ≤ k ∧ k < j then p.getD (i + j - 1 - k) 0 else p.getD k 0 := by
  unfold kas_rev
  rw [Array.getD_eq_getD_getElem?, getElem?_mirror_all hj]
  split <;> rw [Array.getD_eq_getD_getElem?]
theorem bub_get {p : Array Nat} {k d : Nat} (hs : k < p.size) (hd : d ≤ k) (i : Nat) : (bubble p k d).getD i 0 = if i = k - d then p.getD k 0 else if k - d < i ∧ i ≤ k then p.getD (i - 1) 0 else p.getD i 0 := by
  rw [Array.getD_eq_getD_getElem?, getElem?_bubble hs d hd]
  rw [Array.getD_eq_getD_getElem? (xs := p) (i := k), Array.getD_eq_getD_getElem? (xs := p) (i := i - 1), Array.getD_eq_getD_getElem? (xs := p) (i := i)]
  repeat' split
  all_goals rfl
/-- the first k places stand in order, the others as they stood -/
structure Upto (key : Nat → List Nat) (N : Nat) (p : Array Nat) (k : Nat) : Prop where
  sz : p.size = N
  kN : k ≤ N
  low : ∀ i, i < k → p.getD i 0 < k
  rest : ∀ i, k ≤ i → i < N → p.getD i 0 = i
  ord : ∀ i j, i < j → j < k → Rk key (p.getD i 0) (p.getD j 0)
theorem le_of_not {a b : List Nat} (h : ¬ a < b) : b < a ∨ b = a := by
  by_cases h2 : b < a
  · exact .inl h2
  · exact .inr (List.le_antisymm (List.not_lt.mp h) (List.not_lt.mp h2))
theorem Upto.more {key : Nat → List Nat} {N : Nat} {p : Array Nat} {k : Nat} (U : Upto key N p k) (h1 : 1 ≤ k) (hk : k < N) (h : ¬ key (p.getD k 0) < key (p.getD (k - 1) 0)) : Upto key N p (k + 1) := by
  have ek := U.rest k (Nat.le_refl _) hk
  have last : Rk key (p.getD (k - 1) 0) (p.getD k 0) := by
    rcases le_of_not h with h | h
    · exact .inl h
    · exact .inr ⟨h, by have := U.low (k - 1) (by omega); omega⟩
  refine ⟨U.sz, hk, fun i hi => ?_, fun i hi hN => U.rest i (by omega) hN, fun i j hij hj => ?_⟩
  · by_cases e : i = k
    · subst e; omega
    · have := U.low i (by omega); omega
  · by_cases e : j = k
    · subst e
      by_cases e2 : i = j - 1
      · subst e2; exact last
      · exact (U.ord i (j - 1) (by omega) (by omega)).trans last
    · exact U.ord i j hij (by omega)
section
variable {key : Nat → List Nat} {N : Nat} {cmp : Nat → Nat → (Bool → Shared → Prop) → Shared → Prop}
/-- the asker answers by the keys -/
def Asks (key : Nat → List Nat) (N : Nat) (cmp : Nat → Nat → (Bool → Shared → Prop) → Shared → Prop) : Prop := ∀ i j C s, i < N → j < N → C (decide (key i < key j)) s → cmp i j C s
theorem ask_ (A : Asks key N cmp) {α : Type} {i j : Nat} {k : Bool → KasT α} {Q : α → Shared → Prop} {s : Shared} (hi : i < N) (hj : j < N) (h1 : key i < key j → (k true).kasWp cmp Q s) (h0 : ¬ key i < key j → (k false).kasWp cmp Q s) :
    (KasT.ask i j k).kasWp cmp Q s := by
  refine A i j _ s hi hj ?_
  by_cases h : key i < key j
  · rw [decide_eq_true h]; exact h1 h
  · rw [decide_eq_false h]; exact h0 h
theorem low_lt {p : Array Nat} {k : Nat} (U : Upto key N p k) {i : Nat} (hi : i < N) : p.getD i 0 < N := by
  by_cases h : i < k
  · have := U.low i h; have := U.kN; omega
  · rw [U.rest i (by omega) hi]; exact hi
theorem asc_ (A : Asks key N cmp) {p : Array Nat} {Q : Nat → Shared → Prop} {s : Shared} : ∀ (f a : Nat), 1 ≤ a → a + f = N → Upto key N p a →
    (∀ m, a ≤ m → m ≤ N → Upto key N p m → (m < N → key (p.getD m 0) < key (p.getD (m - 1) 0)) → Q m s) → (kas_asc p f a).kasWp cmp Q s
  | 0, a, _, hf, U, h => h a (Nat.le_refl _) (by omega) U fun h2 => absurd h2 (by omega)
  | f + 1, a, h1, hf, U, h => by
    unfold kas_asc
    refine ask_ A (low_lt U (by omega)) (low_lt U (by omega)) (fun hlt => ?_) fun hlt => ?_
    · rw [if_pos rfl]
      exact h a (Nat.le_refl _) (by omega) U fun _ => hlt
    · rw [if_neg (by simp)]
      exact asc_ A f (a + 1) (by omega) (by omega) (U.more h1 (by omega) hlt) fun m hm => h m (by omega)
/-- the falling run: below b in the turned order, from b to n a streak of like ones that stands untouched -/
structure Falls (key : Nat → List Nat) (N : Nat) (p : Array Nat) (n b : Nat) : Prop where
  sz : p.size = N
  nN : n ≤ N
  bn : b < n
  rest : ∀ i, b ≤ i → i < N → p.getD i 0 = i
  low : ∀ i, i < b → p.getD i 0 < b
  ord : ∀ i j, i < j → j < b → Rk key (p.getD j 0) (p.getD i 0)
  above : ∀ i j, i < b → b ≤ j → j < n → key j < key (p.getD i 0)
  same : ∀ j, b ≤ j → j < n → key j = key (n - 1)
/-- the run's streak turned -/
structure Fallen (key : Nat → List Nat) (N : Nat) (p : Array Nat) (n : Nat) : Prop where
  sz : p.size = N
  nN : n ≤ N
  rest : ∀ i, n ≤ i → i < N → p.getD i 0 = i
  low : ∀ i, i < n → p.getD i 0 < n
  ord : ∀ i j, i < j → j < n → Rk key (p.getD j 0) (p.getD i 0)
theorem Falls.turn {p p' : Array Nat} {n b : Nat} (D : Falls key N p n b) (hz : p'.size = N) (he : ∀ k, p'.getD k 0 = if b ≤ k ∧ k < n then p.getD (b + n - 1 - k) 0 else p.getD k 0) : Fallen key N p' n ∧ ∀ i, i < n → key (n - 1) = key (p'.getD i 0) ∨ key (n - 1) < key (p'.getD i 0) := by
  have bn := D.bn
  have nN := D.nN
  have inn : ∀ k, b ≤ k → k < n → p'.getD k 0 = b + n - 1 - k := fun k h1 h2 => by
    rw [he, if_pos ⟨h1, h2⟩]; exact D.rest _ (by omega) (by omega)
  have out : ∀ k, k < b → p'.getD k 0 = p.getD k 0 := fun k h => by rw [he, if_neg (by omega)]
  refine ⟨⟨hz, D.nN, fun i hi hN => ?_, fun i hi => ?_, fun i j hij hj => ?_⟩, fun i hi => ?_⟩
  · rw [he, if_neg (by omega)]; exact D.rest i (by omega) hN
  · by_cases h : i < b
    · rw [out i h]; have := D.low i h; omega
    · rw [inn i (by omega) hi]; omega
  · by_cases h : j < b
    · rw [out j h, out i (by omega)]; exact D.ord i j hij h
    · rw [inn j (by omega) hj]
      by_cases h2 : i < b
      · rw [out i h2]; exact .inl (D.above i _ h2 (by omega) (by omega))
      · rw [inn i (by omega) (by omega)]
        exact .inr ⟨(D.same _ (by omega) (by omega)).trans (D.same _ (by omega) (by omega)).symm, by omega⟩
  · by_cases h : i < b
    · rw [out i h]; exact .inr (D.above i (n - 1) h (by omega) (by omega))
    · rw [inn i (by omega) hi]; exact .inl (D.same _ (by omega) (by omega)).symm
theorem Falls.next {p' : Array Nat} {n : Nat} (D : Fallen key N p' n) (hn : n < N) (hs : ∀ i, i < n → key (n - 1) = key (p'.getD i 0) ∨ key (n - 1) < key (p'.getD i 0)) (hlt : key n < key (n - 1)) : Falls key N p' (n + 1) n := by
  refine ⟨D.sz, hn, by omega, D.rest, D.low, D.ord, fun i j hi h1 h2 => ?_, fun j h1 h2 => by rw [show j = n by omega]; rfl⟩
  have : j = n := by omega
  subst this
  rcases hs i hi with e | l
  · exact e ▸ hlt
  · exact List.lt_trans hlt l
theorem desc_ (A : Asks key N cmp) {Q : Array Nat × Nat × Nat → Shared → Prop} {s : Shared} : ∀ (f : Nat) (p : Array Nat) (n q : Nat), n + f = N → q + 1 ≤ n → Falls key N p n (n - (q + 1)) →
    (∀ p' n' q', n' ≤ N → q' + 1 ≤ n' → Falls key N p' n' (n' - (q' + 1)) → Q (p', n', q') s) → (kas_desc f p n q).kasWp cmp Q s
  | 0, p, n, q, hf, hq, D, h => h p n q (by omega) hq D
  | f + 1, p, n, q, hf, hq, D, h => by
    have e1 : p.getD n 0 = n := D.rest n (by omega) (by omega)
    have e2 : p.getD (n - 1) 0 = n - 1 := D.rest (n - 1) (by omega) (by omega)
    have hsz := D.sz
    unfold kas_desc
    rw [e1, e2]
    refine ask_ A (by omega) (by omega) (fun hlt => ?_) fun hlt => ?_
    · rw [if_pos rfl]
      by_cases h0 : q > 0
      · rw [if_pos h0]
        obtain ⟨T, hs⟩ := D.turn (p' := kas_rev p (n - (q + 1)) n) (by rw [kas_rev_size]; exact hsz) (rev_get (by omega))
        exact desc_ A f _ (n + 1) 0 (by omega) (by omega) (Falls.next T (by omega) hs hlt) h
      · rw [if_neg h0]
        have : q = 0 := by omega
        subst this
        obtain ⟨T, hs⟩ := D.turn (p' := p) hsz (fun k => by
          split
          · congr 1; omega
          · rfl)
        exact desc_ A f p (n + 1) 0 (by omega) (by omega) (Falls.next T (by omega) hs hlt) h
    · rw [if_neg (by simp)]
      refine ask_ A (by omega) (by omega) (fun hgt => ?_) fun hgt => ?_
      · rw [if_pos rfl]; exact h p n q (by omega) hq D
      · rw [if_neg (by simp)]
        have ek : key n = key (n - 1) := List.le_antisymm (List.not_lt.mp hgt) (List.not_lt.mp hlt)
        refine desc_ A f p (n + 1) (q + 1) (by omega) (by omega) ?_ h
        have eb : n + 1 - (q + 1 + 1) = n - (q + 1) := by omega
        rw [eb]
        refine ⟨hsz, by omega, by omega, D.rest, D.low, D.ord, fun i j hi h1 h2 => ?_, fun j h1 h2 => ?_⟩
        · by_cases e : j = n
          · subst e; rw [ek]; exact D.above i _ hi (by omega) (by omega)
          · exact D.above i j hi h1 (by omega)
        · by_cases e : j = n
          · subst e; rfl
          · rw [D.same j h1 (by omega)]; exact ek.symm
theorem tail_ (A : Asks key N cmp) {p : Array Nat} {n : Nat} {Q : Nat × Array Nat → Shared → Prop} {s : Shared} (h1 : 1 ≤ n) (D : Fallen key N p n) (h : ∀ m p', 1 ≤ m → m ≤ N → Upto key N p' m → Q (m, p') s) : (kas_tail3 n N p).kasWp cmp Q s := by
  unfold kas_tail3
  rw [KasT.kasWp_bind]
  have hsz := D.sz
  have hn := D.nN
  have he := rev_get (p := p) (i := 0) (j := n) (by omega)
  have U : Upto key N (kas_rev p 0 n) n := by
    refine ⟨by rw [kas_rev_size]; exact hsz, D.nN, fun i hi => ?_, fun i hi hN => ?_, fun i j hij hj => ?_⟩
    · rw [he, if_pos (by omega)]; exact D.low _ (by omega)
    · rw [he, if_neg (by omega)]; exact D.rest i hi hN
    · rw [he, if_pos (by omega), he, if_pos (by omega)]; exact D.ord _ _ (by omega) (by omega)
  exact asc_ A (N - n) n h1 (by omega) U fun m hm hN hU _ => h m _ (by omega) hN hU
theorem descPart_ (A : Asks key N cmp) {p : Array Nat} {n : Nat} {Q : Nat × Array Nat → Shared → Prop} {s : Shared} (h1 : 1 ≤ n) (hn : n < N) (D : Falls key N p (n + 1) n) (h : ∀ m p', 1 ≤ m → m ≤ N → Upto key N p' m → Q (m, p') s) : (kas_descPart n N p).kasWp cmp Q s := by
  unfold kas_descPart
  rw [KasT.kasWp_bind]
  refine desc_ A (N - (n + 1)) p (n + 1) 0 (by omega) (by omega) D fun p' n' q' hN hq D' => ?_
  have hsz := D'.sz
  have hnN := D'.nN
  show KasT.kasWp cmp (if q' > 0 then _ else _) Q s
  by_cases h0 : q' > 0
  · rw [if_pos h0]
    have hn1 : 1 ≤ n' := by omega
    have hn2 : n' ≤ p'.size := by omega
    obtain ⟨T, _⟩ := D'.turn (p' := kas_rev p' (n' - (q' + 1)) n') (by rw [kas_rev_size]; exact hsz) (rev_get hn2)
    exact tail_ A hn1 T h
  · rw [if_neg h0]
    have : q' = 0 := by omega
    subst this
    obtain ⟨T, _⟩ := D'.turn (p' := p') hsz (fun k => by
      split
      · congr 1; omega
      · rfl)
    exact tail_ A (by omega) T h
theorem range_get {N i : Nat} (h : i < N) : (List.toArray (List.range N)).getD i 0 = i := by
  simp [Array.getD, h]
theorem count_ (A : Asks key N cmp) {Q : Nat × Array Nat → Shared → Prop} {s : Shared} (h2 : 2 ≤ N) (h : ∀ m p', 1 ≤ m → m ≤ N → Upto key N p' m → Q (m, p') s) : (kas_count N (List.toArray (List.range N))).kasWp cmp Q s := by
  unfold kas_count
  rw [KasT.kasWp_bind]
  have U1 : Upto key N (List.toArray (List.range N)) 1 := ⟨by simp, by omega, fun i hi => by rw [range_get (by omega)]; omega, fun i _ hN => range_get hN, fun i j hij hj => by omega⟩
  refine asc_ A (N - 1) 1 (Nat.le_refl _) (by omega) U1 fun n hn1 hN U hfall => ?_
  show KasT.kasWp cmp (if (n == N) = true then _ else _) Q s
  by_cases e : (n == N) = true
  · rw [if_pos e]; exact h n _ hn1 hN U
  · rw [if_neg e]
    have hlt : n < N := by
      have : n ≠ N := fun q => e (by rw [q]; exact beq_self_eq_true _)
      omega
    have fall := hfall hlt
    rw [range_get hlt, range_get (by omega)] at fall
    have start : ∀ p' : Array Nat, p'.size = N → (∀ i, i < n → p'.getD i 0 = n - 1 - i) → (∀ i, n ≤ i → i < N → p'.getD i 0 = i) → (∀ i, i < n → key i = key (n - 1)) → Falls key N p' (n + 1) n := by
      intro p' hz hi hr hk
      refine ⟨hz, hlt, by omega, hr, fun i h => by rw [hi i h]; omega, fun i j hij hj => ?_, fun i j h h1 h2 => ?_, fun j h1 h2 => by rw [show j = n by omega]; rfl⟩
      · rw [hi i (by omega), hi j hj]
        exact .inr ⟨(hk _ (by omega)).trans (hk _ (by omega)).symm, by omega⟩
      · have : j = n := by omega
        subst this
        rw [hi i h, hk (j - 1 - i) (by omega)]; exact fall
    by_cases h3 : n > 1
    · rw [if_pos h3, range_get (by omega), range_get (by omega)]
      refine ask_ A (by omega) (by omega) (fun hl => ?_) fun hl => ?_
      · rw [if_pos rfl]; exact h n _ hn1 hN U
      · rw [if_neg (by simp)]
        have hk : ∀ i, i < n → key i = key (n - 1) := by
          intro i hi
          have up : ∀ a b, a < b → b < n → key a < key b ∨ key a = key b := fun a b hab hb => by
            have := U.ord a b hab hb
            rw [range_get (by omega), range_get (by omega)] at this
            rcases this with l | ⟨q, _⟩
            · exact .inl l
            · exact .inr q
          by_cases e0 : i = n - 1
          · rw [e0]
          · rcases up i (n - 1) (by omega) (by omega) with l | q
            · exfalso
              by_cases e1 : i = 0
              · subst e1; exact hl l
              · rcases up 0 i (by omega) hi with l2 | q2
                · exact hl (List.lt_trans l2 l)
                · exact hl (q2 ▸ l)
            · exact q
        refine descPart_ A hn1 hlt (start _ (by rw [kas_rev_size]; simp) (fun i hi => ?_) (fun i hi hN' => ?_) hk) h
        · rw [rev_get (by simp; omega), if_pos (by omega), range_get (by omega)]; omega
        · rw [rev_get (by simp; omega), if_neg (by omega), range_get (by omega)]
    · rw [if_neg h3]
      have : n = 1 := by omega
      subst this
      refine descPart_ A hn1 hlt (start _ (by simp) (fun i hi => ?_) (fun i hi hN' => range_get hN') fun i hi => ?_) h
      · rw [range_get (by omega)]; omega
      · rw [show i = 0 by omega]
theorem place_ (A : Asks key N cmp) {p : Array Nat} {k : Nat} {Q : Nat → Shared → Prop} {s : Shared} (U : Upto key N p k) (hk : k < N) : ∀ (f l r : Nat), r ≤ k → l ≤ r → r ≤ l + f →
    (∀ i, i < l → ¬ key k < key (p.getD i 0)) → (∀ i, r ≤ i → i < k → key k < key (p.getD i 0)) →
    (∀ l, l ≤ k → (∀ i, i < l → ¬ key k < key (p.getD i 0)) → (∀ i, l ≤ i → i < k → key k < key (p.getD i 0)) → Q l s) → (kas_place p k f l r).kasWp cmp Q s
  | 0, l, r, hr, hl, hf, h1, h2, h => h l (by omega) h1 fun i hi => h2 i (by omega)
  | f + 1, l, r, hr, hl, hf, h1, h2, h => by
    unfold kas_place
    by_cases e : l ≥ r
    · rw [if_pos e]; exact h l (by omega) h1 fun i hi => h2 i (by omega)
    · rw [if_neg e, U.rest k (Nat.le_refl _) hk]
      have upto : ∀ i j, i < j → j < k → key (p.getD i 0) < key (p.getD j 0) ∨ key (p.getD i 0) = key (p.getD j 0) := fun i j hij hj => by
        rcases U.ord i j hij hj with l | ⟨q, _⟩
        · exact .inl l
        · exact .inr q
      refine ask_ A hk (low_lt U (by omega)) (fun hlt => ?_) fun hlt => ?_
      · rw [if_pos rfl]
        refine place_ A U hk f l ((l + r) / 2) (by omega) (by omega) (by omega) h1 (fun i hi hik => ?_) h
        by_cases e2 : i = (l + r) / 2
        · rw [e2]; exact hlt
        · rcases upto ((l + r) / 2) i (by omega) hik with q | q
          · exact List.lt_trans hlt q
          · exact q ▸ hlt
      · rw [if_neg (by simp)]
        refine place_ A U hk f ((l + r) / 2 + 1) r hr (by omega) (by omega) (fun i hi hq => ?_) h2 h
        by_cases e2 : i = (l + r) / 2
        · rw [e2] at hq; exact hlt hq
        · rcases upto i ((l + r) / 2) (by omega) (by omega) with q | q
          · exact hlt (List.lt_trans hq q)
          · exact hlt (q ▸ hq)
theorem Upto.bub {p : Array Nat} {k l : Nat} (U : Upto key N p k) (hk : k < N) (hl : l ≤ k) (h1 : ∀ i, i < l → ¬ key k < key (p.getD i 0)) (h2 : ∀ i, l ≤ i → i < k → key k < key (p.getD i 0)) : Upto key N (bubble p k (k - l)) (k + 1) := by
  have hsz := U.sz
  have he := bub_get (p := p) (k := k) (d := k - l) (by omega) (by omega)
  have ek : k - (k - l) = l := by omega
  rw [ek, U.rest k (Nat.le_refl _) hk] at he
  have below : ∀ i, i < l → (bubble p k (k - l)).getD i 0 = p.getD i 0 := fun i hi => by rw [he, if_neg (by omega), if_neg (by omega)]
  have at_l : (bubble p k (k - l)).getD l 0 = k := by rw [he, if_pos rfl]
  have above : ∀ i, l < i → i ≤ k → (bubble p k (k - l)).getD i 0 = p.getD (i - 1) 0 := fun i h3 h4 => by rw [he, if_neg (by omega), if_pos ⟨h3, h4⟩]
  have r1 : ∀ i, i < l → Rk key (p.getD i 0) k := fun i hi => by
    rcases le_of_not (h1 i hi) with q | q
    · exact .inl q
    · exact .inr ⟨q, U.low i (by omega)⟩
  refine ⟨by rw [bubble_size]; exact hsz, hk, fun i hi => ?_, fun i hi hN => ?_, fun i j hij hj => ?_⟩
  · rcases Nat.lt_trichotomy i l with q | q | q
    · rw [below i q]; have := U.low i (by omega); omega
    · rw [q, at_l]; omega
    · rw [above i q (by omega)]; have := U.low (i - 1) (by omega); omega
  · rw [he, if_neg (by omega), if_neg (by omega)]; exact U.rest i (by omega) hN
  · rcases Nat.lt_trichotomy j l with q | q | q
    · rw [below i (by omega), below j q]; exact U.ord i j hij (by omega)
    · rw [q, at_l, below i (by omega)]; exact r1 i (by omega)
    · rw [above j q (by omega)]
      rcases Nat.lt_trichotomy i l with q2 | q2 | q2
      · rw [below i q2]; exact U.ord i (j - 1) (by omega) (by omega)
      · rw [q2, at_l]; exact .inl (h2 (j - 1) (by omega) (by omega))
      · rw [above i q2 (by omega)]; exact U.ord (i - 1) (j - 1) (by omega) (by omega)
theorem bin_ (A : Asks key N cmp) {Q : Array Nat → Shared → Prop} {s : Shared} : ∀ (f : Nat) (p : Array Nat) (k : Nat), k + f = N → Upto key N p k → (∀ p', Upto key N p' N → Q p' s) → (kas_bin f p k).kasWp cmp Q s
  | 0, p, k, hf, U, h => h p ((show k = N by omega) ▸ U)
  | f + 1, p, k, hf, U, h => by
    unfold kas_bin
    rw [KasT.kasWp_bind]
    refine place_ A U (by omega) k 0 k (Nat.le_refl _) (by omega) (by omega) (fun i hi => by omega) (fun i hi hk => by omega) fun l hl h1 h2 => ?_
    exact bin_ A f _ (k + 1) (by omega) (U.bub (by omega) hl h1 h2) h
theorem sort_ (A : Asks key N cmp) {Q : Array Nat → Shared → Prop} {s : Shared} (h2 : 2 ≤ N) (h : ∀ p', Upto key N p' N → Q p' s) : (kas_sort N).kasWp cmp Q s := by
  unfold kas_sort
  rw [KasT.kasWp_bind]
  refine count_ A h2 fun m p' h1 hN U => ?_
  dsimp only
  by_cases e : m < N
  · rw [if_pos e, show max m 1 = m by omega]
    exact bin_ A (N - m) p' m (by omega) U h
  · rw [if_neg e]
    exact h p' ((show m = N by omega) ▸ U)
end
end Mine
end PP1

section PN0
open PySem PySem.W PyProof.Rows PySem.Calls
namespace Mine
theorem offN0 : True := by
  w_top off
  exact True.intro
def nth : List Stmt → Nat → Stmt
  | [], _ => .Pass ⟨0, 0, 0, 0⟩
  | a :: _, 0 => a
  | _ :: l, n + 1 => nth l n
def bodyOf : Stmt → List Stmt
  | .FunctionDef _ _ b _ _ _ _ _ _ _ => b
  | .For _ _ b _ _ => b
  | _ => []
def scopeOf : Stmt → Scope
  | .FunctionDef _ _ _ _ _ _ sc _ _ _ => sc
  | _ => { kind := .module, names := [], isGenerator := false, isCoroutine := false, more := [] }
/-- the law's own def, its statements, its frame -/
def lawStmt : Stmt := nth PySem.Challenge.pw_pg0049_01.main.body 21
def lawAt (n : Nat) : Stmt := nth (bodyOf lawStmt) n
abbrev lawEnv (L fa : Addr) (cd : Value) : Env := envOfC (Str.ofString "law") (scopeOf lawStmt) L fa cd
/-- the inner loop's and the outer loop's turns -/
def outerBody : List Stmt := bodyOf (lawAt 3)
def innerBody : List Stmt := bodyOf (nth outerBody 4)
def lastBody : List Stmt := bodyOf (lawAt 5)
theorem mem_app {α : Type} {a : α} {l r : List α} (h : a ∈ r) : a ∈ l ++ r := List.mem_append_right _ h
end Mine
end PN0

section PN1
open PySem PySem.W PyProof.Rows PySem.Calls
namespace Mine
theorem offN1 : True := by
  w_top off
  exact True.intro
theorem fillN1 : PySem.Challenge.rw_pg0049_01 = PySem.Challenge.rw_pg0049_01 ∧ hd.heap_39 = hd.heap_39 := by
  k_fill
  exact ⟨rfl, rfl⟩

local macro_rules | `(tactic| walk_at "mine mem") => `(tactic| first | assumption | exact List.mem_cons_self | (refine List.mem_cons_of_mem _ ?_; walk_at "mine mem") | (refine mem_app ?_; walk_at "mine mem"))
local macro_rules | `(tactic| walk_at "mine lit") => `(tactic| ((generalize hsc : scopeOf lawStmt = sc); (have hsc2 := hsc.symm); (conv at hsc2 => rhs; whnf); subst hsc2; clear hsc))

theorem strcoll_w {w : World} {dp un : Nat} {fr : Option (List Env)} {gd : Option (List Code)} {s : Shared} {mg mb : Str → Option Value} {p : Program} {loose : List Str} {mean : ExcName → Option Value} {Q E : Value → Shared → Prop} {x y : List Int} {tx ty : Tok}
    (X : (hd.heap_39 w.params).In s.heap) (T : Top p loose mean mg mb s.heap) (hdp : dp + 1 < recursionLimit) (hun : un + 100 < cLine)
    (ret : ∀ (t : Tok) h' tk, Keep s.heap h' → Q (.int (ord x y) t) { s with heap := h', toks := tk }) :
    wpAny (model prog0 w) (Ar dp un fr gd) (call (.ref 21) [.str (S (written x)) tx, .str (S (written y)) ty]) Q E s := by
  refine strcoll_c X T hdp hun fun t h' tk k => ?_
  rw [strcoll_int (S_toList _) (S_toList _)]
  exact ret t h' tk k
theorem reads_bools {h : Heap} : ∀ bs : List Bool, ReadsAll h (bs.map Value.bool) (bs.map PyData.bool) []
  | [] => .nil
  | b :: r => by
    have := ReadsAll.cons (Reads.bool (h := h) b) (reads_bools (h := h) r)
    simpa using this
theorem lay_bools : ∀ bs : List Bool, PyData.canLayAll0 (bs.map PyData.bool) = true
  | [] => by simp [PyData.canLayAll0]
  | n :: r => by simp [PyData.canLayAll0, PyData.canLay0, lay_bools r]
theorem depth_bools : ∀ bs : List Bool, PyData.depthAll (bs.map PyData.bool) ≤ 1
  | [] => by simp [PyData.depthAll]
  | n :: r => by
    have := depth_bools r
    simp only [List.map_cons, PyData.depthAll, PyData.depth]
    omega
theorem shaped_bools (bs : List Bool) : SeqAt.shaped (.list (bs.map PyData.bool)) = true := by
  have h1 := depth_bools bs
  have h2 : PyData.depth (.list (bs.map PyData.bool)) ≤ 64 := by simp only [PyData.depth]; omega
  show (PyData.canLay0 (.list (bs.map PyData.bool)) && decide (PyData.depth (.list (bs.map PyData.bool)) ≤ 64)) = true
  rw [Bool.and_eq_true]
  exact ⟨by simp only [PyData.canLay0]; exact lay_bools bs, decide_eq_true h2⟩
theorem mix_bools : ∀ bs cs : List Bool, PySem.SeqAt.noMixAll (bs.map PyData.bool) (cs.map PyData.bool) = true
  | [], [] => by simp [PySem.SeqAt.noMixAll]
  | [], _ :: _ => by simp [PySem.SeqAt.noMixAll]
  | _ :: _, [] => by simp [PySem.SeqAt.noMixAll]
  | _ :: r, _ :: q => by simp [PySem.SeqAt.noMixAll, PySem.SeqAt.noMix, mix_bools r q]
theorem same_bools : ∀ bs : List Bool, PySem.Spec.sameAll (bs.map PyData.bool) (bs.map PyData.bool) = true
  | [] => by simp [PySem.Spec.sameAll]
  | b :: r => by simp [PySem.Spec.sameAll, PySem.Spec.same, same_bools r]
def sixB (o : Int) : List Bool := [decide (o < 0), decide (o ≤ 0), decide (o = 0), !decide (o = 0), decide (0 ≤ o), decide (0 < o)]
theorem ne_six {prog : Program} {w : World} {A : Around} {E : Value → Shared → Prop} {s : Shared} {a b : Addr} {o : Int} {Q : Value → Shared → Prop} (ha : s.heap.IsList a (six o).toArray) (hb : s.heap.IsList b (six o).toArray) (hu : A.units + 64 < cLine) (h : Q (.bool false) s) :
    wpAny (model prog w) A (compareOp .NotEq (.ref a) (.ref b)) Q E s := by
  obtain ⟨oa, ga, ca, na, da⟩ := ha
  obtain ⟨ob, gb, cb, nb, db⟩ := hb
  refine ne_dataH_same (Reads.list ga ca da (reads_bools (sixB o))) (Reads.list gb cb db (reads_bools (sixB o))) (shaped_bools _) (shaped_bools _) hu (by simp only [PySem.SeqAt.noMix]; exact mix_bools _ _) ?_
  simp only [PySem.Spec.same]
  rw [same_bools]; exact h
local macro_rules | `(tactic| walk_at "call ref cons nil") => `(tactic| (k_dflt ((rename Fr _ _ _ _ => F9); (rename News _ _ _ _ => N9); (rename Frag.In _ _ => X9); (rename Top _ _ _ _ _ _ => T9); (refine order_c (X9.keeps F9.keep) (T9.keeps F9.keep) (by first | omega | (dsimp only [Around.deeper]; omega)) (by first | omega | (dsimp only [Around.deeper]; omega)) ⟨_, N9.get (by walk_at "mine mem"), rfl, 0, rfl⟩ (by assumption) ⟨_, N9.get (by walk_at "mine mem"), rfl, 0, rfl⟩ (by assumption) (by omega) (by omega) ?_); (intro _ h2 _ k2); (have F8 := Frkept F9 k2); (have N8 := Newskept N9 k2); (try dsimp only))))
local macro_rules | `(tactic| walk_at "call ref cons nil") => `(tactic| (k_dflt ((rename Fr _ _ _ _ => F9); (rename News _ _ _ _ => N9); (rename Frag.In _ _ => X9); (rename Top _ _ _ _ _ _ => T9); (refine strcoll_w (X9.keeps F9.keep) (T9.keeps F9.keep) (by first | omega | (dsimp only [Around.deeper]; omega)) (by first | omega | (dsimp only [Around.deeper]; omega))  ?_); (intro _ h2 _ k2); (have F8 := Frkept F9 k2); (have N8 := Newskept N9 k2); (try dsimp only))))
local macro_rules | `(tactic| walk_at "call ref cons nil") => `(tactic| (k_dflt ((rename Fr _ _ _ _ => F9); (rename News _ _ _ _ => N9); (rename Frag.In _ _ => X9); (rename Top _ _ _ _ _ _ => T9); (refine signs_l (X9.keeps F9.keep) (T9.keeps F9.keep) (by first | omega | (dsimp only [Around.deeper]; omega)) (by first | omega | (dsimp only [Around.deeper]; omega)) ⟨_, N9.get (by walk_at "mine mem"), rfl, 0, rfl⟩ (by assumption) ⟨_, N9.get (by walk_at "mine mem"), rfl, 0, rfl⟩ (by assumption)  ?_); (intro D2 h2 _ k2 l2); (have F8 := Frkept F9 k2); (have N8 := Newskept N9 k2); (try dsimp only))))
local macro_rules | `(tactic| walk_at "call ref cons nil") => `(tactic| (k_dflt ((rename Fr _ _ _ _ => F9); (rename News _ _ _ _ => N9); (rename Frag.In _ _ => X9); (rename Top _ _ _ _ _ _ => T9); (refine signs_s (X9.keeps F9.keep) (T9.keeps F9.keep) (by first | omega | (dsimp only [Around.deeper]; omega)) (by first | omega | (dsimp only [Around.deeper]; omega)) (S_toList _) (S_toList _) ?_); (intro D2 h2 _ k2 l2); (have F8 := Frkept F9 k2); (have N8 := Newskept N9 k2); (try dsimp only))))

local macro_rules | `(tactic| walk_at "compareOp NotEq ref ref") => `(tactic| (k_dflt ((rename News _ _ _ _ => N9); (refine ne_six (by assumption) ⟨_, N9.get (by walk_at "mine mem"), rfl, 0, rfl⟩ (by first | omega | (dsimp only [Around.deeper]; omega)) ?_); (try dsimp only))))

theorem inner_turn {w : World} {dp un : Nat} {fr : Option (List Env)} {gd : Option (List Code)} {s : Shared} {mg mb : Str → Option Value} {p : Program} {loose : List Str} {mean : ExcName → Option Value} {E : Value → Shared → Prop} {g : Heap} {L fa : Addr} {cd : Value} {Q : Flow → Shared → Prop} {m₁ : Str → Option Value} {news : List (Addr × Obj)} {x z : List Int} {a b : Addr} {us vs : List Value} {tx tz : Tok}
    (X : (hd.heap_39 w.params).In g) (T : Top p loose mean mg mb g) (hdp : dp + 4 < recursionLimit) (hun : un + 300 < cLine)
    (F : Fr g L s.heap (fun y => if y = Str.ofString "word" then some (.str (S (written z)) tz) else if y = Str.ofString "other" then some (.ref b) else if y = Str.ofString "row" then some (.ref a) else if y = Str.ofString "text" then some (.str (S (written x)) tx) else m₁ y))
    (N : News g L s.heap news) (ha : (a, W.listOf us.toArray 0) ∈ news) (hu : IntsAre us x) (hb : (b, W.listOf vs.toArray 0) ∈ news) (hv : IntsAre vs z) (hx : x.length ≤ 1000) (hz : z.length ≤ 1000)
    (fin : ∀ h tk m', Fr g L h m' → News g L h news → (∀ y, y ≠ Str.ofString "word" → y ≠ Str.ofString "other" → y ≠ Str.ofString "due" → y ≠ Str.ofString "told" → y ≠ Str.ofString "signs" → m' y = if y = Str.ofString "row" then some (.ref a) else if y = Str.ofString "text" then some (.str (S (written x)) tx) else m₁ y) → Q .next { s with heap := h, toks := tk }) :
    wpAny (model prog0 w) (Ar dp un fr gd) (execs innerBody (lawEnv L fa cd)) Q E s := by
  unfold lawEnv
  walk_at "mine lit"
  generalize hbd : innerBody = bd
  have hbd2 := hbd.symm
  conv at hbd2 => rhs; whnf
  subst hbd2
  clear hbd
  refine wpAny_execs_cons ?_
  (walk_at "mine steps")
  · rename_i h9
    exact absurd rfl h9
  · rename Fr _ _ _ _ => FZ
    rename News _ _ _ _ => NZ
    exact fin _ _ _ FZ (fun p hp => NZ p (List.mem_cons_of_mem _ hp)) fun y h1 h2 h3 h4 h5 => by simp only [if_neg h1, if_neg h2, if_neg h3, if_neg h4, if_neg h5]
end Mine
end PN1

section PN2
open PySem PySem.W PyProof.Rows PySem.Calls
namespace Mine
theorem offN2 : True := by
  w_top off
  exact True.intro
section
variable {prog : Program} {w : World} {A : Around} {E : Value → Shared → Prop} {s : Shared}
/-- an item by its place, from the head or from the end -/
theorem item_at {value slice : PySem.Expr} {l : Addr} {items : Array Value} {k : Int} {u : Tok} {j : Nat} {v : Value} {Q : Value → Shared → Prop} (hl : s.heap.IsList l items) (hx : items[j]? = some v) (hk : k = j ∨ k = (j : Int) - items.size) (hsz : items.size < 1000) (h : Q v s)
    (hs : subscripted slice false (.ref l) (.int k u) = operate [.ref l, .int k u] (getItem (.ref l) (.int k u)) := by with_unfolding_all rfl) :
    wpAny (model prog w) A (subscriptTail value slice (.ref l) (.int k u)) Q E s := by
  have hj : j < items.size := (Array.getElem?_eq_some_iff.mp hx).1
  refine tail_any hl.typeIs slot_list_getitem.lookup ?_ hs
  by_cases h0 : 0 ≤ k
  · have e : k = j := by omega
    exact wpAny_getItem_list hl h0 (by omega) (by rw [e]; simpa using hx) h
  · have e : k = (j : Int) - items.size := by omega
    refine wpAny_getItem_list_neg hl (by omega) (by omega) (by omega) ?_ h
    have e2 : (k + items.size).toNat = j := by omega
    rw [e2]; exact hx
theorem ne_same_ints {a b : Addr} {vs us : List Value} {ns : List Int} {Q : Value → Shared → Prop} (hl : s.heap.IsList a vs.toArray) (hi : IntsAre vs ns) (hl' : s.heap.IsList b us.toArray) (hi' : IntsAre us ns) (hu : A.units + 64 < cLine)
    (h : Q (.bool false) s) : wpAny (model prog w) A (compareOp .NotEq (.ref a) (.ref b)) Q E s :=
  ne_intsK hl hi hl' hi' hu (by simpa using h)
end
section
variable {w : World} {dp un : Nat} {fr : Option (List Env)} {gd : Option (List Code)} {s : Shared} {mg mb : Str → Option Value} {p : Program} {loose : List Str} {mean : ExcName → Option Value} {Q E : Value → Shared → Prop}
theorem row_len {x : List Int} (h : RowOk x) : (S (written x)).length ≤ 75 := by
  rw [S_length]
  have := written_len (xs := x) fun y hy => by have := h.2 y hy; omega
  have := h.1
  omega
theorem concat_sw {x y : List Int} {tx ty : Tok} (X : (hd.heap_39 w.params).In s.heap) (T : Top p loose mean mg mb s.heap) (hdp : dp + 1 < recursionLimit) (hun : un + 100 < cLine) (hx : RowOk x) (hy : RowOk y)
    (ret : ∀ (t : Tok) h' tk, Keep s.heap h' → Q (.str (S (written (x ++ y))) t) { s with heap := h', toks := tk }) :
    wpAny (model prog0 w) (Ar dp un fr gd) (call (.ref 98) [.str (S (written x)) tx, .str (S (written y)) ty]) Q E s := by
  have h1 := row_len hx
  have h2 := row_len hy
  refine concat_s X T hdp hun (by omega) (by omega) fun t h' tk k => ?_
  rw [S_append, ← written_append]
  exact ret t h' tk k
theorem concat_lw {l r : Addr} {vs us : List Value} {xs ys : List Int} (X : (hd.heap_39 w.params).In s.heap) (T : Top p loose mean mg mb s.heap) (hdp : dp + 1 < recursionLimit) (hun : un + 100 < cLine)
    (hl : s.heap.get? l = some (W.listOf vs.toArray 0)) (hi : IntsAre vs xs) (hr : s.heap.IsList r us.toArray) (hj : IntsAre us ys) (hx : RowOk xs) (hy : RowOk ys)
    (ret : ∀ a vs' h' tk, Keep s.heap h' → h'.IsList a vs'.toArray → IntsAre vs' (xs ++ ys) → Q (.ref a) { s with heap := h', toks := tk }) :
    wpAny (model prog0 w) (Ar dp un fr gd) (call (.ref 98) [.ref l, .ref r]) Q E s := by
  have h1 := hi.length
  have h2 := hj.length
  have h3 := hx.1
  have h4 := hy.1
  exact concat_l (xs := xs) (ys := ys) X T hdp hun hl hr (by omega) (by omega) fun a h' tk k l2 => ret a _ h' tk k l2 (hi.append hj)
theorem turned_w {x : List Int} {tx : Tok} (X : (hd.heap_39 w.params).In s.heap) (T : Top p loose mean mg mb s.heap) (hdp : dp + 1 < recursionLimit) (hun : un + 100 < cLine) (hx : RowOk x)
    (ret : ∀ (t : Tok) h' tk, Keep s.heap h' → Q (.str (S (turn (written x))) t) { s with heap := h', toks := tk }) :
    wpAny (model prog0 w) (Ar dp un fr gd) (call (.ref 110) [.str (S (written x)) tx]) Q E s := by
  have h1 := row_len hx
  exact turned_c X T hdp hun (by omega) fun t h' tk k => ret t h' tk k
theorem written_iw {l : Addr} {vs : List Value} {z : List Int} (X : (hd.heap_39 w.params).In s.heap) (T : Top p loose mean mg mb s.heap) (hdp : dp + 3 < recursionLimit) (hun : un + 200 < cLine) (hl : s.heap.IsList l vs.toArray) (hi : IntsAre vs (z.map fun x => -1 - x)) (hz : RowOk z)
    (ret : ∀ (t : Tok) h' tk, Keep s.heap h' → Q (.str (S (turn (written z))) t) { s with heap := h', toks := tk }) :
    wpAny (model prog0 w) (Ar dp un fr gd) (call (.ref 117) [.ref l]) Q E s := by
  refine written_c X T hdp hun hl hi (by have := hz.1; simp only [List.length_map]; omega) (fun x hx => ?_) fun t h' tk k => ?_
  · obtain ⟨y, hy, rfl⟩ := List.mem_map.mp hx
    have := hz.2 y hy; omega
  · rw [written_inv]; exact ret t h' tk k
theorem read_w {xs : List Int} {tx : Tok} (X : (hd.heap_39 w.params).In s.heap) (T : Top p loose mean mg mb s.heap) (hdp : dp + 3 < recursionLimit) (hun : un + 200 < cLine) (hx : RowOk xs)
    (ret : ∀ a vs h' tk, Keep s.heap h' → h'.IsList a vs.toArray → IntsAre vs xs → Q (.ref a) { s with heap := h', toks := tk }) :
    wpAny (model prog0 w) (Ar dp un fr gd) (call (.ref 124) [.str (S (written xs)) tx]) Q E s :=
  read_c X T hdp hun (by have := hx.1; omega) (fun x hx' => by have := hx.2 x hx'; omega) fun a vs h' tk k i l => ret a vs h' tk k l i
theorem read_w2 {xs ys : List Int} {tx : Tok} (X : (hd.heap_39 w.params).In s.heap) (T : Top p loose mean mg mb s.heap) (hdp : dp + 3 < recursionLimit) (hun : un + 200 < cLine) (hx : RowOk xs) (hy : RowOk ys)
    (ret : ∀ a vs h' tk, Keep s.heap h' → h'.IsList a vs.toArray → IntsAre vs (xs ++ ys) → Q (.ref a) { s with heap := h', toks := tk }) :
    wpAny (model prog0 w) (Ar dp un fr gd) (call (.ref 124) [.str (S (written (xs ++ ys))) tx]) Q E s :=
  read_c X T hdp hun (by have := hx.1; have := hy.1; simp only [List.length_append]; omega) (fun x hx' => by
    rcases List.mem_append.mp hx' with h | h
    · have := hx.2 x h; omega
    · have := hy.2 x h; omega) fun a vs h' tk k i l => ret a vs h' tk k l i
end
/-- the element's relation in [inv(x) for x in row] -/
def IRel (v y : Value) : Prop := ∃ n t t', v = .int n t ∧ y = .int (-1 - n) t'
theorem inv_ints : ∀ {vs ys : List Value} {z : List Int}, IntsAre vs z → Paired IRel vs ys → IntsAre ys (z.map fun x => -1 - x)
  | _, _, _, .nil, .nil => .nil
  | _, _, _, .cons n t r, .cons ⟨n', t1, t2, e1, e2⟩ q => by
    cases e1; subst e2
    exact .cons _ _ (inv_ints r q)
section
variable {w : World} {dp un : Nat} {fr : Option (List Env)} {gd : Option (List Code)} {s : Shared} {g h : Heap} {mg mb : Str → Option Value} {p : Program} {loose : List Str} {mean : ExcName → Option Value} {E : Value → Shared → Prop} {env : Env}
theorem inv_step {x : Str} {p1 p2 p3 px : Pos} {iter : PySem.Expr} {scope : Scope} {pos : Pos} {Q : Value → Shared → Prop} {ax : Addr} {vs : List Value} {z : List Int}
    (X : (hd.heap_39 w.params).In g) (T : Top p loose mean mg mb g) (hk : ∀ b o, g.get? b = some o → h.get? b = some o)
    (hl : h.IsList ax vs.toArray) (hi : IntsAre vs z) (hz : RowOk z) (hdp : dp + 3 < recursionLimit) (hun : un + 200 < cLine)
    (hfree : ∀ y ∈ scope.names, y.2 ≠ .free) (hcell : ∀ y ∈ scope.names, y.2 ≠ .cell) (hkind : scope.kind = .function)
    (hnames : ∀ y ∈ scope.names, y.2 = .local → scope.names.lookup y.1 = some .local) (hx : scope.names.lookup x = some .local) (hf : scope.names.lookup ("inv" : Str) = some .globalImplicit)
    (hdx : (x == ("__debug__" : Str)) = false) (hglob : env.globals = mainGlobals) (hkp : keepIn (hd.heap_39 w.params) (.ref 77) = true)
    (e : nsIn (hd.heap_39 w.params) mainGlobals "inv" = some (some (.ref 77)))
    (hev : wpAny (model prog0 w) (Ar dp un fr gd) (eval iter env) (fun xv s₁ => xv = .ref ax ∧ s₁.heap = h ∧
      (∀ D h' tk (ys : List Value), h'.IsList D ys.toArray → IntsAre ys (z.map fun x => -1 - x) → Keep h h' → Q (.ref D) { s₁ with heap := h', toks := tk })) E s)
    (hs : ∀ x, foldedSetIterable iter env x = pure x := by intro _; rfl) :
    wpAny (model prog0 w) (Ar dp un fr gd) (eval (.ListComp (.Call (.Name "inv" p1) [.Name x p2] [] p3) [⟨.Name x px, iter, [], 0⟩] scope pos) env) Q E s := by
  refine comp_call (K := hd.heap_39 w.params) (fa := 77) mg IRel rfl hfree hcell hkind hnames hx hf hdx (by decide) hglob hkp ?_ hs
  refine wpAny_mono hev (fun xv s₁ h₁ => ?_) fun _ _ e => e
  obtain ⟨rfl, rfl, hQ⟩ := h₁
  refine ⟨ax, _, rfl, hl, ?_, X.keeps hk, T.g.keeps hk, mg_of X T.g e, ?_, ?_⟩
  · have h1 := hi.length
    have h2 := hz.1
    have : vs.length ≤ 3 := by omega
    simp only [List.size_toArray]
    rw [sizeLine_eq]; omega
  · intro v s₂ E' hv hk2
    obtain ⟨n, t, rfl⟩ := hi.all v (by simpa using hv)
    refine inv_c (X.keeps fun b o q => hk2 b o (hk b o q)) (T.keeps fun b o q => hk2 b o (hk b o q)) (by omega) (by omega) fun t' h' tk k => ?_
    exact ⟨⟨n, t, t', rfl, rfl⟩, h', tk, rfl, k⟩
  · intro D h' tk ys hD hl' hP hk'
    refine hQ D h' tk ys.toList (by simpa using hl') (inv_ints hi (by simpa using hP)) hk'
end
section
variable {prog : Program} {w : World} {A : Around} {E : Value → Shared → Prop} {s : Shared} {env : Env} {h₀ : Heap} {m : Str → Option Value} {news : List (Addr × Obj)} {xi xc : Str} {body : List Stmt} {Q : Flow → Shared → Prop}
/-- for a, b in zip(xs, ys) over two lists of the ledger -/
theorem zip_loop {l1 l2 : Addr} {vs₁ vs₂ : List Value} (hh : A.handled = none) (hl1 : s.heap.IsList l1 vs₁.toArray) (hl2 : s.heap.IsList l2 vs₂.toArray) (n1 : l1 ≠ env.locals) (n2 : l2 ≠ env.locals)
    (F : Fr h₀ env.locals s.heap m) (N : News h₀ env.locals s.heap news) (J : (Str → Option Value) → Prop) (hj : J m)
    (turn : ∀ (i : Nat) v0 v1 m₁ h tk own, vs₁[i]? = some v0 → vs₂[i]? = some v1 → J m₁ → Fr h₀ env.locals h (fun y => if y = xc then some v1 else if y = xi then some v0 else m₁ y) → News h₀ env.locals h (own ++ news) →
      (∀ h' tk' m', Fr h₀ env.locals h' m' → News h₀ env.locals h' (own ++ news) → J m' → LoopStep3 h₀ env.locals own news (fun m' n' => n' = news ∧ J m') { s with heap := h, toks := tk } (fun v s' => Q (.ret v) s') (fun s' => Q .next s') .next { s with heap := h', toks := tk' }) →
      wpAny (model prog w) A (execs body env) (LoopStep3 h₀ env.locals own news (fun m' n' => n' = news ∧ J m') { s with heap := h, toks := tk } (fun v s' => Q (.ret v) s') (fun s' => Q .next s')) E { s with heap := h, toks := tk })
    (done : ∀ h tk m', Fr h₀ env.locals h m' → News h₀ env.locals h news → J m' → Q .next { s with heap := h, toks := tk }) :
    wpAny (model prog w) A (call (.type "zip") [.ref l1, .ref l2]) (fun xv s₁ => wpAny (model prog w) A (pyIter xv) (fun it s₂ => PairAt3 prog w A h₀ env xi xc body Q E it s₂) E s₁) E s := by
  obtain ⟨ol1, hol1, _⟩ := id hl1
  obtain ⟨ol2, hol2, _⟩ := id hl2
  have a1 : l1 < s.heap.objs.size := Heap.lt_size hol1
  have a2 : l2 < s.heap.objs.size := Heap.lt_size hol2
  have hLs : env.locals < s.heap.objs.size := F.ns.lt
  have hab : h₀.objs.size ≤ env.locals := F.above
  refine call_zip_2 hl1 hl2 fun h' hz hTI hTO hit1 hit2 hsz hk => ?_
  have F' : Fr h₀ env.locals h' m := ⟨F.ns.keeps hk, fun b o e => hk b o (F.keep b o e), F.above⟩
  have N' : News h₀ env.locals h' news := fun p hp => ⟨hk _ _ (N p hp).1, (N p hp).2⟩
  have W := WalksT.zip2 (prog := prog) (w := w) hh _ _ _ _ _ l1 l2 (zipApart_new a1 a2) vs₁.toArray vs₂.toArray
  refine W.self 0 _ _ _ ⟨hz, hTI, ⟨_, _, hTO⟩, hit1, hit2, hl1.at fun o e => hk l1 o e, hl2.at fun o e => hk l2 o e⟩ ?_
  refine ⟨_, _, _, _, _, _, _, (fun i v0 v1 => vs₁[i]? = some v0 ∧ vs₂[i]? = some v1), m, news, (fun _ m' n' => n' = news ∧ J m'), rfl, W, ?_, ?_, ?_, ?_, ⟨hz, hTI, ⟨_, _, hTO⟩, hit1, hit2, hl1.at fun o e => hk l1 o e, hl2.at fun o e => hk l2 o e⟩, F', N', ⟨rfl, hj⟩, ?_, ?_⟩
  · rintro i vals ⟨x, y, hx, hy, rfl⟩
    exact ⟨x, y, rfl, by simpa using hx, by simpa using hy⟩
  · intro hm
    simp only [List.mem_cons, List.not_mem_nil, or_false] at hm
    have up : ∀ k, env.locals ≠ s.heap.objs.size + k := fun k e => Nat.ne_of_lt (Nat.lt_of_lt_of_le hLs (Nat.le_add_right _ k)) e
    rcases hm with e | e | e | e | e | e | e
    · exact up 4 e
    · exact up 2 e
    · exact up 3 e
    · exact up 0 e
    · exact up 1 e
    · exact n1 e.symm
    · exact n2 e.symm
  · intro b hb
    simp only [List.mem_cons, List.not_mem_nil, or_false] at hb
    have nw : ∀ k, h₀.get? (s.heap.objs.size + k) = none := fun k => Heap.get?_none_of_le (Nat.le_trans hab (Nat.le_trans (Nat.le_of_lt hLs) (Nat.le_add_right _ k)))
    rcases hb with rfl | rfl | rfl | rfl
    · exact nw 4
    · exact nw 3
    · exact nw 0
    · exact nw 1
  · intro p hp hm
    have hq1 : p.1 < s.heap.objs.size := Heap.lt_size (N p hp).1
    simp only [List.mem_cons, List.not_mem_nil, or_false] at hm
    have dn : ∀ k, p.1 ≠ s.heap.objs.size + k := fun k e => Nat.ne_of_lt (Nat.lt_of_lt_of_le hq1 (Nat.le_add_right _ k)) e
    rcases hm with e | e | e | e
    · exact dn 4 e
    · exact dn 3 e
    · exact dn 0 e
    · exact dn 1 e
  · rintro i v0 v1 m₁ news₁ s₁ own ⟨h, tk, rfl⟩ _ ⟨e0, e1⟩ ⟨rfl, hJ⟩ _ _ F₁ N₁
    exact turn i v0 v1 m₁ h tk own e0 e1 hJ F₁ N₁ fun h2 tk2 m2 F2 N2 hJ2 => ⟨rfl, h2, tk2, m2, news₁, rfl, F2, N2, rfl, rfl, hJ2⟩
  · rintro h2 tk2 m2 news2 F2 N2 _ ⟨rfl, hJ2⟩
    exact done h2 tk2 m2 F2 N2 hJ2
end
end Mine
end PN2

section PN3
open PySem PySem.W PyProof.Rows PySem.Calls
namespace Mine
theorem offN3 : True := by
  w_top off
  exact True.intro
theorem fillN3 : PySem.Challenge.rw_pg0049_01 = PySem.Challenge.rw_pg0049_01 ∧ hd.heap_39 = hd.heap_39 := by
  k_fill
  exact ⟨rfl, rfl⟩

local macro_rules | `(tactic| walk_at "mine mem") => `(tactic| first | assumption | exact List.mem_cons_self | (refine List.mem_cons_of_mem _ ?_; walk_at "mine mem") | (refine mem_app ?_; walk_at "mine mem"))
local macro_rules | `(tactic| walk_at "mine lit") => `(tactic| ((generalize hsc : scopeOf lawStmt = sc); (have hsc2 := hsc.symm); (conv at hsc2 => rhs; whnf); subst hsc2; clear hsc))
local macro_rules | `(tactic| walk_at "mine list") => `(tactic| ((rename News _ _ _ _ => N9); first | assumption | exact ⟨_, N9.get (by walk_at "mine mem"), rfl, 0, rfl⟩ | exact ⟨_, N9.get (by walk_at "mine mem"), by assumption, _, by assumption⟩))
local macro_rules | `(tactic| walk_at "mine room") => `(tactic| first | omega | (dsimp only [Around.deeper]; omega))
/-- the item that stands at the place k, from the head or from the end -/
def At (items : Array Value) (k : Int) (v : Value) : Prop := items.size < 1000 ∧ ∃ j : Nat, items[j]? = some v ∧ (k = j ∨ k = (j : Int) - items.size)
theorem item_At {prog : Program} {w : World} {A : Around} {E : Value → Shared → Prop} {s : Shared} {value slice : PySem.Expr} {l : Addr} {items : Array Value} {k : Int} {u : Tok} {v : Value} {Q : Value → Shared → Prop} (hl : s.heap.IsList l items) (hx : At items k v) (h : Q v s)
    (hs : subscripted slice false (.ref l) (.int k u) = operate [.ref l, .int k u] (getItem (.ref l) (.int k u)) := by with_unfolding_all rfl) :
    wpAny (model prog w) A (subscriptTail value slice (.ref l) (.int k u)) Q E s := by
  obtain ⟨hsz, j, hj, hk⟩ := hx
  exact item_at hl hj hk hsz h hs
theorem RowsIn.mono {news news' : List (Addr × Obj)} {R : Addr} {zs : List (List Int)} {as : List Addr} (RI : RowsIn news R zs as) (h : ∀ p ∈ news, p ∈ news') : RowsIn news' R zs as :=
  ⟨RI.len, h _ RI.rows, fun i a e => by
    obtain ⟨us, z, hm, hI, hz⟩ := RI.row i a e
    exact ⟨us, z, h _ hm, hI, hz⟩⟩
local macro_rules | `(tactic| walk_at "subscriptTail") => `(tactic| (k_dflt (refine' item_At ?a ?b ?_ ?e; (case a => walk_at "mine list"); (case b => assumption); (case e => with_unfolding_all rfl); (try dsimp only))))
local macro_rules | `(tactic| walk_at "compareOp NotEq ref ref") => `(tactic| (k_dflt (refine' ne_same_ints ?a ?b ?c ?d ?e ?_; (case a => walk_at "mine list"); (case b => assumption); (case c => walk_at "mine list"); (case d => first | assumption | exact IntsAre.append (by assumption) (by assumption)); (case e => walk_at "mine room"); (try dsimp only))))
theorem ne_same_str {prog : Program} {w : World} {A : Around} {E : Value → Shared → Prop} {s : Shared} {x : Str} {t u : Tok} {Q : Value → Shared → Prop} (h : Q (.bool false) s) : wpAny (model prog w) A (compareOp .NotEq (.str x t) (.str x u)) Q E s :=
  ne_str (by rw [show (x != x) = false by simp]; exact h)
local macro_rules | `(tactic| walk_at "compareOp NotEq str str") => `(tactic| (refine ne_same_str ?_))
local macro_rules | `(tactic| walk_at "call ref cons nil") => `(tactic| (k_dflt ((rename Fr _ _ _ _ => F9); (rename News _ _ _ _ => N9); (rename Frag.In _ _ => X9); (rename Top _ _ _ _ _ _ => T9); (refine read_w (X9.keeps F9.keep) (T9.keeps F9.keep) (by first | omega | (dsimp only [Around.deeper]; omega)) (by first | omega | (dsimp only [Around.deeper]; omega)) (by assumption) ?_); (intro D2 v2 h2 _ k2 l2 i2); (have F8 := Frkept F9 k2); (have N8 := Newskept N9 k2); (try dsimp only))))
local macro_rules | `(tactic| walk_at "call ref cons nil") => `(tactic| (k_dflt ((rename Fr _ _ _ _ => F9); (rename News _ _ _ _ => N9); (rename Frag.In _ _ => X9); (rename Top _ _ _ _ _ _ => T9); (refine read_w2 (X9.keeps F9.keep) (T9.keeps F9.keep) (by first | omega | (dsimp only [Around.deeper]; omega)) (by first | omega | (dsimp only [Around.deeper]; omega)) (by assumption) (by assumption) ?_); (intro D2 v2 h2 _ k2 l2 i2); (have F8 := Frkept F9 k2); (have N8 := Newskept N9 k2); (try dsimp only))))
local macro_rules | `(tactic| walk_at "call ref cons nil") => `(tactic| (k_dflt ((rename Fr _ _ _ _ => F9); (rename News _ _ _ _ => N9); (rename Frag.In _ _ => X9); (rename Top _ _ _ _ _ _ => T9); (refine concat_sw (X9.keeps F9.keep) (T9.keeps F9.keep) (by first | omega | (dsimp only [Around.deeper]; omega)) (by first | omega | (dsimp only [Around.deeper]; omega)) (by assumption) (by assumption) ?_); (intro _ h2 _ k2); (have F8 := Frkept F9 k2); (have N8 := Newskept N9 k2); (try dsimp only))))
local macro_rules | `(tactic| walk_at "call ref cons nil") => `(tactic| (k_dflt ((rename Fr _ _ _ _ => F9); (rename News _ _ _ _ => N9); (rename Frag.In _ _ => X9); (rename Top _ _ _ _ _ _ => T9); (refine turned_w (X9.keeps F9.keep) (T9.keeps F9.keep) (by first | omega | (dsimp only [Around.deeper]; omega)) (by first | omega | (dsimp only [Around.deeper]; omega)) (by assumption) ?_); (intro _ h2 _ k2); (have F8 := Frkept F9 k2); (have N8 := Newskept N9 k2); (try dsimp only))))
local macro_rules | `(tactic| walk_at "call ref cons nil") => `(tactic| (k_dflt ((rename Fr _ _ _ _ => F9); (rename News _ _ _ _ => N9); (rename Frag.In _ _ => X9); (rename Top _ _ _ _ _ _ => T9); (refine written_iw (X9.keeps F9.keep) (T9.keeps F9.keep) (by first | omega | (dsimp only [Around.deeper]; omega)) (by first | omega | (dsimp only [Around.deeper]; omega)) (by assumption) (by assumption) (by assumption) ?_); (intro _ h2 _ k2); (have F8 := Frkept F9 k2); (have N8 := Newskept N9 k2); (try dsimp only))))
local macro_rules | `(tactic| walk_at "call ref cons nil") => `(tactic| (k_dflt ((rename Heap.IsList _ _ _ => l8); (rename Fr _ _ _ _ => F9); (rename News _ _ _ _ => N9); (rename Frag.In _ _ => X9); (rename Top _ _ _ _ _ _ => T9); (refine concat_lw (X9.keeps F9.keep) (T9.keeps F9.keep) (by first | omega | (dsimp only [Around.deeper]; omega)) (by first | omega | (dsimp only [Around.deeper]; omega)) (N9.get (by walk_at "mine mem")) (by assumption) ⟨_, N9.get (by walk_at "mine mem"), rfl, 0, rfl⟩ (by assumption) (by assumption) (by assumption) ?_); (intro D2 v2 h2 _ k2 l2 i2); (have F8 := Frkept F9 k2); (have N8 := Newskept N9 k2); (try dsimp only); (have l7 := Heap.IsList.at l8 (fun o e => k2 _ o e)); (try dsimp only at l7))))

local macro_rules | `(tactic| walk_at "o steps") => `(tactic| repeat' (first | ((fail_if_success (with_reducible show wpAny _ _ (PySem.pyIter _) _ _ _)); (fail_if_success (with_reducible show wpAny _ _ (PySem.exec (PySem.Stmt.For _ _ _ _ _) _) _ _ _)); (fail_if_success (with_reducible show wpAny _ _ (PySem.call (Value.type _) _) _ _ _)); (fail_if_success (with_reducible show wpAny _ _ (PySem.eval (PySem.Expr.ListComp _ _ _ _) _) _ _ _)); walk_at "mine step")))

theorem outer_turn {w : World} {dp un : Nat} {fr : Option (List Env)} {gd : Option (List Code)} {s : Shared} {mg mb : Str → Option Value} {p : Program} {loose : List Str} {mean : ExcName → Option Value} {E : Value → Shared → Prop} {g : Heap} {L fa : Addr} {cd : Value} {Q : Flow → Shared → Prop} {m₁ : Str → Option Value} {news : List (Addr × Obj)} {zs : List (List Int)} {as : List Addr} {R D : Addr} {oc oD : Obj} {ys : Array Value} {nD i : Nat} {t : Tok}
    (X : (hd.heap_39 w.params).In g) (T : Top p loose mean mg mb g) (hdp : dp + 4 < recursionLimit) (hun : un + 300 < cLine) (hE : PassesOwn (model prog0 w) (Ar dp un fr gd) (lawEnv L fa cd) E)
    (F : Fr g L s.heap (fun y => if y = Str.ofString "k" then some (.int (i : Int) t) else if y = Str.ofString "rows" then some (.ref R) else m₁ y))
    (N : News g L s.heap news) (RI : RowsIn news R zs as) (hz7 : zs.length = 7) (ok : ∀ z ∈ zs, RowOk z) (hi : i < 7)
    (hc : (L + 1, oc) ∈ news) (hoc : oc.data = .cell (some (.ref D))) (hD : (D, oD) ∈ news) (cD : oD.cls = .type "list") (dD : oD.data = .seq ys nD) (TA : TextsAre zs ys.toList)
    (fin : ∀ h tk m', Fr g L h m' → News g L h news → m' (Str.ofString "rows") = some (.ref R) → Q .next { s with heap := h, toks := tk }) :
    wpAny (model prog0 w) (Ar dp un fr gd) (execs outerBody (lawEnv L fa cd)) Q E s := by
  have hj : (i + 6) % 7 < 7 := by omega
  generalize hj0 : (i + 6) % 7 = j at hj
  have ha7 : as.length = 7 := by rw [RI.len, hz7]
  have hy7 : ys.size = 7 := by have := TA.1; rw [Array.length_toList, hz7] at this; exact this
  obtain ⟨x, hx⟩ : ∃ x, zs[i]? = some x := ⟨_, List.getElem?_eq_getElem (by omega)⟩
  obtain ⟨y, hy⟩ : ∃ y, zs[j]? = some y := ⟨_, List.getElem?_eq_getElem (by omega)⟩
  obtain ⟨a, ha⟩ : ∃ a, as[i]? = some a := ⟨_, List.getElem?_eq_getElem (by omega)⟩
  obtain ⟨b, hb⟩ : ∃ b, as[j]? = some b := ⟨_, List.getElem?_eq_getElem (by omega)⟩
  obtain ⟨us, x', hm, hu, hx'⟩ := RI.row i a ha
  rw [hx] at hx'
  cases hx'
  obtain ⟨vs, y', hn, hv, hy'⟩ := RI.row j b hb
  rw [hy] at hy'
  cases hy'
  obtain ⟨t1, ht1⟩ := TA.2 i x hx
  obtain ⟨t2, ht2⟩ := TA.2 j y hy
  have rx : RowOk x := ok x (List.mem_of_getElem? hx)
  have ry : RowOk y := ok y (List.mem_of_getElem? hy)
  have A1 : At (as.map Value.ref).toArray (i : Int) (.ref a) := ⟨by simp [ha7], i, by simp [ha], .inl rfl⟩
  have A2 : At (as.map Value.ref).toArray ((i : Int) - 1) (.ref b) := ⟨by simp [ha7], j, by simp [hb], by simp only [List.size_toArray, List.length_map, ha7]; omega⟩
  have A3 : At ys (i : Int) (.str (S (written x)) t1) := ⟨by omega, i, by simpa using ht1, .inl rfl⟩
  have A4 : At ys ((i : Int) - 1) (.str (S (written y)) t2) := ⟨by omega, j, by simpa using ht2, by rw [hy7]; omega⟩
  have hR := RI.rows
  have mtx : (cellsFrom (L + 1) (scopeOf lawStmt).names []).lookup (Str.ofString "texts") = some (L + 1) := rfl
  unfold lawEnv at *
  generalize hbd : outerBody = bd
  have hbd2 := hbd.symm
  conv at hbd2 => rhs; whnf
  subst hbd2
  clear hbd
  generalize hsc : scopeOf lawStmt = sc at *
  have hsc2 := hsc.symm
  conv at hsc2 => rhs; whnf
  subst hsc2
  clear hsc
  refine wpAny_execs_cons ?_
  (walk_at "o steps")
  rename Fr _ _ _ _ => F1
  rename News _ _ _ _ => N1
  rename Frag.In _ _ => X
  rename Top _ _ _ _ _ _ => T
  (refine inv_step X T F1.keep ⟨_, N1.get hm, rfl, 0, rfl⟩ hu rx (by omega) (by omega) (by decide) (by decide) rfl (by decide) rfl rfl rfl rfl (by k_is) (by k_is) ?_)
  walk_at "mine step"
  refine ⟨rfl, rfl, fun D3 h3 tk3 ys3 l3 i3 k3 => ?_⟩
  have F2 := Frkept F1 k3
  have N2 := Newskept N1 k3
  clear F1 N1
  try dsimp only at *
  (walk_at "o steps")
  rename Fr _ _ _ _ => F3
  rename News _ _ _ _ => N3
  rename Frag.In _ _ => X
  rename Top _ _ _ _ _ _ => T
  refine For_pair3 g rfl rfl rfl rfl ?_ (fun _ => rfl) hE
  (walk_at "o steps")
  rename Fr _ _ _ _ => F4
  rename News _ _ _ _ => N4
  rename Frag.In _ _ => X
  rename Top _ _ _ _ _ _ => T
  (refine zip_loop rfl ⟨_, N4.get hR, rfl, 0, rfl⟩ (vs₂ := ys.toList) ⟨oD, N4.get hD, cD, nD, by rw [Array.toArray_toList]; exact dD⟩ (N4 _ hR).2.1 (N4 _ hD).2.1 F4 N4 (fun m => m (Str.ofString "row") = some (.ref a) ∧ m (Str.ofString "text") = some (.str (S (written x)) t1) ∧ m (Str.ofString "rows") = some (.ref R)) ⟨rfl, rfl, rfl⟩ ?_ ?_)
  · rintro i' v0 v1 m1 h5 tk5 own e0 e1 ⟨j1, j2, j3⟩ F5 N5 stop
    have hi' : i' < as.length := by
      have := (List.getElem?_eq_some_iff.mp e0).1
      simpa using this
    obtain ⟨b', hb'⟩ : ∃ b, as[i']? = some b := ⟨_, List.getElem?_eq_getElem hi'⟩
    rw [List.getElem?_map, hb'] at e0
    cases e0
    obtain ⟨us', z', hm', hu', hz'⟩ := RI.row i' b' hb'
    obtain ⟨t3, ht3⟩ := TA.2 i' z' hz'
    rw [ht3] at e1
    cases e1
    have e : kstB m1 [(Str.ofString "row", .ref a), (Str.ofString "text", .str (S (written x)) t1)] = m1 := funext fun z => kstB_eq (all2 j1 j2) fun _ => rfl
    rw [← e] at F5
    dsimp only [kstB] at F5
    have rz' := ok z' (List.mem_of_getElem? hz')
    exact inner_turn X T hdp hun F5 N5 (mem_app hm) hu (mem_app hm') hu' (by have := rx.1; omega) (by have := rz'.1; omega) fun h6 tk6 m6 F6 N6 km => stop h6 tk6 m6 F6 N6 ⟨by rw [km _ (by decide) (by decide) (by decide) (by decide) (by decide)]; rfl, by rw [km _ (by decide) (by decide) (by decide) (by decide) (by decide)]; rfl, by rw [km _ (by decide) (by decide) (by decide) (by decide) (by decide)]; exact j3⟩
  · rintro h5 tk5 m5 F5 N5 ⟨j1, j2, j3⟩
    dsimp only
    refine wpAny_execs_nil ?_
    exact fin _ _ _ F5 N5 j3
end Mine
end PN3

section PN4
open PySem PySem.W PyProof.Rows PySem.Calls
namespace Mine
theorem offN4 : True := by
  w_top off
  exact True.intro
section
variable {prog : Program} {w : World} {A : Around} {E : Value → Shared → Prop} {s : Shared}
/-- a range is gathered into a list -/
theorem collect_range {Q : List Value → Shared → Prop} {r : Addr} {a b c : Int} {t u v : Tok} {n : Nat} (hh : A.handled = none) (hr : IsRange s.heap r a b c t u v) (hsmall : Builtin.Range.small a b c = true) (hn : Builtin.Range.rangeSize a b c = n) (hlen : n ≤ 2 ^ 24)
    (hQ : ∀ h' tk (acc : Array Value), Keep s.heap h' → ItemsOf (fun i v => ∃ t, v = .int (a + i * c) t) acc n → Q acc.toList { s with heap := h', toks := tk }) :
    wpAny (model prog w) A (collect (.ref r)) Q E s := by
  have key : ∀ R : Result → Shared → Prop, (∀ h' tk acc c', Keep s.heap h' → h'.get? s.heap.objs.size = some { cls := .type "list", dict := none, data := .seq acc c', slots := #[] } → ItemsOf (fun i v => ∃ t, v = .int (a + i * c) t) acc n → R (.ok (.ret (.ref s.heap.objs.size))) { s with heap := h', toks := tk }) →
      codeAny (model prog w) A (.builtin "proto.collect" ⟨[.ref r], []⟩) R s := by
    intro R hR
    refine codeAny_builtin F.entry_proto_collect ?_
    rw [Around.under_plainId F.plain_proto_collect _]
    show wpAny _ A.in1 (newList [] >>= fun l => again (.builtin "list.__iadd__" ⟨[l, .ref r], []⟩)) _ _ s
    refine wpAny_bind (wpAny_newObj_type ?_)
    refine wpAny_pure ⟨plainId_quiet F.plain_list_iadd _, codeAny_builtin F.entry_list_iadd ?_⟩
    rw [Around.under_plainId F.plain_list_iadd _]
    have hS : (s.heap.push { cls := .type "list", data := .seq ([] : List Value).toArray }).get? s.heap.objs.size = some { cls := .type "list", data := .seq ([] : List Value).toArray } := Heap.get?_push_size _ rfl
    exact wpAny_extend_range (R := R) (s := { s with heap := s.heap.push { cls := .type "list", data := .seq ([] : List Value).toArray } }) hh (Heap.get?_push_of_some _ hr) hsmall hn hlen s.heap.objs.size _ 0 hS fun h' tk acc c' hk hS' hacc =>
      hR h' tk acc c' (fun b o e => hk b o (Nat.ne_of_lt (Heap.lt_size e)) (Heap.get?_push_of_some _ e)) hS' hacc
  unfold collect
  refine wpAny_bind (wpAny_runValue (key _ fun h' tk acc c' hk hS' hacc => ?_))
  show wpAny _ A (load s.heap.objs.size >>= _) _ _ _
  refine wpAny_bind (wpAny_load hS' ?_)
  exact wpAny_pure (hQ h' tk acc hk hacc)
end

/-- a key call's end: the text, the frame and the ledger as they stood -/
def KeyEnd (h₀ : Heap) (L : Addr) (m : Str → Option Value) (need : List (Addr × Obj)) (k : Str) (s₁ : Shared) (v : Value) (s₂ : Shared) : Prop :=
  ∃ h' tk t', s₂ = { s₁ with heap := h', toks := tk } ∧ v = .str k t' ∧ Fr h₀ L h' m ∧ News h₀ L h' need
theorem strs_snoc {x : Str} {t : Tok} : ∀ {vs : List Value} {ss : List Str}, StrsAre vs ss → StrsAre (vs ++ [.str x t]) (ss ++ [x])
  | _, _, .nil => .cons x t .nil
  | _, _, .cons y u h => .cons y u (strs_snoc h)
section
variable {prog : Program} {w : World} {A : Around} {E : Value → Shared → Prop} {s : Shared} {h₀ : Heap} {L : Addr} {m : Str → Option Value} {news : List (Addr × Obj)} {a kS : Addr} {vs : List Value} {ss : List Str} {keys : Array Value} {e e1 : Nat} {P : PySem.Fin → Shared → Prop}
/-- the item's place in the sorted list -/
def Sorted (ss : List Str) (vs out : List Value) : Prop := ∃ p : Array Nat, Upto (fun i => (ss.getD i ⟨#[]⟩).cps.toList) vs.length p vs.length ∧ out = p.toList.map fun i => vs.getD i Value.none
theorem sk_tail {st : SortSt} (F : Fr h₀ L s.heap m) (N : News h₀ L s.heap (news ++ [(kS, seqObj "list" keys e), (a, seqObj "list" #[] e1)])) (hnk : ∀ p ∈ news, p.1 ≠ kS) (hna : ∀ p ∈ news, p.1 ≠ a) (hka : kS ≠ a)
    (hks : keys.size ≤ 64) (hz : (arrOf st).size ≤ 64) (hfl : failedOf st = none)
    (h : ∀ h' tk c, Fr h₀ L h' m → News h₀ L h' ((a, seqObj "list" ((arrOf st).map (·.2)) c) :: news) → P (.done (.ret .none)) { s with heap := h', toks := tk }) :
    wpAny (model prog w) A (ksk_tail a false e1 (.ref kS) st) P E s := by
  have nk := N (kS, seqObj "list" keys e) (List.mem_append_right _ (.head _))
  have na := N (a, seqObj "list" #[] e1) (List.mem_append_right _ (.tail _ (.head _)))
  have Nn : News h₀ L s.heap news := fun p hp => N p (List.mem_append_left _ hp)
  have s1 := Heap.SameBut.update s.heap kS (Obj.mapSeq fun _ => (#[] : Array Value))
  have na1 : (s.heap.update kS (Obj.mapSeq fun _ => (#[] : Array Value))).get? a = some (seqObj "list" #[] e1) := (s1.2 a hka.symm).trans na.1
  unfold ksk_tail
  try dsimp only
  simp only [Bool.false_eq_true, if_false]
  have hoz : ((arrOf st).map (·.2)).size ≤ 64 := by rw [Array.size_map]; exact hz
  generalize (arrOf st).map (·.2) = ou at h hoz ⊢
  have s2 := Heap.SameBut.update (s.heap.update kS (Obj.mapSeq fun _ => (#[] : Array Value))) a (Obj.mapSeq fun _ => ou)
  obtain ⟨c2, hc2⟩ : ∃ c2, ((s.heap.update kS (Obj.mapSeq fun _ => (#[] : Array Value))).update a (Obj.mapSeq fun _ => ou)).get? a = some (seqObj "list" ou c2) := ⟨_, get?_update_seq na1 fun _ => ou⟩
  have N2 := ksk_news (ksk_news Nn s1 hnk) s2 hna
  refine wpAny_bind (listUpdate_at nk.1 rfl ?_ (by rw [sizeLine_eq]; omega) (Nat.zero_le _))
  refine wpAny_bind (wpAny_letGo ?_)
  refine wpAny_bind (seqEpoch_at na1 rfl ?_)
  refine wpAny_bind (listUpdate_at na1 rfl ?_ (Nat.zero_le _) (by rw [sizeLine_eq]; omega))
  rw [hfl]
  simp only [bne_self_eq_false, Bool.false_eq_true, if_false]
  refine wpAny_pure (h _ _ c2 (ksk_fr (ksk_fr F s1 nk.2.1 nk.2.2) s2 na.2.1 na.2.2) fun p hp => ?_)
  rcases List.mem_cons.mp hp with rfl | hp
  · exact ⟨hc2, na.2⟩
  · exact N2 p hp
theorem sk_item {keys : Array Value} {vs : List Value} (hsz : keys.size = vs.length) {i : Nat} (hi : i < vs.length) : kas_item (keys.zip vs.toArray) i = (keys.getD i .none, vs.getD i .none) := by
  unfold kas_item
  simp [Array.getD, List.getD, hi, hsz]
theorem sk_asks (hk : StrsAre keys.toList ss) (hsz : keys.size = vs.length) : Asks (fun i => (ss.getD i ⟨#[]⟩).cps.toList) vs.length (kas_cmp prog w A oneType' (keys.zip vs.toArray)) := by
  intro i j C s' hi hj hC
  have hl : ss.length = vs.length := by rw [← hk.length, Array.length_toList, hsz]
  have one : ∀ i, i < vs.length → ∃ t, keys.getD i .none = .str (ss.getD i ⟨#[]⟩) t := by
    intro i hi
    obtain ⟨t, ht⟩ := hk.get i _ (List.getElem?_eq_getElem (by omega))
    refine ⟨t, ?_⟩
    rw [Array.getD_eq_getD_getElem?, ← Array.getElem?_toList, ht]
    simp [List.getD, hl, hi]
  obtain ⟨t, e1⟩ := one i hi
  obtain ⟨u, e2⟩ := one j hj
  unfold kas_cmp
  rw [sk_item hsz hi, sk_item hsz hj, e1, e2]
  exact kas_lt_str hC
theorem sk_end (F : Fr h₀ L s.heap m) (N : News h₀ L s.heap (news ++ [(kS, seqObj "list" keys e), (a, seqObj "list" #[] e1)])) (hnk : ∀ p ∈ news, p.1 ≠ kS) (hna : ∀ p ∈ news, p.1 ≠ a) (hka : kS ≠ a)
    (hk : StrsAre keys.toList ss) (hlen : ss.length = vs.length) (h2 : 2 ≤ vs.length) (h64 : vs.length < 64)
    (h : ∀ h' tk out c, Fr h₀ L h' m → News h₀ L h' ((a, seqObj "list" out c) :: news) → Sorted ss vs out.toList → P (.done (.ret .none)) { s with heap := h', toks := tk }) :
    wpAny (model prog w) A (ksk_end a false vs.toArray e1 (.ref kS) keys) P E s := by
  have hsz : keys.size = vs.length := by
    have h1 := hk.length
    rw [Array.length_toList] at h1
    omega
  have hzs : (keys.zip vs.toArray).size = vs.length := by rw [Array.size_zip, hsz, List.size_toArray, Nat.min_self]
  have hkind : keyKind' keys = pure oneType' := by
    have e : keys = keys.toList.toArray := by simp
    have hl : 2 ≤ keys.toList.length := by rw [Array.length_toList, hsz]; exact h2
    rw [e]
    match hq : keys.toList with
    | [] => rw [hq] at hl; simp at hl
    | [_] => rw [hq] at hl; simp at hl
    | v₁ :: v₂ :: rest => rw [hq] at hk; exact keyKind_strs hk
  have est : SortSt.mk' oneType' (keys.zip vs.toArray) #[] 7 none = kas_st oneType' (keys.zip vs.toArray) (List.toArray (List.range vs.length)) := by
    have e := kas_range (keys.zip vs.toArray)
    rw [hzs] at e
    unfold kas_st
    rw [e]
  unfold ksk_end
  try dsimp only
  simp only [Bool.false_eq_true, if_false]
  rw [if_neg (by rw [List.size_toArray]; omega), if_neg (by rw [List.size_toArray]; omega), hkind]
  refine wpAny_bind (wpAny_pure ?_)
  have run := kas_runs (prog := prog) (w := w) (A := A) (E := E) (κ := oneType') (it := keys.zip vs.toArray) (s := s) (Q := fun _ st' s' => ∃ p : Array Nat, Upto (fun i => (ss.getD i ⟨#[]⟩).cps.toList) vs.length p vs.length ∧ arrOf st' = p.map (kas_item (keys.zip vs.toArray)) ∧ failedOf st' = none ∧ s' = s)
    (G := fun p s' => Upto (fun i => (ss.getD i ⟨#[]⟩).cps.toList) vs.length p vs.length ∧ s' = s) h2 h64 (fun p' st' s' a1 a2 a3 a4 => ⟨p', a4.1, a2, a3, a4.2⟩) (sort_ (sk_asks hk hsz) h2 fun p' U => ⟨U, rfl⟩)
  rw [← est] at run
  refine wpAny_bind (wpAny_mono run ?_ fun _ _ e => e)
  rintro ⟨⟨⟩, st'⟩ s' ⟨p, U, har, hf, rfl⟩
  try dsimp only
  have hpz : (arrOf st').size = vs.length := by rw [har, Array.size_map, U.sz]
  refine sk_tail F N hnk hna hka (by omega) (by omega) hf fun h' tk c F' N' => h h' tk _ c F' N' ⟨p, U, ?_⟩
  rw [har, Array.map_map, Array.toList_map]
  refine List.map_congr_left fun i hi => ?_
  obtain ⟨j, hj, rfl⟩ := List.mem_iff_getElem.mp hi
  have hjn : j < vs.length := by rw [← U.sz]; simpa using hj
  have hlow := U.low j hjn
  have e : p.getD j 0 = p.toList[j] := by
    rw [Array.getD_eq_getD_getElem?, ← Array.getElem?_toList, List.getElem?_eq_getElem hj]; rfl
  rw [e] at hlow
  show (kas_item (keys.zip vs.toArray) _).2 = _
  rw [sk_item hsz hlow]
theorem sk_rest {f : Value} (F : Fr h₀ L s.heap m) (N : News h₀ L s.heap (news ++ [(kS, seqObj "list" #[] 0), (a, seqObj "list" #[] e1)])) (hka : kS ≠ a) (hnk : ∀ p ∈ news, p.1 ≠ kS) (hna : ∀ p ∈ news, p.1 ≠ a)
    (hlen : ss.length = vs.length) (h2 : 2 ≤ vs.length) (h64 : vs.length < 64)
    (turn : ∀ (i : Nat) (v : Value) (k : Str), vs[i]? = some v → ss[i]? = some k → ∀ (h : Heap) (tk : Nat) (own : List (Addr × Obj)), Fr h₀ L h m → News h₀ L h (news ++ own) →
      wpAny (model prog w) A (call f [v]) (KeyEnd h₀ L m (news ++ own) k { s with heap := h, toks := tk }) (fun _ _ => False) { s with heap := h, toks := tk })
    (h : ∀ h' tk out c, Fr h₀ L h' m → News h₀ L h' ((a, seqObj "list" out c) :: news) → Sorted ss vs out.toList → P (.done (.ret .none)) { s with heap := h', toks := tk }) :
    wpAny (model prog w) A (ksk_rest a f false vs.toArray e1 (.ref kS)) P E s := by
  unfold ksk_rest
  refine wpAny_bind (wpAny_rule ?_)
  first
    | rw [List.forIn_toArray]
    | (rw [← Array.forIn_toList]; simp only [List.toList_toArray])
    | rw [← Array.forIn_toList]
  refine wpAny_bind (ksk_fold (fun i s' => ∃ h' tk kA e, s' = { s with heap := h', toks := tk } ∧ Fr h₀ L h' m ∧ News h₀ L h' (news ++ [(kS, seqObj "list" kA e), (a, seqObj "list" #[] e1)]) ∧ StrsAre kA.toList (ss.take i)) vs 0 s
    ⟨s.heap, s.toks, #[], 0, rfl, F, N, by simpa using StrsAre.nil⟩ ?step ?done)
  case step =>
    rintro j x s' hx ⟨h', tk, kA, e, rfl, F', N', hk⟩
    simp only [Nat.zero_add] at hk ⊢
    have hj : j < vs.length := (List.getElem?_eq_some_iff.mp hx).1
    obtain ⟨k, hkj⟩ : ∃ k, ss[j]? = some k := ⟨_, List.getElem?_eq_getElem (by omega)⟩
    have hz : kA.size ≤ vs.length := by
      have h1 := hk.length
      rw [Array.length_toList, List.length_take] at h1
      omega
    refine wpAny_bind (wpAny_attempt (wpAny_mono (turn j x k hx hkj h' tk _ F' N') (fun v s'' he => ?_) fun _ _ hF => hF.elim))
    obtain ⟨g, tk2, t2, rfl, rfl, F2, N2⟩ := he
    try dsimp only
    have nk := N2 (kS, seqObj "list" kA e) (List.mem_append_right _ (.head _))
    have na := N2 (a, seqObj "list" #[] e1) (List.mem_append_right _ (.tail _ (.head _)))
    have s1 := Heap.SameBut.update g kS (Obj.mapSeq (·.push (.str k t2)))
    obtain ⟨c2, hc2⟩ : ∃ c2, (g.update kS (Obj.mapSeq (·.push (.str k t2)))).get? kS = some (seqObj "list" (kA.push (.str k t2)) c2) := ⟨_, get?_update_seq nk.1 (·.push (.str k t2))⟩
    have ek : ss.take (j + 1) = ss.take j ++ [k] := by rw [List.take_add_one, hkj]; simp
    have ea : (kA.push (Value.str k t2)).toList = kA.toList ++ [Value.str k t2] := by simp
    refine wpAny_bind (listUpdate_at nk.1 rfl ?_ (by rw [sizeLine_eq]; omega) (Nat.le_trans (Nat.le_of_eq (Array.size_push ..)) (by rw [sizeLine_eq]; omega)))
    refine wpAny_pure ⟨rfl, _, _, kA.push (.str k t2), c2, rfl, ksk_fr F2 s1 nk.2.1 nk.2.2, fun p hp => ?_, by rw [ea, ek]; exact strs_snoc hk⟩
    rcases List.mem_append.mp hp with hp | hp
    · exact ksk_news (fun q hq => N2 q (List.mem_append_left _ hq)) s1 hnk p hp
    · rcases List.mem_cons.mp hp with rfl | hp
      · exact ⟨hc2, nk.2⟩
      · rw [List.mem_singleton.mp hp]
        exact ⟨(s1.2 a hka.symm).trans na.1, na.2⟩
  case done =>
    rintro s' ⟨h', tk, kA, e, rfl, F', N', hk⟩
    have hk' : StrsAre kA.toList ss := by
      have e3 : ss.take (0 + vs.length) = ss := List.take_of_length_le (by omega)
      rw [e3] at hk
      exact hk
    have nk := N' (kS, seqObj "list" kA e) (List.mem_append_right _ (.head _))
    try dsimp only
    refine wpAny_bind (listItems_at nk.1 rfl ?_)
    exact sk_end F' N' hnk hna hka hk' hlen h2 h64 fun h3 tk3 out c F3 N3 k3 => h h3 tk3 out c F3 N3 k3
theorem sk_sort {f : Value} {n : Nat} (F : Fr h₀ L s.heap m) (N : News h₀ L s.heap news) (ho : s.heap.get? a = some (seqObj "list" vs.toArray n)) (haL : a ≠ L) (ha0 : h₀.get? a = none) (hna : ∀ p ∈ news, p.1 ≠ a)
    (hlen : ss.length = vs.length) (h2 : 2 ≤ vs.length) (h64 : vs.length < 64)
    (turn : ∀ (i : Nat) (v : Value) (k : Str), vs[i]? = some v → ss[i]? = some k → ∀ (h : Heap) (tk : Nat) (own : List (Addr × Obj)), Fr h₀ L h m → News h₀ L h (news ++ own) →
      wpAny (model prog w) A (call f [v]) (KeyEnd h₀ L m (news ++ own) k { s with heap := h, toks := tk }) (fun _ _ => False) { s with heap := h, toks := tk })
    (h : ∀ h' tk out c, Fr h₀ L h' m → News h₀ L h' ((a, seqObj "list" out c) :: news) → Sorted ss vs out.toList → P (.done (.ret .none)) { s with heap := h', toks := tk }) :
    wpAny (model prog w) A (ksk_tree a f false) P E s := by
  have ha : a < s.heap.objs.size := Heap.lt_size ho
  have s1 := Heap.SameBut.update s.heap a (Obj.mapSeq fun _ => (#[] : Array Value))
  obtain ⟨e1, ho1⟩ : ∃ e1, (s.heap.update a (Obj.mapSeq fun _ => (#[] : Array Value))).get? a = some (seqObj "list" #[] e1) := ⟨_, get?_update_seq ho fun _ => #[]⟩
  have F1 := ksk_fr F s1 haL ha0
  have N1 := ksk_news N s1 hna
  have hkS : ((s.heap.update a (Obj.mapSeq fun _ => (#[] : Array Value))).push (seqObj "tuple" vs.toArray 0)).objs.size = s.heap.objs.size + 1 := by rw [size_push', Heap.size_update]
  have hLk : L < ((s.heap.update a (Obj.mapSeq fun _ => (#[] : Array Value))).push (seqObj "tuple" vs.toArray 0)).objs.size := (F1.push _).ns.lt
  unfold ksk_tree
  refine wpAny_bind (listItems_at ho rfl ?_)
  refine wpAny_bind (listUpdate_at ho rfl ?_ (by rw [List.size_toArray, sizeLine_eq]; omega) (Nat.zero_le _))
  refine wpAny_bind (seqEpoch_at ho1 rfl ?_)
  refine wpAny_bind (wpAny_newTuple ?_ (by show vs.length ≤ _; rw [sizeLine_eq]; omega))
  refine wpAny_bind (wpAny_newList ?_ (Nat.zero_le _))
  refine wpAny_holding ?_
  refine sk_rest (s := { s with heap := ((s.heap.update a (Obj.mapSeq fun _ => (#[] : Array Value))).push (seqObj "tuple" vs.toArray 0)).push (seqObj "list" #[] 0) }) (kS := ((s.heap.update a (Obj.mapSeq fun _ => (#[] : Array Value))).push (seqObj "tuple" vs.toArray 0)).objs.size)
    ((F1.push _).push _) (fun p hp => ?_) (by rw [hkS]; exact Nat.ne_of_gt (Nat.lt_succ_of_lt ha)) (fun p hp => by rw [hkS]; exact Nat.ne_of_lt (Nat.lt_succ_of_lt (Heap.lt_size (N p hp).1))) hna hlen h2 h64 turn h
  rcases List.mem_append.mp hp with hp | hp
  · exact ⟨Heap.get?_push_of_some _ (Heap.get?_push_of_some _ (N1 p hp).1), (N1 p hp).2⟩
  · rcases List.mem_cons.mp hp with rfl | hp
    · exact ⟨Heap.get?_push_size _ rfl, Nat.ne_of_gt hLk, Heap.get?_none_of_le (Nat.le_trans F.above (Nat.le_of_lt hLk))⟩
    · rw [List.mem_singleton.mp hp]
      exact ⟨Heap.get?_push_of_some _ (Heap.get?_push_of_some _ ho1), haL, ha0⟩
end
section
variable {prog : Program} {w : World} {A : Around} {E : Value → Shared → Prop} {s : Shared} {h₀ : Heap} {L r f : Addr} {m : Str → Option Value} {news : List (Addr × Obj)} {ss : List Str} {Q : Value → Shared → Prop} {c : Int} {t u v : Tok} {n : Nat}
/-- sorted(range(n), key=f) where f's call gives the place's text -/
theorem sorted_range (hh : A.handled = none) (F : Fr h₀ L s.heap m) (N : News h₀ L s.heap news) (hr : IsRange s.heap r 0 c 1 t u v) (hsmall : Builtin.Range.small 0 c 1 = true) (hn : Builtin.Range.rangeSize 0 c 1 = n) (hlen : ss.length = n) (h2 : 2 ≤ n) (h64 : n < 64)
    (turn : ∀ (i : Nat) (t : Tok) (k : Str), i < n → ss[i]? = some k → ∀ (h : Heap) (tk : Nat) (own : List (Addr × Obj)), Fr h₀ L h m → News h₀ L h (news ++ own) →
      wpAny (model prog w) A.in1.in1 (call (.ref f) [.int i t]) (KeyEnd h₀ L m (news ++ own) k { s with heap := h, toks := tk }) (fun _ _ => False) { s with heap := h, toks := tk })
    (h : ∀ D h' tk (out : Array Value) c (p : Array Nat), Fr h₀ L h' m → News h₀ L h' ((D, seqObj "list" out c) :: news) → Upto (fun i => (ss.getD i ⟨#[]⟩).cps.toList) n p n → (∀ i, i < n → ∃ t, out[i]? = some (.int (p.getD i 0 : Nat) t)) → out.size = n → Q (.ref D) { s with heap := h', toks := tk }) :
    wpAny (model prog w) A (call (.builtin "sorted") [.ref r] [(Str.ofString "key", .ref f)]) Q E s := by
  refine call_function_entry_kw kind_sorted plain_sorted entry_sorted (ksk_s1 _ _) ?_
  unfold Builtin.«sorted»
  refine wpAny_bind (m := checkCount "sorted" 1 1 _) (wpAny_pure ?_)
  refine wpAny_bind (collect_range hh hr hsmall hn (by omega) fun h1 tk1 acc hk hacc => ?_)
  have hz : acc.toList.length = n := by rw [Array.length_toList]; exact hacc.1
  have F1 := Frkept F hk
  have N1 := Newskept N hk
  refine wpAny_bind (wpAny_newList ?_ (by rw [sizeLine_eq]; omega))
  have hoL : (h1.push (seqObj "list" acc.toList.toArray 0)).get? h1.objs.size = some (seqObj "list" acc.toList.toArray 0) := Heap.get?_push_size _ rfl
  have keep : ∀ b o, h1.get? b = some o → (h1.push (seqObj "list" acc.toList.toArray 0)).get? b = some o := fun b o q => Heap.get?_push_of_some _ q
  have hL : L < h1.objs.size := F1.ns.lt
  refine wpAny_bind (wpAny_holding (wpAny_call_entry_kw slot_list_sort ⟨_, hoL, rfl⟩ entry_list_sort ?body (ksk_l1 _ _)))
  case body =>
    show wpAny (model prog w) A.in1.in1 (Builtin.«list.sort» ⟨[.ref h1.objs.size], [(Str.ofString "key", .ref f)]⟩) _ _ _
    rw [ksk_t1]
    refine sk_sort (ss := ss) (s := { s with heap := h1.push (seqObj "list" acc.toList.toArray 0), toks := tk1 }) (vs := acc.toList)
      (F1.kept keep) (N1.grown keep) hoL (Nat.ne_of_gt hL) (Heap.get?_none_of_le (Nat.le_trans F1.above (Nat.le_of_lt hL)))
      (fun p hp => Nat.ne_of_lt (Heap.lt_size (N1 p hp).1)) (by omega) (by omega) (by omega) (fun i v' k hv hk' h2 tk2 own F2 N2 => ?_) fun h2 tk2 out c2 F2 N2 k2 => ⟨_, rfl, ?_⟩
    · obtain ⟨t', rfl⟩ := hacc.2 i v' (by simpa using hv)
      have hi := (List.getElem?_eq_some_iff.mp hv).1
      have e0 : (0 : Int) + (i : Int) * 1 = (i : Int) := by omega
      rw [e0]
      exact turn i t' k (by omega) hk' h2 tk2 own F2 N2
    · obtain ⟨p, U, ho⟩ := k2
      rw [hz] at U
      refine wpAny_pure ⟨_, rfl, h _ h2 tk2 out c2 p F2 N2 U (fun i hi => ?_) ?_⟩
      · have hlow := U.low i hi
        have hpi : p.toList[i]? = some (p.getD i 0) := by
          rw [Array.getD_eq_getD_getElem?, ← Array.getElem?_toList, List.getElem?_eq_getElem (by rw [Array.length_toList, U.sz]; exact hi)]; rfl
        have e2 : out[i]? = some (acc.toList.getD (p.getD i 0) Value.none) := by
          rw [← Array.getElem?_toList, ho, List.getElem?_map, hpi]; rfl
        obtain ⟨t', e3⟩ := hacc.2 (p.getD i 0) (acc.toList.getD (p.getD i 0) Value.none) (by
          rw [← Array.getElem?_toList, List.getD_eq_getElem?_getD, List.getElem?_eq_getElem (by omega)]; rfl)
        refine ⟨t', ?_⟩
        rw [e2, e3]
        have e0 : (0 : Int) + ((p.getD i 0 : Nat) : Int) * 1 = ((p.getD i 0 : Nat) : Int) := by omega
        rw [e0]
      · rw [← Array.length_toList, ho, List.length_map, Array.length_toList, U.sz]
end
end Mine
end PN4

section PN5
open PySem PySem.W PyProof.Rows PySem.Calls
namespace Mine
theorem offN5 : True := by
  w_top off
  exact True.intro
theorem outer_loop {w : World} {dp un : Nat} {fr : Option (List Env)} {gd : Option (List Code)} {s : Shared} {mg mb : Str → Option Value} {p : Program} {loose : List Str} {mean : ExcName → Option Value} {E : Value → Shared → Prop} {g : Heap} {L fa : Addr} {cd : Value} {Q : Flow → Shared → Prop} {m₀ : Str → Option Value} {news : List (Addr × Obj)} {zs : List (List Int)} {as : List Addr} {R D r : Addr} {oc oD : Obj} {ys : Array Value} {nD : Nat} {t u v : Tok}
    (X : (hd.heap_39 w.params).In g) (T : Top p loose mean mg mb g) (hdp : dp + 4 < recursionLimit) (hun : un + 300 < cLine) (hE : PassesOwn (model prog0 w) (Ar dp un fr gd) (lawEnv L fa cd) E)
    (hr : IsRange s.heap r 0 7 1 t u v) (F : Fr g L s.heap m₀) (N : News g L s.heap news) (RI : RowsIn news R zs as) (hz7 : zs.length = 7) (ok : ∀ z ∈ zs, RowOk z)
    (hc : (L + 1, oc) ∈ news) (hoc : oc.data = .cell (some (.ref D))) (hD : (D, oD) ∈ news) (cD : oD.cls = .type "list") (dD : oD.data = .seq ys nD) (TA : TextsAre zs ys.toList) (hm : m₀ (Str.ofString "rows") = some (.ref R))
    (done : ∀ m₁ h tk, m₁ (Str.ofString "rows") = some (.ref R) → Fr g L h m₁ → News g L h news → Q .next { s with heap := h, toks := tk }) :
    wpAny (model prog0 w) (Ar dp un fr gd) (pyIter (.ref r)) (fun it s₂ => LoopAtV prog0 w (Ar dp un fr gd) g (lawEnv L fa cd) (Str.ofString "k") outerBody Q E it s₂) E s := by
  refine loop_range (n := 7) rfl hr (by decide) (by decide) F N (fun _ m => m (Str.ofString "rows") = some (.ref R)) hm ?_ done
  intro i t m₁ h tk own hi hJ F₁ N₁
  have e : kstB m₁ [(Str.ofString "rows", .ref R)] = m₁ := funext fun z => kstB_eq (all1 hJ) fun _ => rfl
  have e0 : (0 : Int) + (i : Int) = (i : Int) := by omega
  rw [← e, e0] at F₁
  dsimp only [kstB] at F₁
  exact outer_turn X T hdp hun hE F₁ N₁ (RI.mono fun _ hp => mem_app hp) hz7 ok hi (mem_app hc) hoc (mem_app hD) cD dD TA fun h tk m' F' N' hm' => InvEnd.intro F' N' (fun _ hp => hp) hm'
end Mine
end PN5

section PN6
open PySem PySem.W PyProof.Rows PySem.Calls
namespace Mine
theorem offN6 : True := by
  w_top off
  exact True.intro
theorem fillN6 : PySem.Challenge.rw_pg0049_01 = PySem.Challenge.rw_pg0049_01 ∧ hd.heap_39 = hd.heap_39 := by
  k_fill
  exact ⟨rfl, rfl⟩

local macro_rules | `(tactic| walk_at "mine mem") => `(tactic| first | assumption | exact List.mem_cons_self | (refine List.mem_cons_of_mem _ ?_; walk_at "mine mem") | (refine mem_app ?_; walk_at "mine mem"))
local macro_rules | `(tactic| walk_at "mine list") => `(tactic| ((rename News _ _ _ _ => N9); first | assumption | exact ⟨_, N9.get (by walk_at "mine mem"), rfl, _, rfl⟩ | exact ⟨_, N9.get (by walk_at "mine mem"), by assumption, _, by assumption⟩))
local macro_rules | `(tactic| walk_at "subscriptTail") => `(tactic| (k_dflt (refine' item_At ?a ?b ?_ ?e; (case a => walk_at "mine list"); (case b => assumption); (case e => with_unfolding_all rfl); (try dsimp only))))
local macro_rules | `(tactic| walk_at "call ref cons nil") => `(tactic| (k_dflt ((rename Fr _ _ _ _ => F9); (rename News _ _ _ _ => N9); (rename Frag.In _ _ => X9); (rename Top _ _ _ _ _ _ => T9); (refine order_c (X9.keeps F9.keep) (T9.keeps F9.keep) (by first | omega | (dsimp only [Around.deeper]; omega)) (by first | omega | (dsimp only [Around.deeper]; omega)) ⟨_, N9.get (by walk_at "mine mem"), rfl, 0, rfl⟩ (by assumption) ⟨_, N9.get (by walk_at "mine mem"), rfl, 0, rfl⟩ (by assumption) (by omega) (by omega) ?_); (intro _ h2 _ k2); (have F8 := Frkept F9 k2); (have N8 := Newskept N9 k2); (try dsimp only))))

theorem last_turn {w : World} {dp un : Nat} {fr : Option (List Env)} {gd : Option (List Code)} {s : Shared} {mg mb : Str → Option Value} {p : Program} {loose : List Str} {mean : ExcName → Option Value} {E : Value → Shared → Prop} {g : Heap} {L fa : Addr} {cd : Value} {Q : Flow → Shared → Prop} {m₁ : Str → Option Value} {news : List (Addr × Obj)} {zs : List (List Int)} {as : List Addr} {R P : Addr} {oP : Obj} {out : Array Value} {nP i : Nat} {t : Tok} {q : Array Nat}
    (X : (hd.heap_39 w.params).In g) (T : Top p loose mean mg mb g) (hdp : dp + 4 < recursionLimit) (hun : un + 300 < cLine)
    (F : Fr g L s.heap (fun y => if y = Str.ofString "k" then some (.int (1 + (i : Int)) t) else if y = Str.ofString "rows" then some (.ref R) else if y = Str.ofString "places" then some (.ref P) else m₁ y))
    (N : News g L s.heap news) (RI : RowsIn news R zs as) (hz7 : zs.length = 7) (ok : ∀ z ∈ zs, RowOk z) (hi : i < 6)
    (hP : (P, oP) ∈ news) (cP : oP.cls = .type "list") (dP : oP.data = .seq out nP) (U : Upto (fun i => ((zs.map fun z => S (written z)).getD i ⟨#[]⟩).cps.toList) 7 q 7) (hout : ∀ i, i < 7 → ∃ t, out[i]? = some (.int (q.getD i 0 : Nat) t)) (ho7 : out.size = 7)
    (fin : ∀ h tk m', Fr g L h m' → News g L h news → m' (Str.ofString "rows") = some (.ref R) → m' (Str.ofString "places") = some (.ref P) → Q .next { s with heap := h, toks := tk }) :
    wpAny (model prog0 w) (Ar dp un fr gd) (execs lastBody (lawEnv L fa cd)) Q E s := by
  have ha7 : as.length = 7 := by rw [RI.len, hz7]
  have hq := U.ord i (i + 1) (by omega) (by omega)
  have l0 := U.low i (by omega)
  have l1 := U.low (i + 1) (by omega)
  obtain ⟨t0, ht0⟩ := hout i (by omega)
  obtain ⟨t1, ht1⟩ := hout (i + 1) (by omega)
  generalize q.getD i 0 = c at *
  generalize q.getD (i + 1) 0 = d at *
  obtain ⟨x, hx⟩ : ∃ x, zs[c]? = some x := ⟨_, List.getElem?_eq_getElem (by omega)⟩
  obtain ⟨y, hy⟩ : ∃ y, zs[d]? = some y := ⟨_, List.getElem?_eq_getElem (by omega)⟩
  obtain ⟨a, ha⟩ : ∃ a, as[c]? = some a := ⟨_, List.getElem?_eq_getElem (by omega)⟩
  obtain ⟨b, hb⟩ : ∃ b, as[d]? = some b := ⟨_, List.getElem?_eq_getElem (by omega)⟩
  obtain ⟨us, x', hm, hu, hx'⟩ := RI.row c a ha
  rw [hx] at hx'
  cases hx'
  obtain ⟨vs, y', hn, hv, hy'⟩ := RI.row d b hb
  rw [hy] at hy'
  cases hy'
  have rx : x.length ≤ 1000 := by have := (ok x (List.mem_of_getElem? hx)).1; omega
  have ry : y.length ≤ 1000 := by have := (ok y (List.mem_of_getElem? hy)).1; omega
  have k1 : ((zs.map fun z => S (written z)).getD c ⟨#[]⟩).cps.toList = written x := by rw [List.getD_eq_getElem?_getD, List.getElem?_map, hx]; rfl
  have k2 : ((zs.map fun z => S (written z)).getD d ⟨#[]⟩).cps.toList = written y := by rw [List.getD_eq_getElem?_getD, List.getElem?_map, hy]; rfl
  unfold Rk at hq
  dsimp only at hq
  rw [k1, k2, lt_ord, eq_ord] at hq
  have A1 : At out (1 + (i : Int) - 1) (.int (c : Nat) t0) := ⟨by omega, i, ht0, .inl (by omega)⟩
  have A2 : At out (1 + (i : Int)) (.int (d : Nat) t1) := ⟨by omega, i + 1, ht1, .inl (by omega)⟩
  have A3 : At (as.map Value.ref).toArray (c : Int) (.ref a) := ⟨by simp [ha7], c, by simp [ha], .inl rfl⟩
  have A4 : At (as.map Value.ref).toArray (d : Int) (.ref b) := ⟨by simp [ha7], d, by simp [hb], .inl rfl⟩
  have hR := RI.rows
  clear k1 k2 U ht0 ht1 hx hy ha hb
  unfold lawEnv at *
  generalize hbd : lastBody = bd
  have hbd2 := hbd.symm
  conv at hbd2 => rhs; whnf
  subst hbd2
  clear hbd
  generalize hsc : scopeOf lawStmt = sc at *
  have hsc2 := hsc.symm
  conv at hsc2 => rhs; whnf
  subst hsc2
  clear hsc
  refine wpAny_execs_cons ?_
  (walk_at "mine steps")
  all_goals (
    rename Fr _ _ _ _ => FZ
    rename News _ _ _ _ => NZ
    exact fin _ _ _ FZ NZ rfl rfl)
theorem last_loop {w : World} {dp un : Nat} {fr : Option (List Env)} {gd : Option (List Code)} {s : Shared} {mg mb : Str → Option Value} {p : Program} {loose : List Str} {mean : ExcName → Option Value} {E : Value → Shared → Prop} {g : Heap} {L fa : Addr} {cd : Value} {Q : Flow → Shared → Prop} {m₀ : Str → Option Value} {news : List (Addr × Obj)} {zs : List (List Int)} {as : List Addr} {R P r : Addr} {oP : Obj} {out : Array Value} {nP : Nat} {t u v : Tok} {q : Array Nat}
    (X : (hd.heap_39 w.params).In g) (T : Top p loose mean mg mb g) (hdp : dp + 4 < recursionLimit) (hun : un + 300 < cLine)
    (hr : IsRange s.heap r 1 7 1 t u v) (F : Fr g L s.heap m₀) (N : News g L s.heap news) (RI : RowsIn news R zs as) (hz7 : zs.length = 7) (ok : ∀ z ∈ zs, RowOk z)
    (hP : (P, oP) ∈ news) (cP : oP.cls = .type "list") (dP : oP.data = .seq out nP) (U : Upto (fun i => ((zs.map fun z => S (written z)).getD i ⟨#[]⟩).cps.toList) 7 q 7) (hout : ∀ i, i < 7 → ∃ t, out[i]? = some (.int (q.getD i 0 : Nat) t)) (ho7 : out.size = 7)
    (hm : m₀ (Str.ofString "rows") = some (.ref R)) (hm2 : m₀ (Str.ofString "places") = some (.ref P))
    (done : ∀ m₁ h tk, Fr g L h m₁ → News g L h news → Q .next { s with heap := h, toks := tk }) :
    wpAny (model prog0 w) (Ar dp un fr gd) (pyIter (.ref r)) (fun it s₂ => LoopAtV prog0 w (Ar dp un fr gd) g (lawEnv L fa cd) (Str.ofString "k") lastBody Q E it s₂) E s := by
  refine loop_range (n := 6) rfl hr (by decide) (by decide) F N (fun _ m => m (Str.ofString "rows") = some (.ref R) ∧ m (Str.ofString "places") = some (.ref P)) ⟨hm, hm2⟩ ?_ fun m₁ h tk _ F' N' => done m₁ h tk F' N'
  rintro i t m₁ h tk own hi ⟨j1, j2⟩ F₁ N₁
  have e : kstB m₁ [(Str.ofString "rows", .ref R), (Str.ofString "places", .ref P)] = m₁ := funext fun z => kstB_eq (all2 j1 j2) fun _ => rfl
  rw [← e] at F₁
  dsimp only [kstB] at F₁
  exact last_turn X T hdp hun F₁ N₁ (RI.mono fun _ hp => mem_app hp) hz7 ok hi (mem_app hP) cP dP U hout ho7 fun h tk m' F' N' h1 h2 => InvEnd.intro F' N' (fun _ hp => hp) ⟨h1, h2⟩
end Mine
end PN6

section PN7
open PySem PySem.W PyProof.Rows PySem.Calls
namespace Mine
theorem offN7 : True := by
  w_top off
  exact True.intro
theorem fillN7 : PySem.Challenge.rw_pg0049_01 = PySem.Challenge.rw_pg0049_01 ∧ hd.heap_39 = hd.heap_39 := by
  k_fill
  exact ⟨rfl, rfl⟩

theorem len_seven {prog : Program} {w : World} {A : Around} {E : Value → Shared → Prop} {s : Shared} {l : Addr} {items : Array Value} {Q : Value → Shared → Prop} (hl : s.heap.IsList l items) (h7 : items.size = 7) (h : Q (.int 7 (s.toks + 1)) { s with toks := s.toks + 1 + 1 }) :
    wpAny (model prog w) A (call (.builtin "len") [.ref l]) Q E s :=
  len_list hl (by omega) (by rw [h7]; exact h)
/-- the range object goes onto the ledger -/
theorem news_range {g h h' : Heap} {L : Addr} {news : List (Addr × Obj)} {m : Str → Option Value} {o : Obj} (F : Fr g L h m) (N : News g L h news) (N' : News g L h' news) (hr : h'.get? h.objs.size = some o) :
    News g L h' ((h.objs.size, o) :: news) ∧ ∀ p ∈ news, @Ne Nat h.objs.size p.1 := by
  have hL : L < h.objs.size := F.ns.lt
  refine ⟨fun p hp => ?_, fun p hp => Nat.ne_of_gt (Heap.lt_size (N p hp).1)⟩
  rcases List.mem_cons.mp hp with rfl | hp
  · exact ⟨hr, Nat.ne_of_gt hL, Heap.get?_none_of_le (Nat.le_trans F.above (Nat.le_of_lt hL))⟩
  · exact N' p hp
theorem news_swap {g h : Heap} {L : Addr} {a b : Addr × Obj} {rest : List (Addr × Obj)} (N : News g L h (a :: b :: rest)) : News g L h (b :: a :: rest) := fun p hp => N p (by
  simp only [List.mem_cons] at hp ⊢
  rcases hp with h | h | h
  · exact .inr (.inl h)
  · exact .inl h
  · exact .inr (.inr h))
local macro_rules | `(tactic| walk_at "mine mem") => `(tactic| first | assumption | exact List.mem_cons_self | (refine List.mem_cons_of_mem _ ?_; walk_at "mine mem") | (refine List.mem_append_left _ ?_; walk_at "mine mem") | (refine mem_app ?_; walk_at "mine mem"))
local macro_rules | `(tactic| walk_at "mine list") => `(tactic| ((rename News _ _ _ _ => N9); first | assumption | exact ⟨_, N9.get (by walk_at "mine mem"), rfl, _, rfl⟩ | exact ⟨_, N9.get (by walk_at "mine mem"), by assumption, _, by assumption⟩))
local macro_rules | `(tactic| walk_at "subscriptTail") => `(tactic| (k_dflt (refine' item_At ?a ?b ?_ ?e; (case a => walk_at "mine list"); (case b => assumption); (case e => with_unfolding_all rfl); (try dsimp only))))
local macro_rules | `(tactic| walk_at "call builtin:len") => `(tactic| (k_dflt (refine' len_seven ?a ?b ?_; (case a => walk_at "mine list"); (case b => assumption))))

local macro_rules | `(tactic| walk_at "eval Name") => `(tactic| ((with_reducible show wpAny _ _ (PySem.eval (PySem.Expr.Name (Str.ofString "texts") _) _) _ _ _); (rename News _ _ _ _ => N9); k_dflt (refine' nameX_F N9 ?c ?m ?d ?_ ?a ?b; (case a => rfl); (case b => rfl); (case c => rfl); (case m => walk_at "mine mem"); (case d => assumption))))
local macro_rules | `(tactic| walk_at "call ref cons nil") => `(tactic| (k_dflt ((rename Fr _ _ _ _ => F9); (rename News _ _ _ _ => N9); (rename Frag.In _ _ => X9); (rename Top _ _ _ _ _ _ => T9); (refine strxfrm_c (X9.keeps F9.keep) (T9.keeps F9.keep) (by first | omega | decide | (dsimp only [Around.deeper]; omega)) (by first | omega | decide | (dsimp only [Around.deeper]; omega))  ?_); (intro _ h2 _ k2); (have F8 := Frkept F9 k2); (have N8 := Newskept N9 k2); (try dsimp only))))

local macro_rules | `(tactic| walk_at "law stmt2") => `(tactic| repeat' (first | ((fail_if_success (with_reducible show wpAny _ _ (PySem.execs _ _) _ _ _)); (fail_if_success (with_reducible show wpAny _ _ (PySem.pyIter _) _ _ _)); (fail_if_success (with_reducible show wpAny _ _ (PySem.call (Value.ref _) _) _ _ _)); (fail_if_success (with_reducible show wpAny _ _ (PySem.call (Value.builtin "sorted") _ _) _ _ _)); (fail_if_success (with_reducible show wpAny _ _ (PySem.eval (PySem.Expr.Lambda _ _ _ _) _) _ _ _)); walk_at "mine step")))
/-- the end of the law: the places sorted by text, their order, True -/
theorem law_tail {w : World} {s : Shared} {mg mb : Str → Option Value} {p : Program} {loose : List Str} {mean : ExcName → Option Value} {E : Value → Shared → Prop} {g : Heap} {L fa : Addr} {Q : Flow → Shared → Prop} {m₁ : Str → Option Value} {rest : List (Addr × Obj)} {zs : List (List Int)} {as : List Addr} {R D : Addr} {oc oD : Obj} {ys : Array Value} {nD : Nat}
    (X : (hd.heap_39 w.params).In g) (T : Top p loose mean mg mb g) (B : Below callerA g [] g) (C : CodeHd g 142 140) (hE : PassesOwn (model prog0 w) (callerA.deeper (lawEnv L fa (.ref 142))) (lawEnv L fa (.ref 142)) E)
    (F : Fr g L s.heap m₁) (N : News g L s.heap ((140, tabObj #[]) :: rest)) (hne : ∀ p ∈ rest, p.1 ≠ 140) (hm : m₁ (Str.ofString "rows") = some (.ref R)) (RI : RowsIn rest R zs as) (hz7 : zs.length = 7) (ok : ∀ z ∈ zs, RowOk z)
    (hc : (L + 1, oc) ∈ rest) (hoc : oc.data = .cell (some (.ref D))) (hD : (D, oD) ∈ rest) (cD : oD.cls = .type "list") (dD : oD.data = .seq ys nD) (TA : TextsAre zs ys.toList)
    (fin : ∀ h tk m' news' ps, Fr g L h m' → News g L h news' → (140, tabObj ps) ∈ news' → Q (.ret (.bool true)) { s with heap := h, toks := tk }) :
    wpAny (model prog0 w) (callerA.deeper (lawEnv L fa (.ref 142))) (execs [lawAt 4, lawAt 5, lawAt 6] (lawEnv L fa (.ref 142))) Q E s := by
  have e : kstB m₁ [(Str.ofString "rows", .ref R)] = m₁ := funext fun z => kstB_eq (all1 hm) fun _ => rfl
  rw [← e] at F
  dsimp only [kstB] at F
  clear e hm
  have ha7 : (as.map Value.ref).toArray.size = 7 := by simp [RI.len, hz7]
  have hR := RI.rows
  unfold lawEnv at *
  generalize h4 : lawAt 4 = b4
  generalize h5 : lawAt 5 = b5
  generalize h6 : lawAt 6 = b6
  have h4 := h4.symm
  have h5 := h5.symm
  have h6 := h6.symm
  conv at h4 => rhs; whnf
  conv at h5 => rhs; whnf
  conv at h6 => rhs; whnf
  subst h4 h5 h6
  generalize hsc : scopeOf lawStmt = sc at *
  have hsc2 := hsc.symm
  conv at hsc2 => rhs; whnf
  subst hsc2
  clear hsc
  refine wpAny_execs_cons ?_
  (walk_at "law stmt2")
  rename IsRange _ _ _ _ _ _ _ _ => IR2
  rename News _ _ _ _ => N5
  rename Fr _ _ _ _ => F5
  revert N5 F5
  rename News _ _ _ _ => N4
  rename Fr _ _ _ _ => F4
  rename Frag.In _ _ => X
  rename Top _ _ _ _ _ _ => T
  intro F5 N5
  dsimp only at IR2
  obtain ⟨N6, nn2⟩ := news_range F4 N4 N5 IR2
  have hrg := nn2 _ (List.Mem.head _)
  replace N6 := news_swap N6
  clear N4 N5 F4 nn2
  generalize s.heap.objs.size = rg at *
  refine kla_eval rfl ?_
  (refine kla_nest F5 N6 T C rfl (UpdF.head ?_) (by kn_triples) (by kn_among) rfl ?_)
  · intro q hq
    rcases List.mem_cons.mp hq with rfl | hq
    · exact hrg
    · exact hne q hq
  intro f' c' oc' vs' t' ct' h7 tk7 F7 N7 d1 d2 l1 l2
  clear N6 F5
  dsimp only at N7
  (walk_at "law stmt2")
  rename Frag.In _ _ => X
  rename Top _ _ _ _ _ _ => T
  rename Fr _ _ _ _ => F7
  rename News _ _ _ _ => N7
  show wpAny _ _ (call (Value.builtin "sorted") [Value.ref rg] [(Str.ofString "key", Value.ref f')]) _ _ _
  (refine sorted_range (n := 7) (ss := zs.map fun z => S (written z)) rfl F7 N7 (N7.get (by walk_at "mine mem")) (by decide) (by decide) (by simp [hz7]) (by decide) (by decide) ?_ ?_)
  · intro i t k hi hk h8 tk8 own F8 N8
    obtain ⟨x, hx⟩ : ∃ x, zs[i]? = some x := ⟨_, List.getElem?_eq_getElem (by omega)⟩
    rw [List.getElem?_map, hx] at hk
    cases hk
    obtain ⟨t1, ht1⟩ := TA.2 i x hx
    have hy7 : ys.size = 7 := by have := TA.1; rw [Array.length_toList, hz7] at this; exact this
    have A3 : At ys (i : Int) (.str (S (written x)) t1) := ⟨by omega, i, by simpa using ht1, .inl rfl⟩
    clear fin
    clear F7 N7
    simp only [List.cons_append] at N8
    walk1
    (repeat' (first | ((fail_if_success (with_reducible show LeaveK _ _ _ _ _ _ _)); (fail_if_success (with_reducible show wpAny _ _ (PySem.call (Value.ref _) _) _ _ _)); walk_at "mine step")))
    rename Frag.In _ _ => X9
    rename Top _ _ _ _ _ _ => T9
    rename Fr _ _ _ _ => F9
    rename News _ _ _ _ => N9
    refine strxfrm_c (X9.keeps F9.keep) (T9.keeps F9.keep) (by simp only [Around.deeper, Around.in1]; decide) (by simp only [Around.deeper, Around.in1]; decide) ?_
    intro t9 h9 tk9 k9
    have F10 := Frkept F9 k9
    have N10 := Newskept N9 k9
    clear F9 N9
    refine leaveK_ F10 N10 ?_
    intro FA NA
    exact ⟨_, _, _, rfl, rfl, FA, NA⟩
  · intro D3 h8 tk8 out c9 q F8 N8 U hout ho7
    clear F7 N7
    (walk_at "law stmt2")
    refine wpAny_execs_cons ?_
    (walk_at "law stmt2")
    rename IsRange _ _ _ _ _ _ _ _ => IR3
    rename News _ _ _ _ => N9
    rename Fr _ _ _ _ => F9
    rename Frag.In _ _ => X
    rename Top _ _ _ _ _ _ => T
    (refine last_loop X T (by decide) (by decide) IR3 F9 N9 (RI.mono fun _ hp => List.mem_cons_of_mem _ (List.mem_cons_of_mem _ (List.mem_cons_of_mem _ (List.mem_cons_of_mem _ (List.mem_cons_of_mem _ hp))))) hz7 ok (List.Mem.head _) rfl rfl U hout ho7 rfl rfl ?_)
    intro m9 h9 tk9 F10 N10
    dsimp only
    refine wpAny_execs_cons ?_
    (walk_at "law stmt2")
    dsimp only
    exact fin h9 tk9 _ _ _ F10 N10 (by walk_at "mine mem")
theorem news_last {g h : Heap} {L : Addr} {x : Addr × Obj} {rest : List (Addr × Obj)} (N : News g L h (rest ++ [x])) : News g L h (x :: rest) := fun p hp => N p (by
  rcases List.mem_cons.mp hp with rfl | hp
  · exact List.mem_append_right _ List.mem_cons_self
  · exact List.mem_append_left _ hp)
end Mine
end PN7

section PT11
open PySem PySem.W PyProof.Rows PySem.Calls
namespace Mine
theorem offT11 : True := by
  w_top off
  exact True.intro
theorem fillT11 : PySem.Challenge.rw_pg0049_01 = PySem.Challenge.rw_pg0049_01 ∧ hd.heap_39 = hd.heap_39 := by
  k_fill
  exact ⟨rfl, rfl⟩

local macro_rules | `(tactic| walk_at "law stmt") => `(tactic| repeat' (first | ((fail_if_success (with_reducible show wpAny _ _ (PySem.execs _ _) _ _ _)); (fail_if_success (with_reducible show wpAny _ _ (PySem.pyIter _) _ _ _)); (fail_if_success (with_reducible show wpAny _ _ (PySem.call (Value.ref _) _) _ _ _)); (fail_if_success (with_reducible show wpAny _ _ (PySem.eval (PySem.Expr.ListComp (PySem.Expr.Call _ _ _ _) _ _ _) _) _ _ _)); walk_at "mine step")))
local macro_rules | `(tactic| walk_at "mine mem") => `(tactic| first | assumption | exact List.mem_cons_self | (refine List.mem_cons_of_mem _ ?_; walk_at "mine mem") | (refine List.mem_append_left _ ?_; walk_at "mine mem") | (refine mem_app ?_; walk_at "mine mem"))
local macro_rules | `(tactic| walk_at "law stmt2") => `(tactic| repeat' (first | ((fail_if_success (with_reducible show wpAny _ _ (PySem.execs _ _) _ _ _)); (fail_if_success (with_reducible show wpAny _ _ (PySem.pyIter _) _ _ _)); (fail_if_success (with_reducible show wpAny _ _ (PySem.call (Value.ref _) _) _ _ _)); (fail_if_success (with_reducible show wpAny _ _ (PySem.call (Value.builtin "sorted") _ _) _ _ _)); (fail_if_success (with_reducible show wpAny _ _ (PySem.eval (PySem.Expr.Lambda _ _ _ _) _) _ _ _)); walk_at "mine step")))
theorem holds : PySem.Challenge.rw_pg0049_01.Holds := hd (by
  w_strict (
    k_go0
    (all_goals try k_fold)
    refine wpAny_execs_cons ?_
    (walk_at "law stmt")
    refine wpAny_execs_cons ?_
    (walk_at "law stmt")
    rename Fr _ _ _ _ => F
    rename News _ _ _ _ => N
    rename Frag.In _ _ => X
    rename Top _ _ _ _ _ _ => T
    obtain ⟨zs, as, has, hzl, hok, RI⟩ := rows_all N (by assumption) (by assumption) (by assumption) (by assumption)
    refine wpAny_execs_cons ?_
    (walk_at "law stmt")
    (refine texts_step X T F.keep N (RI _) hzl hok (by decide) (by decide) (by decide) (by decide) rfl (by decide) rfl rfl rfl rfl (by k_is) (by k_is) ?_)
    (walk_at "mine step")
    refine ⟨rfl, rfl, fun D hD tkD ys DN IL TA KP => ?_⟩
    dsimp only at *
    obtain ⟨oD, gD, cD, nD, dD⟩ := IL
    have nn := news_ne N DN
    simp only [List.mem_cons, List.not_mem_nil, or_false, forall_eq_or_imp, forall_eq] at nn
    have N2 := news_add N KP DN gD F
    have F2 := Frkept F KP
    clear N F
    (refine storeX_C F2 N2 rfl (by k_updF) (by assumption) ?_)
    intro h1 oc F N hoc
    clear F2 N2
    dsimp only
    rename Frag.In _ _ => X
    rename Top _ _ _ _ _ _ => T
    refine wpAny_execs_cons ?_
    (walk_at "law stmt")
    rename News _ _ _ _ => N
    rename Fr _ _ _ _ => F
    rename IsRange _ _ _ _ _ _ _ _ => IR
    (refine outer_loop X T (by decide) (by decide) PassesOwn.leaving IR F N (RowsIn.mono (RI _) fun _ hp => List.mem_cons_of_mem _ hp) hzl hok (by walk_at "mine mem") (by assumption) (by walk_at "mine mem") (by assumption) (by assumption) TA rfl ?_)
    intro m1 h4 tk4 hm1 F4 N4
    clear F N IR
    dsimp only
    have N5 := news_last (rest := [_, _, _, _, _, _, _, _, _, _, _, _]) N4
    (refine law_tail X T (by assumption) (by assumption) PassesOwn.leaving F4 N5 ?hne hm1 (RowsIn.mono (RI _) fun _ hp => List.mem_cons_of_mem _ hp) hzl hok (by walk_at "mine mem") (by assumption) (by walk_at "mine mem") (by assumption) (by assumption) TA ?fin)
    case hne =>
      simp only [List.mem_cons, List.not_mem_nil, or_false, forall_eq_or_imp, forall_eq]
      exact ⟨nn.2.2.2.2.2.2.2.2.2.2.2, (by show @Ne Nat _ _; omega), (by show @Ne Nat _ _; omega), (by show @Ne Nat _ _; omega), (by show @Ne Nat _ _; omega), (by show @Ne Nat _ _; omega), (by show @Ne Nat _ _; omega), (by show @Ne Nat _ _; omega), (by show @Ne Nat _ _; omega), (by show @Ne Nat _ _; omega), (by show @Ne Nat _ _; omega), (by show @Ne Nat _ _; omega)⟩
    case fin =>
      intro h9 tk9 m9 news9 ps9 F9 N9 M9
      dsimp only
      refine And.intro ?_ (And.intro (GrownAt.of N9 M9) True.intro)
      (first | wrow_close | k_steps)))
end Mine
end PT11

theorem PySem.Challenge.cw_pg0049_01_holds : PySem.Challenge.rw_pg0049_01.Holds :=
  Mine.holds
