import PyProof.Rows.All
import Wide.All
import OpenK.AllK
import Wide.FinOn
import PySem.Challenge.RW_wo0066_01
open PySem PySem.W PyProof.Rows PySem.Calls
set_option Elab.async false
-- part Hd
namespace Mine
-- The head would lay three large lemmas (turned forms of the written part, of the text and of the view: 11 MB of the compiled file) that its proof can do without.
-- Three names that stand already, and one run of the head that is taken back, keep it from laying them.
def hq.tw1689168032168382222 : Nat := 0
def hq.tw9332192509690460559 : Nat := 0
def hq.tw15578668795568228083 : Nat := 0
set_option Elab.async true in
set_option maxRecDepth 100000 in
set_option maxHeartbeats 8000000 in
theorem hq : True := by
  first
  | (have h : PySem.Challenge.rw_wo0066_01.Holds := with_decl_name% Mine.hq.hd ((by set_option Elab.async false in (w_on; o_law; k_head; (case hw => w_witness2); fail "taken back") : PySem.Challenge.rw_wo0066_01.Holds) :)
     trivial)
  | trivial
theorem hq1 : True := hq
set_option maxRecDepth 100000 in
set_option maxHeartbeats 8000000 in
open_top hq.hd for PySem.Challenge.rw_wo0066_01
end Mine
-- part Tx
namespace Mine
def rep (c k : Nat) : PySem.Str := ⟨Array.replicate k c⟩
theorem rep_length (c k : Nat) : (rep c k).length = k := by simp [rep, Str.length]
theorem rep_list (c k : Nat) : (rep c k).cps.toList = List.replicate k c := by simp [rep]
theorem foldl_rep (c : Nat) : ∀ (n : Nat) (acc : Array Nat), (List.replicate n #[c]).foldl (· ++ ·) acc = acc ++ Array.replicate n c := by
  intro n
  induction n with
  | zero => intro acc; simp
  | succ n ih => 
    intro acc
    rw [List.replicate_succ, List.foldl_cons, ih]
    apply Array.ext'
    simp [List.replicate_succ]
theorem mul_rep {x : PySem.Str} {c : Nat} (hx : x.cps = #[c]) (n : Int) : Txt.mul x n = rep c n.toNat := by
  unfold Txt.mul rep
  by_cases h : n < 1
  · rw [if_pos h, show n.toNat = 0 by omega]; rfl
  · rw [if_neg h]
    by_cases h1 : n = 1
    · subst h1
      simp
      cases x; simp at hx; subst hx; rfl
    · have h2 : x.length ≠ 0 := by simp [Str.length, hx]
      rw [if_neg (by simp [h1, h2]), hx, foldl_rep]
      simp
theorem slice_rep_to (c k j : Nat) (h : j ≤ k) : Txt.slice (rep c k) none (some (j : Int)) = rep c j := by
  have e : Txt.slice (rep c k) none (some (j : Int)) = PySem.StrLaws.sliceText (rep c k) none (some (j : Int)) := by rfl
  rw [e, PySem.StrLaws.sliceText_to ⟨by omega, by simp [rep]; omega⟩]
  simp [rep]
  omega
theorem slice_rep_from (c k j : Nat) (h : j ≤ k) : Txt.slice (rep c k) (some (j : Int)) none = rep c (k - j) := by
  have e : Txt.slice (rep c k) (some (j : Int)) none = PySem.StrLaws.sliceText (rep c k) (some (j : Int)) none := by rfl
  rw [e, PySem.StrLaws.sliceText_from ⟨by omega, by simp [rep]; omega⟩]
  simp [rep]
theorem strEq {x y : PySem.Str} {t : Tok} (h : x = y) : some (Value.str x t) = some (Value.str y t) := by rw [h]
theorem intEq {x y : Int} {t : Tok} (h : x = y) : some (Value.int x t) = some (Value.int y t) := by rw [h]
end Mine
-- part Mth
namespace Mine
/-- base + base^2 + .. + base^(k+1) -/
noncomputable def tot (b : Int) : Nat → Int
  | 0 => b
  | k + 1 => (tot b k + 1) * b
/-- the share of a lot: size p, t times -/
def shareV (p t n : Int) : Int := if t = 1 then n / p else n / p / p
noncomputable def leftV : List (Int × Int × Int) → Int → Int → Int
  | [], n, b => tot b (n - 1).toNat
  | (_, p, t) :: r, n, b => if shareV p t n = 0 then leftV r n b else leftV r n b - leftV r (shareV p t n) (b ^ (p ^ t.toNat).toNat)
def Big : Int := 10 ^ 48
structure LotOk (h p t : Int) : Prop where
  h0 : 0 ≤ h
  h3 : h ≤ 3
  p1 : 1 ≤ p
  p40 : p ≤ 40
  p2 : h = 0 → p = 2
  p3 : h = 1 → p = 3
  t12 : t = 1 ∨ t = 2
structure BaseOk (n b : Int) : Prop where
  n1 : 1 ≤ n
  n48 : n ≤ 48
  b2 : 2 ≤ b
  big : b ^ n.toNat ≤ Big
theorem one_le_pow {b : Int} (hb : 1 ≤ b) : ∀ k : Nat, 1 ≤ b ^ k := by
  intro k
  induction k with
  | zero => simp
  | succ k ih => 
    rw [Int.pow_succ]
    have := Int.mul_le_mul ih hb (by omega) (by omega)
    omega
theorem pow_le_pow {b : Int} (hb : 1 ≤ b) {j k : Nat} (h : j ≤ k) : b ^ j ≤ b ^ k := by
  obtain ⟨d, rfl⟩ := Nat.exists_eq_add_of_le h
  rw [Int.pow_add]
  have h1 := one_le_pow hb j
  have h2 := one_le_pow hb d
  have := Int.mul_le_mul (Int.le_refl (b ^ j)) h2 (by omega) (by omega)
  omega
theorem BaseOk.b_le {n b : Int} (h : BaseOk n b) : b ≤ Big := by
  have h1 := pow_le_pow (b := b) (by have := h.b2; omega) (j := 1) (k := n.toNat) (by have := h.n1; omega)
  have := h.big
  rw [Int.pow_one] at h1
  omega
theorem tot_nonneg {b : Int} (hb : 2 ≤ b) : ∀ k, 0 ≤ tot b k := by
  intro k
  induction k with
  | zero => show 0 ≤ b; omega
  | succ k ih => exact Int.mul_nonneg (by omega) (by omega)
theorem tot_lt {b : Int} (hb : 2 ≤ b) : ∀ k, tot b k + 2 ≤ 2 * b ^ (k + 1) := by
  intro k
  induction k with
  | zero => show b + 2 ≤ 2 * b ^ 1; rw [Int.pow_one]; omega
  | succ k ih =>
    show (tot b k + 1) * b + 2 ≤ 2 * b ^ (k + 1 + 1)
    rw [Int.pow_succ b (k + 1), ← Int.mul_assoc]
    have h1 : (tot b k + 1 + 1) * b ≤ (2 * b ^ (k + 1)) * b := Int.mul_le_mul_of_nonneg_right (by omega) (by omega)
    rw [Int.add_mul, Int.one_mul] at h1
    omega
theorem bits_lt {x : Int} {k : Nat} (h0 : 0 ≤ x) (h : x < 2 ^ k) : Builtin.Int.intBits x ≤ k := by
  unfold Builtin.Int.intBits
  split
  · exact Nat.zero_le _
  · rename_i hx
    have hx' : x ≠ 0 := by simpa using hx
    have : x.natAbs < 2 ^ k := by
      have e : ((x.natAbs : Nat) : Int) = x := Int.natAbs_of_nonneg h0
      have : ((x.natAbs : Nat) : Int) < ((2 ^ k : Nat) : Int) := by
        rw [e]; simpa using h
      exact Int.ofNat_lt.mp this
    have := (Nat.log2_lt (by omega)).mpr this
    omega
theorem big_lt : Big < 2 ^ 160 := by decide
theorem mulOk_big {x y : Int} (hx0 : 0 ≤ x) (hx : x ≤ 4 * Big) (hy0 : 0 ≤ y) (hy : y ≤ 4 * Big) : IntMulOk x y := by
  have e : 4 * Big < 2 ^ 162 := by decide
  refine IntMulOk.of_bits ?_ ?_
  · exact Nat.le_trans (bits_lt (k := 162) hx0 (by omega)) (by decide)
  · exact Nat.le_trans (bits_lt (k := 162) hy0 (by omega)) (by decide)
theorem tot_ok {n b : Int} (h : BaseOk n b) {i : Nat} (hi : (i : Int) < n) : 0 ≤ tot b i ∧ tot b i + 1 ≤ 4 * Big := by
  have h1 := tot_nonneg h.b2 i
  have h2 := tot_lt h.b2 i
  have h3 := pow_le_pow (b := b) (by have := h.b2; omega) (j := i + 1) (k := n.toNat) (by omega)
  have h4 := h.big
  have : (0 : Int) ≤ Big := by decide
  omega
theorem BaseOk.bits_mul {n b e : Int} (h : BaseOk n b) (he : e ≤ 48) (h0 : 0 ≤ e) : (Builtin.Int.intBits b : Int) * e ≤ 2 ^ 27 := by
  have h1 := h.b_le
  have h2 := h.b2
  have h3 := big_lt
  have hb := bits_lt (x := b) (k := 160) (by omega) (by omega)
  have := Int.mul_le_mul (show (Builtin.Int.intBits b : Int) ≤ 160 by omega) he h0 (by omega)
  omega
theorem shareV_eq {p t n : Int} (hp : 1 ≤ p) (ht : t = 1 ∨ t = 2) : shareV p t n = n / p ^ t.toNat := by
  rcases ht with rfl | rfl
  · show (if (1 : Int) = 1 then n / p else _) = n / p ^ 1
    rw [if_pos rfl, Int.pow_one]
  · show (if (2 : Int) = 1 then n / p else n / p / p) = n / p ^ 2
    rw [if_neg (by decide), Int.pow_succ, Int.pow_one, Int.ediv_ediv_of_nonneg (by omega)]
theorem BaseOk.share {n b p t : Int} (h : BaseOk n b) (hp : 1 ≤ p) (ht : t = 1 ∨ t = 2) (hs : shareV p t n ≠ 0) :
    BaseOk (shareV p t n) (b ^ (p ^ t.toNat).toNat) ∧ p ^ t.toNat ≤ 48 ∧ 1 ≤ p ^ t.toNat := by
  rw [shareV_eq hp ht] at hs ⊢
  have hq := one_le_pow hp t.toNat
  generalize p ^ t.toNat = q at hs hq ⊢
  have n1 := h.n1
  have n48 := h.n48
  have b2 := h.b2
  have hqn : q ≤ n := by
    apply Classical.byContradiction
    intro hc
    exact hs (Int.ediv_eq_zero_of_lt (by omega) (by omega))
  have s0 : 0 ≤ n / q := Int.ediv_nonneg (by omega) (by omega)
  have sle : n / q ≤ n := Int.ediv_le_self _ (by omega)
  have hmul : q * (n / q) ≤ n := Int.mul_ediv_self_le (by omega)
  refine ⟨⟨by omega, by omega, ?_, ?_⟩, by omega, hq⟩
  · have := pow_le_pow (b := b) (by omega) (j := 1) (k := q.toNat) (by omega)
    rw [Int.pow_one] at this
    omega
  · rw [← Int.pow_mul]
    refine Int.le_trans (pow_le_pow (by omega) ?_) h.big
    have e : ((q.toNat * (n / q).toNat : Nat) : Int) = q * (n / q) := by
      rw [Int.natCast_mul, Int.toNat_of_nonneg (by omega), Int.toNat_of_nonneg s0]
    omega
end Mine
-- part LT
namespace Mine
theorem execs_cons_L {M : Model} {A : Around} {st : Stmt} {rest : List Stmt} {env : Env} {Q : Flow → Shared → Prop} {E : Value → Shared → Prop} {s : Shared}
    (h : let q : Flow → Shared → Prop := (fun f s' => match f with | .next => wpAny M A (execs rest env) Q E s' | f => Q f s'); wpAny M A (exec st env) q E s) :
    wpAny M A (execs (st :: rest) env) Q E s := wpAny_execs_cons h
theorem execs_cons_S {M : Model} {A : Around} {st : Stmt} {rest : List Stmt} {env : Env} {Q : Flow → Shared → Prop} {E : Value → Shared → Prop} {s : Shared}
    (h : let q : Flow → Shared → Prop := (fun f s' => match f with | .next => wpAny M A (execs rest env) Q E s' | f => Q f s'); let s9 := s; wpAny M A (exec st env) q E s9) :
    wpAny M A (execs (st :: rest) env) Q E s := wpAny_execs_cons h
theorem eval_L {M : Model} {A : Around} {e : Expr} {env : Env} {Q : Value → Shared → Prop} {E : Value → Shared → Prop} {s : Shared}
    (h : let q := Q; wpAny M A (eval e env) q E s) : wpAny M A (eval e env) Q E s := h
theorem storeX_LL {M : Model} {A : Around} {E : Value → Shared → Prop} {s : Shared} {h₀ : Heap} {L a : Addr} {m : Str → Option Value} {cn : Str} {cs : Scope} {ccd : Value} {cl : List (Str × Addr)} {x : Str} {v : Value} {Q : Unit → Shared → Prop} {news : List (Addr × Obj)}
    (F : Fr h₀ L s.heap m) (N : News h₀ L s.heap news)
    (h : ∀ h', let m' : Str → Option Value := (fun y => if y = x then some v else m y); Fr h₀ L h' m' → News h₀ L h' news → Q () { s with heap := h', toks := s.toks + 1 })
    (hk : cs.kind = .function := by rfl) (hx : (envX cn cs L a ccd cl).kindOf x = some .local := by rfl) : wpAny M A (storeName (envX cn cs L a ccd cl) x v) Q E s :=
  storeX_L F N h hk hx
theorem let_AE {M : Model} {A : Around} {body : List Stmt} {env : Env} {Q : Flow → Shared → Prop} {E : Value → Shared → Prop} {s : Shared}
    (h : let A' := A; let env' := env; wpAny M A' (execs body env') Q E s) : wpAny M A (execs body env) Q E s := h
theorem four {α : Type} {ys : List α} (h : ys.length = 4) : ∃ a b c d, ys = [a, b, c, d] := by
  cases ys with
  | nil => cases h
  | cons a ys => cases ys with
    | nil => cases h
    | cons b ys => cases ys with
      | nil => cases h
      | cons c ys => cases ys with
        | nil => cases h
        | cons d ys => cases ys with
          | nil => exact ⟨_, _, _, _, rfl⟩
          | cons e ys => cases h
theorem five {α : Type} {ys : List α} (h : ys.length = 5) : ∃ a b c d e, ys = [a, b, c, d, e] := by
  cases ys with
  | nil => cases h
  | cons a ys =>
    obtain ⟨b, c, d, e, rfl⟩ := four (Nat.succ.inj h)
    exact ⟨_, _, _, _, _, rfl⟩
end Mine
-- part G0
namespace Mine
/-- a turn's end where the generators may have changed too -/
def StepG (h₀ : Heap) (L : Addr) (wr : List Addr) (own : List (Addr × Obj)) (Jn : (Str → Option Value) → List (Addr × Obj) → Array GenState → Prop) (s : Shared) (Q : Flow → Shared → Prop) (f : Flow) (s₂ : Shared) : Prop :=
  match f with
  | .ret v => Q (.ret v) s₂
  | .brk => Q .next s₂
  | _ => ∃ h' tk gs m₂ news₂, s₂ = { s with heap := h', toks := tk, gens := gs } ∧ Fr h₀ L h' m₂ ∧ News h₀ L h' (own ++ news₂) ∧ (∀ p ∈ news₂, p.1 ∉ wr) ∧ Jn m₂ news₂ gs
section
variable {prog : Program} {w : World} {A : Around} {s : Shared} {env : Env} {h₀ : Heap} {E : Value → Shared → Prop} {Q : Flow → Shared → Prop}
theorem forLoop_G {R : Flow → Shared → Prop} {RE : Value → Shared → Prop} {x : Str} {px : Pos} {body : List Stmt} {I : Addr} {fp wr : List Addr} {n : Nat} {P : Nat → Value → Prop} {St : Nat → Heap → Prop} {m : Str → Option Value}
    {news : List (Addr × Obj)} (W : Walks prog w A I fp wr n P St) (hx : env.kindOf x = some .local)
    (hp : (env.scope.kind == .class || (env.scope.kind == .module && env.locals != env.globals)) = false)
    (hLf : env.locals ∉ fp) (hwr : ∀ b ∈ wr, h₀.get? b = none) (hnw : ∀ p ∈ news, p.1 ∉ wr)
    (hst : St 0 s.heap) (F : Fr h₀ env.locals s.heap m) (N : News h₀ env.locals s.heap news)
    (J : Nat → (Str → Option Value) → List (Addr × Obj) → Array GenState → Prop) (h0 : J 0 m news s.gens)
    (step : ∀ i v m₁ news₁ h tk gs, i < n → P i v → J i m₁ news₁ gs → (∀ p ∈ news₁, p.1 ∉ wr) → St (i + 1) h →
      Fr h₀ env.locals h (fun y => if y = x then some v else m₁ y) → News h₀ env.locals h (ownOf h₀ fp h ++ news₁) →
      wpAny (model prog w) A (execs body env) (StepG h₀ env.locals wr (ownOf h₀ fp h) (J (i + 1)) { s with heap := h, toks := tk, gens := gs } R) (notedBy (model prog w) A env RE) { s with heap := h, toks := tk, gens := gs })
    (hR : ∀ h' tk gs m' news', Fr h₀ env.locals h' m' → News h₀ env.locals h' news' → (∀ p ∈ news', p.1 ∉ wr) → J n m' news' gs → R .next { s with heap := h', toks := tk, gens := gs }) :
    codeAny (model prog w) A (.forLoop (.Name x px) (.ref I) body [] env) (fun r s' => match r with | .ok f => R f s' | .error e => RE e s') s := by
  have hLw : env.locals ∉ wr := fun h => hLf (W.sub _ h)
  have old : ∀ b o, h₀.get? b = some o → b ∉ wr := fun b o e hb => by rw [hwr b hb] at e; cases e
  refine codeAny_forLoop
    (fun k s' => ∃ h' tk gs m' news' i, s' = { s with heap := h', toks := tk, gens := gs } ∧ St i h' ∧ Fr h₀ env.locals h' m' ∧ News h₀ env.locals h' news' ∧ (∀ p ∈ news', p.1 ∉ wr) ∧ J i m' news' gs ∧ i ≤ n ∧ k = n + 1 - i) ?_ (n + 1)
    ⟨s.heap, s.toks, s.gens, m, news, 0, rfl, hst, F, N, hnw, h0, Nat.zero_le _, rfl⟩
  rintro k s' ⟨h', tk, gs, m', news', i, rfl, hst', F', N', hnw', hJ, hi, rfl⟩
  have next : ∀ h₁ : Heap, (∀ b o, b ∉ wr → h'.get? b = some o → h₁.get? b = some o) → Fr h₀ env.locals h₁ m' ∧ News h₀ env.locals h₁ news' := fun h₁ hk₁ =>
    ⟨⟨F'.ns.at' fun o e => hk₁ _ o hLw e, fun b o e => hk₁ b o (old b o e) (F'.keep b o e), F'.above⟩, fun p hp => ⟨hk₁ _ _ (hnw' p hp) (N' p hp).1, (N' p hp).2⟩⟩
  by_cases hlt : i < n
  · refine W.item i _ _ _ hlt hst' fun v h₁ tk₁ hP hst₁ hk₁ => ?_
    obtain ⟨F₁, N₁⟩ := next h₁ hk₁
    refine wpAny_assign_Name (wpAny_storeName_local hx F₁.ns (fun h₂ hn₂ hs₂ => ?_) hp)
    have F₂ := F₁.set hn₂ hs₂
    have Nown : News h₀ env.locals h₂ (ownOf h₀ fp h₂) := news_ownOf hLf
    have stay : ∀ h₃ : Heap, (∃ m₂, Fr h₀ env.locals h₃ m₂) → (∃ nx, News h₀ env.locals h₃ (ownOf h₀ fp h₂ ++ nx)) → St (i + 1) h₃ := by
      rintro h₃ ⟨m₂, F₃⟩ ⟨nx, N₃⟩
      refine W.frame _ _ _ hst₁ fun b hb o e => ?_
      have e₂ : h₂.get? b = some o := (hs₂.2 b fun q => hLf (q ▸ hb)).trans e
      cases hn : h₀.get? b with
      | some o₀ =>
        have q := F₂.keep b o₀ hn
        rw [e₂] at q
        exact (Option.some.inj q) ▸ F₃.keep b o₀ hn
      | none => exact (N₃ _ (List.mem_append_left _ (mem_ownOf hb hn e₂))).1
    have hst₂ : St (i + 1) h₂ := W.frame _ _ _ hst₁ fun b hb o e => (hs₂.2 b fun q => hLf (q ▸ hb)).trans e
    refine wpAny_mono (step i v m' news' h₂ _ gs hlt hP hJ hnw' hst₂ F₂ (Nown.append (N₁.set hs₂))) (fun f s₃ h₃ => ?_) fun _ _ e => e
    cases f with
    | ret v => exact h₃
    | brk => exact h₃
    | cont =>
      obtain ⟨h₃', tk₃, gs₃, m₂, news₂, rfl, F₃, N₃, ha₃, hJ₃⟩ := h₃
      exact ⟨n + 1 - (i + 1), by omega, h₃', tk₃, gs₃, m₂, news₂, i + 1, rfl, stay _ ⟨_, F₃⟩ ⟨_, N₃⟩, F₃, N₃.right, ha₃, hJ₃, hlt, rfl⟩
    | next =>
      obtain ⟨h₃', tk₃, gs₃, m₂, news₂, rfl, F₃, N₃, ha₃, hJ₃⟩ := h₃
      exact ⟨n + 1 - (i + 1), by omega, h₃', tk₃, gs₃, m₂, news₂, i + 1, rfl, stay _ ⟨_, F₃⟩ ⟨_, N₃⟩, F₃, N₃.right, ha₃, hJ₃, hlt, rfl⟩
  · have hin : i = n := by omega
    subst hin
    refine W.done _ _ _ hst' fun h₁ tk₁ hk₁ => wpAny_execs_nil ?_
    obtain ⟨F₁, N₁⟩ := next h₁ hk₁
    exact hR h₁ tk₁ gs m' news' F₁ N₁ hnw' hJ

/-- what a for over range(n) asks, behind the range's making -/
def RgAt (prog : Program) (w : World) (A : Around) (h₀ : Heap) (env : Env) (x : Str) (body : List Stmt) (Q : Flow → Shared → Prop) (E : Value → Shared → Prop) (xv : Value) (s₁ : Shared) : Prop :=
  ∃ (r : Addr) (a b : Int) (t u v : Tok) (n : Nat) (m : Str → Option Value) (news : List (Addr × Obj)) (J : Nat → (Str → Option Value) → List (Addr × Obj) → Array GenState → Prop),
    xv = .ref r ∧ IsRange s₁.heap r a b 1 t u v ∧ (b = a + n ∨ (b ≤ a ∧ n = 0)) ∧ 0 ≤ a ∧ a < 2 ^ 20 ∧ 0 ≤ b ∧ n < 2 ^ 20 ∧ Fr h₀ env.locals s₁.heap m ∧ News h₀ env.locals s₁.heap news ∧ J 0 m news s₁.gens ∧
    (∀ i t m₁ news₁ h tk gs, i < n → J i m₁ news₁ gs → ∀ I o, (∀ p ∈ news₁, p.1 ≠ I) → 
      Fr h₀ env.locals h (fun y => if y = x then some (.int (a + i) t) else m₁ y) → News h₀ env.locals h ((I, o) :: news₁) →
      wpAny (model prog w) A (execs body env) (StepG h₀ env.locals [I] [(I, o)] (J (i + 1)) { s₁ with heap := h, toks := tk, gens := gs } Q) E { s₁ with heap := h, toks := tk, gens := gs }) ∧
    (∀ h' tk gs m' news', Fr h₀ env.locals h' m' → News h₀ env.locals h' news' → J n m' news' gs → Q .next { s₁ with heap := h', toks := tk, gens := gs })

theorem For_rg {x : Str} {px pos : Pos} {iter : Expr} {body : List Stmt} {mF : Str → Option Value} (_F : Fr h₀ env.locals s.heap mF) (hh : A.handled = none) (hx : env.kindOf x = some .local)
    (hp : (env.scope.kind == .class || (env.scope.kind == .module && env.locals != env.globals)) = false)
    (h : wpAny (model prog w) A (eval iter env) (fun xv s₁ => RgAt prog w A h₀ env x body Q E xv s₁) E s)
    (hs : ∀ x, foldedSetIterable iter env x = pure x := by intro _; rfl)
    (hE : PassesOwn (model prog w) A env E := by passes_own) :
    wpAny (model prog w) A (exec (.For (.Name x px) iter body [] pos) env) Q E s := by
  refine wpAny_For (wpAny_mono h (fun xv s₁ h₁ => ?_) fun _ _ e => e) hs
  obtain ⟨r, a, b, t, u, v, n, m, news, J, rfl, hr, hba, ha0, ha1, hb0, hn, F, N, h0, step, hQ⟩ := h₁
  have hn' : n < 1048576 := hn
  have ha' : a < 1048576 := ha1
  have hsz : Builtin.Range.rangeSize a b 1 = (n : Int) := by
    unfold Builtin.Range.rangeSize
    simp only [Int.reduceGT, if_true, Int.ediv_one]
    split <;> omega
  have hsmall : Builtin.Range.small a b 1 = true := by
    exact small_one (by omega) (by omega) (by omega) (by omega)
  refine wpAny_pyIter_range hr hsmall ?_
  have hnew := next_is_new F
  rw [hsz]
  refine forLoop_G (W := Walks.range hh s₁.heap.objs.size a 1 n) hx hp ?_ ?_ ?_ ?_ (F.push _) (fun p hp => ⟨Heap.get?_push_of_some _ (N p hp).1, (N p hp).2⟩) J h0 ?_ ?_
  · intro hm
    exact absurd F.ns.lt ((List.mem_singleton.mp hm) ▸ Nat.lt_irrefl _)
  · intro b hb
    rw [List.mem_singleton.mp hb]
    exact hnew
  · intro p hp hI
    exact absurd (Heap.lt_size (N p hp).1) ((List.mem_singleton.mp hI) ▸ Nat.lt_irrefl _)
  · show IsRangeIter _ _ _ _ _
    simpa using Heap.get?_push_size _ rfl
  · rintro i v m₁ news₁ h tk gs hlt ⟨t', rfl⟩ hJ hoff hst F₁ N₁
    have hn3 : n < 1048576 := hn
    have hst2 : ∃ o, h.get? s₁.heap.objs.size = some o := ⟨_, hst⟩
    obtain ⟨o, ho⟩ := hst2
    have e : PyProof.Rows.ownOf h₀ [s₁.heap.objs.size] h = [(s₁.heap.objs.size, o)] := by
      unfold PyProof.Rows.ownOf
      simp [hnew, ho]
    rw [e] at N₁ ⊢
    rw [Int.mul_one] at F₁
    refine wpAny_passesOwn hE (step i t' m₁ news₁ h tk gs hlt hJ s₁.heap.objs.size o (fun p hp q => hoff p hp (List.mem_singleton.mpr q)) F₁ N₁)
  · intro h' tk gs m' news' F' N' _ hJ
    exact hQ h' tk gs m' news' F' N' hJ

/-- the invariant's words: what is named, what is stored and forgotten, all else as it stood -/
def RgJ {σ : Type} (Led : σ → List (Addr × Obj)) (ps : σ → List (Str × Value)) (x : Str) (stored : List Str) (m₀ : Str → Option Value) (P : Nat → σ → Array GenState → Prop) (i : Nat) (m : Str → Option Value) (nx : List (Addr × Obj)) (gs : Array GenState) : Prop :=
  ∃ c : σ, nx = Led c ∧ (∀ p ∈ ps c, m p.1 = some p.2) ∧ (∀ z, z ≠ x → (∀ p ∈ ps c, z ≠ p.1) → stored.contains z = false → m z = m₀ z) ∧ P i c gs
def RgEnd {σ : Type} (h₀ : Heap) (L : Addr) (I : Addr) (o : Obj) (Led : σ → List (Addr × Obj)) (ps : σ → List (Str × Value)) (x : Str) (stored : List Str) (m₀ : Str → Option Value) (P : Nat → σ → Array GenState → Prop) (i : Nat) (s s₂ : Shared) : Prop :=
  ∃ h' tk gs m₂ news₂, s₂ = { s with heap := h', toks := tk, gens := gs } ∧ Fr h₀ L h' m₂ ∧ News h₀ L h' ([(I, o)] ++ news₂) ∧ (∀ p ∈ news₂, p.1 ∉ [I]) ∧ RgJ Led ps x stored m₀ P i m₂ news₂ gs
def RgPost {σ : Type} (h₀ : Heap) (L : Addr) (I : Addr) (o : Obj) (Led : σ → List (Addr × Obj)) (ps : σ → List (Str × Value)) (x : Str) (stored : List Str) (m₀ : Str → Option Value) (P : Nat → σ → Array GenState → Prop) (i : Nat) (s : Shared) (Q : Flow → Shared → Prop) (f : Flow) (s₂ : Shared) : Prop :=
  match f with
  | .ret v => Q (.ret v) s₂
  | .brk => Q .next s₂
  | _ => RgEnd h₀ L I o Led ps x stored m₀ P i s s₂
theorem rg_end {σ : Type} {L : Addr} {I : Addr} {o : Obj} {Led : σ → List (Addr × Obj)} {ps : σ → List (Str × Value)} {x : Str} {stored : List Str} {m₀ m' : Str → Option Value} {P : Nat → σ → Array GenState → Prop} {i : Nat} {h' : Heap} {tk : Nat} {gs : Array GenState} {nx : List (Addr × Obj)} (c' : σ)
    (F : Fr h₀ L h' m') (N : News h₀ L h' nx) (hn : ∀ p ∈ Led c', p ∈ nx) (hI : (I, o) ∈ nx) (hoff : ∀ p ∈ Led c', p.1 ≠ I) (hk : ∀ p ∈ ps c', m' p.1 = some p.2)
    (hr : ∀ z, z ≠ x → (∀ p ∈ ps c', z ≠ p.1) → stored.contains z = false → m' z = m₀ z) (hp : P i c' gs) :
    RgEnd h₀ L I o Led ps x stored m₀ P i s { s with heap := h', toks := tk, gens := gs } :=
  ⟨h', tk, gs, m', Led c', rfl, F, fun p hp => by
    rcases List.mem_append.mp hp with hp | hp
    · exact N _ (List.mem_singleton.mp hp ▸ hI)
    · exact N _ (hn p hp), fun p hp q => hoff p hp (List.mem_singleton.mp q), c', rfl, hk, hr, hp⟩
theorem rg_intro {σ : Type} {x : Str} {body : List Stmt} {r : Addr} {a b : Int} {t u v : Tok} {m₀ : Str → Option Value} (n : Nat) (Led : σ → List (Addr × Obj)) (ps : σ → List (Str × Value)) (stored : List Str) (P : Nat → σ → Array GenState → Prop) (c₀ : σ)
    (hr : IsRange s.heap r a b 1 t u v) (hb : b = a + n ∨ (b ≤ a ∧ n = 0 ∧ 0 ≤ b)) (ha : 0 ≤ a) (ha' : a < 2 ^ 20) (hn : n < 2 ^ 20)
    (F : Fr h₀ env.locals s.heap m₀) (N : News h₀ env.locals s.heap (Led c₀)) (hk : ∀ p ∈ ps c₀, m₀ p.1 = some p.2) (hp : P 0 c₀ s.gens)
    (turn : ∀ (i : Nat) (c : σ) (t : Tok) (u : Str → Option Value) h tk gs I o, i < n → P i c gs → (∀ p ∈ Led c, p.1 ≠ I) →
      Fr h₀ env.locals h (fun y => if y = x then some (.int (a + i) t) else kstB (fun z => if stored.contains z then u z else m₀ z) (ps c) y) → News h₀ env.locals h ((I, o) :: Led c) →
      wpAny (model prog w) A (execs body env) (RgPost h₀ env.locals I o Led ps x stored m₀ P (i + 1) { s with heap := h, toks := tk, gens := gs } Q) E { s with heap := h, toks := tk, gens := gs })
    (done : ∀ (c : σ) (u : Str → Option Value) h tk gs, P n c gs → Fr h₀ env.locals h (fun y => if y = x then u y else kstB (fun z => if stored.contains z then u z else m₀ z) (ps c) y) → News h₀ env.locals h (Led c) → Q .next { s with heap := h, toks := tk, gens := gs }) :
    RgAt prog w A h₀ env x body Q E (.ref r) s := by
  refine ⟨r, a, b, t, u, v, n, m₀, Led c₀, RgJ Led ps x stored m₀ P, rfl, hr, hb.imp id fun h => ⟨h.1, h.2.1⟩, ha, ha', (by rcases hb with h | h <;> omega), hn, F, N, ⟨c₀, rfl, hk, fun _ _ _ _ => rfl, hp⟩, ?_, ?_⟩
  · rintro i t m₁ news₁ h tk gs hi ⟨c, rfl, h1, h2, hP⟩ I o hoff F₁ N₁
    refine wpAny_mono (turn i c t m₁ h tk gs I o hi hP hoff ?_ N₁) (fun f s₂ q => ?_) fun _ _ e => e
    · have em : (fun y => if y = x then some (Value.int (a + i) t) else kstB (fun z => if stored.contains z then m₁ z else m₀ z) (ps c) y) = fun y => if y = x then some (Value.int (a + i) t) else m₁ y := by
        funext y
        by_cases hy : y = x
        · simp [hy]
        · simp only [if_neg hy]
          refine kstB_eq h1 fun hn => ?_
          cases h3 : stored.contains y with
          | true => simp
          | false => simp only [Bool.false_eq_true, if_false]; exact (h2 y hy hn h3).symm
      rw [em]
      exact F₁
    · cases f with
      | ret v => exact q
      | brk => exact q
      | next => exact q
      | cont => exact q
  · rintro h tk gs m₁ news₁ F₁ N₁ ⟨c, rfl, h1, h2, hP⟩
    refine done c m₁ h tk gs hP ?_ N₁
    have em : (fun y => if y = x then m₁ y else kstB (fun z => if stored.contains z then m₁ z else m₀ z) (ps c) y) = m₁ := by
      funext y
      by_cases hy : y = x
      · simp [hy]
      · simp only [if_neg hy]
        refine kstB_eq h1 fun hn => ?_
        cases h3 : stored.contains y with
        | true => simp
        | false => simp only [Bool.false_eq_true, if_false]; exact (h2 y hy hn h3).symm
    rw [em]
    exact F₁
end
end Mine
-- part GC
namespace Mine
section
variable {prog : Program} {w : World} {A : Around} {s : Shared} {env : Env} {h₀ : Heap} {E : Value → Shared → Prop} {Q : Flow → Shared → Prop}
theorem forLoop_H {R : Flow → Shared → Prop} {RE : Value → Shared → Prop} {x : Str} {px : Pos} {body : List Stmt} {I : Addr} {fp wr : List Addr} {n : Nat} {P : Nat → Value → Prop} {St : Nat → Heap → Prop} {m : Str → Option Value}
    {news : List (Addr × Obj)} (W : Walks prog w A I fp wr n P St) 
    (hLf : env.locals ∉ fp) (hwr : ∀ b ∈ wr, h₀.get? b = none) (hnw : ∀ p ∈ news, p.1 ∉ wr)
    (hst : St 0 s.heap) (F : Fr h₀ env.locals s.heap m) (N : News h₀ env.locals s.heap news)
    (J : Nat → (Str → Option Value) → List (Addr × Obj) → Array GenState → Prop) (h0 : J 0 m news s.gens)
    (step : ∀ i v m₁ news₁ h tk gs, i < n → P i v → J i m₁ news₁ gs → (∀ p ∈ news₁, p.1 ∉ wr) → St (i + 1) h →
      Fr h₀ env.locals h m₁ → News h₀ env.locals h (ownOf h₀ fp h ++ news₁) →
      wpAny (model prog w) A (assign (.Name x px) env v) (fun _ s₂ => wpAny (model prog w) A (execs body env) (StepG h₀ env.locals wr (ownOf h₀ fp h) (J (i + 1)) { s with heap := h, toks := tk, gens := gs } R) (notedBy (model prog w) A env RE) s₂) (notedBy (model prog w) A env RE) { s with heap := h, toks := tk, gens := gs })
    (hR : ∀ h' tk gs m' news', Fr h₀ env.locals h' m' → News h₀ env.locals h' news' → (∀ p ∈ news', p.1 ∉ wr) → J n m' news' gs → R .next { s with heap := h', toks := tk, gens := gs }) :
    codeAny (model prog w) A (.forLoop (.Name x px) (.ref I) body [] env) (fun r s' => match r with | .ok f => R f s' | .error e => RE e s') s := by
  have hLw : env.locals ∉ wr := fun h => hLf (W.sub _ h)
  have old : ∀ b o, h₀.get? b = some o → b ∉ wr := fun b o e hb => by rw [hwr b hb] at e; cases e
  refine codeAny_forLoop
    (fun k s' => ∃ h' tk gs m' news' i, s' = { s with heap := h', toks := tk, gens := gs } ∧ St i h' ∧ Fr h₀ env.locals h' m' ∧ News h₀ env.locals h' news' ∧ (∀ p ∈ news', p.1 ∉ wr) ∧ J i m' news' gs ∧ i ≤ n ∧ k = n + 1 - i) ?_ (n + 1)
    ⟨s.heap, s.toks, s.gens, m, news, 0, rfl, hst, F, N, hnw, h0, Nat.zero_le _, rfl⟩
  rintro k s' ⟨h', tk, gs, m', news', i, rfl, hst', F', N', hnw', hJ, hi, rfl⟩
  have next : ∀ h₁ : Heap, (∀ b o, b ∉ wr → h'.get? b = some o → h₁.get? b = some o) → Fr h₀ env.locals h₁ m' ∧ News h₀ env.locals h₁ news' := fun h₁ hk₁ =>
    ⟨⟨F'.ns.at' fun o e => hk₁ _ o hLw e, fun b o e => hk₁ b o (old b o e) (F'.keep b o e), F'.above⟩, fun p hp => ⟨hk₁ _ _ (hnw' p hp) (N' p hp).1, (N' p hp).2⟩⟩
  by_cases hlt : i < n
  · refine W.item i _ _ _ hlt hst' fun v h₁ tk₁ hP hst₁ hk₁ => ?_
    obtain ⟨F₁, N₁⟩ := next h₁ hk₁
    have Nown : News h₀ env.locals h₁ (ownOf h₀ fp h₁) := news_ownOf hLf
    have stay : ∀ h₃ : Heap, (∃ m₂, Fr h₀ env.locals h₃ m₂) → (∃ nx, News h₀ env.locals h₃ (ownOf h₀ fp h₁ ++ nx)) → St (i + 1) h₃ := by
      rintro h₃ ⟨m₂, F₃⟩ ⟨nx, N₃⟩
      refine W.frame _ _ _ hst₁ fun b hb o e => ?_
      have e₂ : h₁.get? b = some o := e
      cases hn : h₀.get? b with
      | some o₀ =>
        have q := F₁.keep b o₀ hn
        rw [e₂] at q
        exact (Option.some.inj q) ▸ F₃.keep b o₀ hn
      | none => exact (N₃ _ (List.mem_append_left _ (mem_ownOf hb hn e₂))).1
    refine wpAny_mono (step i v m' news' h₁ _ gs hlt hP hJ hnw' hst₁ F₁ (Nown.append N₁)) (fun _ s₂ h₂ => wpAny_mono h₂ (fun f s₃ h₃ => ?_) fun _ _ e => e) fun _ _ e => e
    cases f with
    | ret v => exact h₃
    | brk => exact h₃
    | cont =>
      obtain ⟨h₃', tk₃, gs₃, m₂, news₂, rfl, F₃, N₃, ha₃, hJ₃⟩ := h₃
      exact ⟨n + 1 - (i + 1), by omega, h₃', tk₃, gs₃, m₂, news₂, i + 1, rfl, stay _ ⟨_, F₃⟩ ⟨_, N₃⟩, F₃, N₃.right, ha₃, hJ₃, hlt, rfl⟩
    | next =>
      obtain ⟨h₃', tk₃, gs₃, m₂, news₂, rfl, F₃, N₃, ha₃, hJ₃⟩ := h₃
      exact ⟨n + 1 - (i + 1), by omega, h₃', tk₃, gs₃, m₂, news₂, i + 1, rfl, stay _ ⟨_, F₃⟩ ⟨_, N₃⟩, F₃, N₃.right, ha₃, hJ₃, hlt, rfl⟩
  · have hin : i = n := by omega
    subst hin
    refine W.done _ _ _ hst' fun h₁ tk₁ hk₁ => wpAny_execs_nil ?_
    obtain ⟨F₁, N₁⟩ := next h₁ hk₁
    exact hR h₁ tk₁ gs m' news' F₁ N₁ hnw' hJ

/-- what a for over range(n) asks, behind the range's making -/
def RgAtC (prog : Program) (w : World) (A : Around) (h₀ : Heap) (env : Env) (x : Str) (px : Pos) (body : List Stmt) (Q : Flow → Shared → Prop) (E : Value → Shared → Prop) (xv : Value) (s₁ : Shared) : Prop :=
  ∃ (r : Addr) (a b : Int) (t u v : Tok) (n : Nat) (m : Str → Option Value) (news : List (Addr × Obj)) (J : Nat → (Str → Option Value) → List (Addr × Obj) → Array GenState → Prop),
    xv = .ref r ∧ IsRange s₁.heap r a b 1 t u v ∧ (b = a + n ∨ (b ≤ a ∧ n = 0)) ∧ 0 ≤ a ∧ a < 2 ^ 20 ∧ 0 ≤ b ∧ n < 2 ^ 20 ∧ Fr h₀ env.locals s₁.heap m ∧ News h₀ env.locals s₁.heap news ∧ J 0 m news s₁.gens ∧
    (∀ i t m₁ news₁ h tk gs, i < n → J i m₁ news₁ gs → ∀ I o, (∀ p ∈ news₁, p.1 ≠ I) → 
      Fr h₀ env.locals h m₁ → News h₀ env.locals h ((I, o) :: news₁) →
      wpAny (model prog w) A (assign (.Name x px) env (.int (a + i) t)) (fun _ s₂ => wpAny (model prog w) A (execs body env) (StepG h₀ env.locals [I] [(I, o)] (J (i + 1)) { s₁ with heap := h, toks := tk, gens := gs } Q) E s₂) E { s₁ with heap := h, toks := tk, gens := gs }) ∧
    (∀ h' tk gs m' news', Fr h₀ env.locals h' m' → News h₀ env.locals h' news' → J n m' news' gs → Q .next { s₁ with heap := h', toks := tk, gens := gs })

theorem For_rgC {x : Str} {px pos : Pos} {iter : Expr} {body : List Stmt} {mF : Str → Option Value} (_F : Fr h₀ env.locals s.heap mF) (hh : A.handled = none) 
    (h : wpAny (model prog w) A (eval iter env) (fun xv s₁ => RgAtC prog w A h₀ env x px body Q E xv s₁) E s)
    (hs : ∀ x, foldedSetIterable iter env x = pure x := by intro _; rfl)
    (hE : PassesOwn (model prog w) A env E := by passes_own) :
    wpAny (model prog w) A (exec (.For (.Name x px) iter body [] pos) env) Q E s := by
  refine wpAny_For (wpAny_mono h (fun xv s₁ h₁ => ?_) fun _ _ e => e) hs
  obtain ⟨r, a, b, t, u, v, n, m, news, J, rfl, hr, hba, ha0, ha1, hb0, hn, F, N, h0, step, hQ⟩ := h₁
  have hn' : n < 1048576 := hn
  have ha' : a < 1048576 := ha1
  have hsz : Builtin.Range.rangeSize a b 1 = (n : Int) := by
    unfold Builtin.Range.rangeSize
    simp only [Int.reduceGT, if_true, Int.ediv_one]
    split <;> omega
  have hsmall : Builtin.Range.small a b 1 = true := by
    exact small_one (by omega) (by omega) (by omega) (by omega)
  refine wpAny_pyIter_range hr hsmall ?_
  have hnew := next_is_new F
  rw [hsz]
  refine forLoop_H (W := Walks.range hh s₁.heap.objs.size a 1 n) ?_ ?_ ?_ ?_ (F.push _) (fun p hp => ⟨Heap.get?_push_of_some _ (N p hp).1, (N p hp).2⟩) J h0 ?_ ?_
  · intro hm
    exact absurd F.ns.lt ((List.mem_singleton.mp hm) ▸ Nat.lt_irrefl _)
  · intro b hb
    rw [List.mem_singleton.mp hb]
    exact hnew
  · intro p hp hI
    exact absurd (Heap.lt_size (N p hp).1) ((List.mem_singleton.mp hI) ▸ Nat.lt_irrefl _)
  · show IsRangeIter _ _ _ _ _
    simpa using Heap.get?_push_size _ rfl
  · rintro i v m₁ news₁ h tk gs hlt ⟨t', rfl⟩ hJ hoff hst F₁ N₁
    have hn3 : n < 1048576 := hn
    have hst2 : ∃ o, h.get? s₁.heap.objs.size = some o := ⟨_, hst⟩
    obtain ⟨o, ho⟩ := hst2
    have e : PyProof.Rows.ownOf h₀ [s₁.heap.objs.size] h = [(s₁.heap.objs.size, o)] := by
      unfold PyProof.Rows.ownOf
      simp [hnew, ho]
    rw [e] at N₁ ⊢
    rw [Int.mul_one]
    refine wpAny_mono (step i t' m₁ news₁ h tk gs hlt hJ s₁.heap.objs.size o (fun p hp q => hoff p hp (List.mem_singleton.mpr q)) F₁ N₁) (fun _ s₂ h₂ => wpAny_passesOwn hE h₂) hE
  · intro h' tk gs m' news' F' N' _ hJ
    exact hQ h' tk gs m' news' F' N' hJ

theorem rg_introC {σ : Type} {x : Str} {px : Pos} {body : List Stmt} {r : Addr} {a b : Int} {t u v : Tok} {m₀ : Str → Option Value} (n : Nat) (Led : σ → List (Addr × Obj)) (ps : σ → List (Str × Value)) (stored : List Str) (P : Nat → σ → Array GenState → Prop) (c₀ : σ)
    (hr : IsRange s.heap r a b 1 t u v) (hb : b = a + n ∨ (b ≤ a ∧ n = 0 ∧ 0 ≤ b)) (ha : 0 ≤ a) (ha' : a < 2 ^ 20) (hn : n < 2 ^ 20)
    (F : Fr h₀ env.locals s.heap m₀) (N : News h₀ env.locals s.heap (Led c₀)) (hk : ∀ p ∈ ps c₀, m₀ p.1 = some p.2) (hp : P 0 c₀ s.gens)
    (turn : ∀ (i : Nat) (c : σ) (t : Tok) (u : Str → Option Value) h tk gs I o, i < n → P i c gs → (∀ p ∈ Led c, p.1 ≠ I) →
      Fr h₀ env.locals h (fun y => if y = x then u y else kstB (fun z => if stored.contains z then u z else m₀ z) (ps c) y) → News h₀ env.locals h ((I, o) :: Led c) →
      wpAny (model prog w) A (assign (.Name x px) env (.int (a + i) t)) (fun _ s₂ => wpAny (model prog w) A (execs body env) (RgPost h₀ env.locals I o Led ps x stored m₀ P (i + 1) { s with heap := h, toks := tk, gens := gs } Q) E s₂) E { s with heap := h, toks := tk, gens := gs })
    (done : ∀ (c : σ) (u : Str → Option Value) h tk gs, P n c gs → Fr h₀ env.locals h (fun y => if y = x then u y else kstB (fun z => if stored.contains z then u z else m₀ z) (ps c) y) → News h₀ env.locals h (Led c) → Q .next { s with heap := h, toks := tk, gens := gs }) :
    RgAtC prog w A h₀ env x px body Q E (.ref r) s := by
  have em : ∀ (c : σ) (m₁ : Str → Option Value), (∀ p ∈ ps c, m₁ p.1 = some p.2) → (∀ z, z ≠ x → (∀ p ∈ ps c, z ≠ p.1) → stored.contains z = false → m₁ z = m₀ z) → (fun y => if y = x then m₁ y else kstB (fun z => if stored.contains z then m₁ z else m₀ z) (ps c) y) = m₁ := by
    intro c m₁ h1 h2
    funext y
    by_cases hy : y = x
    · simp [hy]
    · simp only [if_neg hy]
      refine kstB_eq h1 fun hn => ?_
      cases h3 : stored.contains y with
      | true => simp
      | false => simp only [Bool.false_eq_true, if_false]; exact (h2 y hy hn h3).symm
  refine ⟨r, a, b, t, u, v, n, m₀, Led c₀, RgJ Led ps x stored m₀ P, rfl, hr, hb.imp id fun h => ⟨h.1, h.2.1⟩, ha, ha', (by rcases hb with h | h <;> omega), hn, F, N, ⟨c₀, rfl, hk, fun _ _ _ _ => rfl, hp⟩, ?_, ?_⟩
  · rintro i t m₁ news₁ h tk gs hi ⟨c, rfl, h1, h2, hP⟩ I o hoff F₁ N₁
    refine wpAny_mono (turn i c t m₁ h tk gs I o hi hP hoff ((em c m₁ h1 h2).symm ▸ F₁) N₁) (fun _ s₂ q2 => wpAny_mono q2 (fun f s₃ q => ?_) fun _ _ e => e) fun _ _ e => e
    cases f with
    | ret v => exact q
    | brk => exact q
    | next => exact q
    | cont => exact q
  · rintro h tk gs m₁ news₁ F₁ N₁ ⟨c, rfl, h1, h2, hP⟩
    exact done c m₁ h tk gs hP ((em c m₁ h1 h2).symm ▸ F₁) N₁
end
end Mine
-- part G6
namespace Mine
section
variable {prog : Program} {w : World} {A : Around} {s : Shared} {env : Env} {h₀ : Heap} {E : Value → Shared → Prop} {Q : Flow → Shared → Prop}
/-- what a for over a text asks -/
def TxAt (prog : Program) (w : World) (A : Around) (h₀ : Heap) (env : Env) (x : Str) (body : List Stmt) (Q : Flow → Shared → Prop) (E : Value → Shared → Prop) (xv : Value) (s₁ : Shared) : Prop :=
  ∃ (xt : Str) (t : Tok) (m : Str → Option Value) (news : List (Addr × Obj)) (J : Nat → (Str → Option Value) → List (Addr × Obj) → Array GenState → Prop),
    xv = .str xt t ∧ xt.cps.all (· < 128) = true ∧ Fr h₀ env.locals s₁.heap m ∧ News h₀ env.locals s₁.heap news ∧ J 0 m news s₁.gens ∧
    (∀ i ch t m₁ news₁ h tk gs, xt.cps[i]? = some ch → J i m₁ news₁ gs → ∀ I o, (∀ p ∈ news₁, p.1 ≠ I) →
      Fr h₀ env.locals h (fun y => if y = x then some (.str ⟨#[ch]⟩ t) else m₁ y) → News h₀ env.locals h ((I, o) :: news₁) →
      wpAny (model prog w) A (execs body env) (StepG h₀ env.locals [I] [(I, o)] (J (i + 1)) { s₁ with heap := h, toks := tk, gens := gs } Q) E { s₁ with heap := h, toks := tk, gens := gs }) ∧
    (∀ h' tk gs m' news', Fr h₀ env.locals h' m' → News h₀ env.locals h' news' → J xt.cps.size m' news' gs → Q .next { s₁ with heap := h', toks := tk, gens := gs })
theorem For_tx {x : Str} {px pos : Pos} {iter : Expr} {body : List Stmt} {mF : Str → Option Value} (_F : Fr h₀ env.locals s.heap mF) (hh : A.handled = none) (hx : env.kindOf x = some .local)
    (hp : (env.scope.kind == .class || (env.scope.kind == .module && env.locals != env.globals)) = false)
    (h : wpAny (model prog w) A (eval iter env) (fun xv s₁ => TxAt prog w A h₀ env x body Q E xv s₁) E s)
    (hs : ∀ x, foldedSetIterable iter env x = pure x := by intro _; rfl)
    (hE : PassesOwn (model prog w) A env E := by passes_own) :
    wpAny (model prog w) A (exec (.For (.Name x px) iter body [] pos) env) Q E s := by
  refine wpAny_For (wpAny_mono h (fun xv s₁ h₁ => ?_) fun _ _ e => e) hs
  obtain ⟨xt, t, m, news, J, rfl, ha, F, N, h0, step, hQ⟩ := h₁
  refine wpAny_pyIter_ascii ha ?_
  have hnew := next_is_new F
  refine forLoop_G (W := Walks.strAscii hh s₁.heap.objs.size xt t) hx hp ?_ ?_ ?_ ⟨_, Heap.get?_push_size _ rfl, rfl, rfl⟩ (F.push _) (fun p hp => ⟨Heap.get?_push_of_some _ (N p hp).1, (N p hp).2⟩) J h0 ?_ ?_
  · intro hm
    exact absurd F.ns.lt ((List.mem_singleton.mp hm) ▸ Nat.lt_irrefl _)
  · intro b hb
    rw [List.mem_singleton.mp hb]
    exact hnew
  · intro p hp hI
    exact absurd (Heap.lt_size (N p hp).1) ((List.mem_singleton.mp hI) ▸ Nat.lt_irrefl _)
  · rintro i v m₁ news₁ h tk gs hlt ⟨ch, u, hc, rfl⟩ hJ hoff hst F₁ N₁
    obtain ⟨o, ho, _⟩ := id hst
    have e : PyProof.Rows.ownOf h₀ [s₁.heap.objs.size] h = [(s₁.heap.objs.size, o)] := by
      unfold PyProof.Rows.ownOf
      simp [hnew, ho]
    rw [e] at N₁ ⊢
    refine wpAny_passesOwn hE (step i ch u m₁ news₁ h tk gs hc hJ s₁.heap.objs.size o (fun p hp q => hoff p hp (List.mem_singleton.mpr q)) F₁ N₁)
  · intro h' tk gs m' news' F' N' _ hJ
    exact hQ h' tk gs m' news' F' N' hJ
theorem tx_intro {σ : Type} {x : Str} {body : List Stmt} {xt : Str} {t : Tok} {m₀ : Str → Option Value} (Led : σ → List (Addr × Obj)) (ps : σ → List (Str × Value)) (stored : List Str) (P : Nat → σ → Array GenState → Prop) (c₀ : σ)
    (ha : xt.cps.all (· < 128) = true)
    (F : Fr h₀ env.locals s.heap m₀) (N : News h₀ env.locals s.heap (Led c₀)) (hk : ∀ p ∈ ps c₀, m₀ p.1 = some p.2) (hp : P 0 c₀ s.gens)
    (turn : ∀ (i : Nat) (ch : Nat) (c : σ) (t : Tok) (u : Str → Option Value) h tk gs I o, xt.cps[i]? = some ch → P i c gs → (∀ p ∈ Led c, p.1 ≠ I) →
      Fr h₀ env.locals h (fun y => if y = x then some (.str ⟨#[ch]⟩ t) else kstB (fun z => if stored.contains z then u z else m₀ z) (ps c) y) → News h₀ env.locals h ((I, o) :: Led c) →
      wpAny (model prog w) A (execs body env) (RgPost h₀ env.locals I o Led ps x stored m₀ P (i + 1) { s with heap := h, toks := tk, gens := gs } Q) E { s with heap := h, toks := tk, gens := gs })
    (done : ∀ (c : σ) (u : Str → Option Value) h tk gs, P xt.cps.size c gs → Fr h₀ env.locals h (fun y => if y = x then u y else kstB (fun z => if stored.contains z then u z else m₀ z) (ps c) y) → News h₀ env.locals h (Led c) → Q .next { s with heap := h, toks := tk, gens := gs }) :
    TxAt prog w A h₀ env x body Q E (.str xt t) s := by
  refine ⟨xt, t, m₀, Led c₀, RgJ Led ps x stored m₀ P, rfl, ha, F, N, ⟨c₀, rfl, hk, fun _ _ _ _ => rfl, hp⟩, ?_, ?_⟩
  · rintro i ch t m₁ news₁ h tk gs hc ⟨c, rfl, h1, h2, hP⟩ I o hoff F₁ N₁
    refine wpAny_mono (turn i ch c t m₁ h tk gs I o hc hP hoff (kst_fr h1 h2 F₁) N₁) (fun f s₂ q => ?_) fun _ _ e => e
    cases f with
    | ret v => exact q
    | brk => exact q
    | next => exact q
    | cont => exact q
  · rintro h tk gs m₁ news₁ F₁ N₁ ⟨c, rfl, h1, h2, hP⟩
    exact done c m₁ h tk gs hP (kst_frOut h1 h2 F₁) N₁
end
end Mine
-- part RB
namespace Mine
/-- the heap below an address -/
def lowHeap (h : Heap) (L : Nat) : Heap := { objs := h.objs.extract 0 L, life := h.life }
theorem lowHeap_get {h : Heap} {L b : Nat} {o : Obj} (hb : b < L) (e : h.get? b = some o) : (lowHeap h L).get? b = some o := by
  unfold Heap.get? lowHeap at *
  have : (h.objs.extract 0 L)[b]? = h.objs[b]? := by
    rw [Array.getElem?_extract]
    split
    · simp
    · rename_i hn
      have : h.objs.size ≤ b := by omega
      rw [Array.getElem?_eq_none this]
  dsimp only
  rw [this]
  exact e
theorem lowHeap_of {h : Heap} {L b : Nat} {o : Obj} (e : (lowHeap h L).get? b = some o) : h.get? b = some o := by
  have hb : b < (lowHeap h L).objs.size := Heap.lt_size e
  have hb2 : b < (h.objs.extract 0 L).size := hb
  rw [Array.size_extract] at hb2
  unfold Heap.get? lowHeap at *
  have : (h.objs.extract 0 L)[b]? = h.objs[b]? := by
    rw [Array.getElem?_extract, if_pos (by omega)]
    simp
  dsimp only at e
  rw [this] at e
  exact e
theorem rebase {A : Around} {base h₀ g h : Heap} {outer : List Env} {L0 L : Addr} {m0 m : Str → Option Value} {news : List (Addr × Obj)} {K : Frag} {p : Program} {loose : List Str} {mean : ExcName → Option Value} {mg mb : Str → Option Value}
    (FG : Fr h₀ L0 g m0) (F : Fr g L h m) (N : News g L h news) (l1 : ∀ p ∈ news, p.1 < L) (B : Below A base outer g) (X : K.In g) (T : Top p loose mean mg mb g) :
    ∃ g', Fr h₀ L0 g' m0 ∧ Fr g' L h m ∧ News g' L h [] ∧ Below A base outer g' ∧ K.In g' ∧ Top p loose mean mg mb g' ∧ (∀ b o, g.get? b = some o → g'.get? b = some o) ∧ (∀ p ∈ news, g'.get? p.1 = some p.2) ∧ g.objs.size ≤ g'.objs.size := by
  have hk : ∀ b o, g.get? b = some o → (lowHeap h L).get? b = some o := fun b o e =>
    lowHeap_get (Nat.lt_of_lt_of_le (Heap.lt_size e) F.above) (F.keep b o e)
  refine ⟨lowHeap h L, FG.keeps hk, ⟨F.ns, fun b o e => lowHeap_of e, ?_⟩, (fun p hp => nomatch hp), ⟨B.stack, fun b o e => hk b o (B.stays b o e), B.frames.of_keeps fun b o e _ => ⟨o, hk b o e, rfl⟩⟩, (fun a o e => hk a o (X a o e)), T.keeps hk, hk, (fun p hp => lowHeap_get (l1 p hp) (N p hp).1), ?_⟩
  · show (h.objs.extract 0 L).size ≤ L
    rw [Array.size_extract]
    exact Nat.le_trans (Nat.sub_le _ _) (Nat.min_le_left _ _)
  · show g.objs.size ≤ (h.objs.extract 0 L).size
    rw [Array.size_extract]
    have h1 := F.above
    have h2 := F.ns.lt
    have h3 : @LT.lt Nat _ L h.objs.size := h2
    have h4 : @LE.le Nat _ g.objs.size L := h1
    omega
section
variable {prog : Program} {w : World} {A A₀ : Around} {s : Shared} {h₀ base : Heap} {L : Addr} {m : Str → Option Value} {news : List (Addr × Obj)} {K : Frag} {p : Program} {loose : List Str} {mean : ExcName → Option Value} {mg mb : Str → Option Value}
/-- a def without cells is entered; all that the caller knows lies in the new base -/
theorem code_def0 {env : Env} {outer : List Env} {R : Result → Shared → Prop} {name qual : Str} {params : Arguments} {body : List Stmt} {scope : Scope} {dV kV doc pm cdv ct oc : Value} {an od : Option Addr} {osl : Array (Option Value)} {f : Addr} {args : Args} {binds : List (Str × Value)}
    (B : Below A₀ base outer h₀) (F : Fr h₀ L s.heap m) (X₀ : K.In h₀) (N : News h₀ L s.heap news) (T : Top p loose mean mg mb h₀) (hA : A.frames = some (env :: outer)) (hf : env.frame = some L) (hke : env.scope.kind = .function)
    (ho : K.lookup f = some ⟨oc, od, .func (fnOf name qual params body scope dV kV doc pm an cdv ct), osl⟩) (hcd : codeIn K cdv qual = true) (hroom : A.depth < recursionLimit)
    (hbind : BindsTo s (fnOf name qual params body scope dV kV doc pm an cdv ct) args binds) (hkind : (binds.all fun y => scope.names.lookup y.1 == some .local || scope.names.lookup y.1 == some .cell) = true)
    (hnd : ((cellsFrom 0 scope.names []).map (·.1)).Nodup) (hnc : ∀ n, cellsFrom n scope.names [] = [])
    (h : ∀ g L' h₁ tk, Fr h₀ L g m → Fr g L' h₁ (bindL (envOfC qual scope L' f cdv).kindOf binds fun _ => none) → News g L' h₁ [] →
      Below A base (env :: outer) g → K.In g → Top p loose mean mg mb g → (∀ p ∈ news, g.get? p.1 = some p.2) → (∀ a its, s.heap.IsList a its → h₀.IsList a its → g.IsList a its) →
      wpAny (model prog w) (A.deeper (envOfC qual scope L' f cdv)) (execs body (envOfC qual scope L' f cdv))
        (fun fl s' => LeaveK h₀ L m g (fun r s9 => News h₀ L s9.heap news → R r s9) (match fl with | .ret v => v | _ => .none) s')
        (fun e s' => wpAny (model prog w) (A.deeper (envOfC qual scope L' f cdv)) (leaving (envOfC qual scope L' f cdv) e) (fun _ s'' => R (.error e) s'') (fun e' s'' => R (.error e') s'') s')
        { s with heap := h₁, toks := tk })
    (hco : scope.isCoroutine = false) (hgen : scope.isGenerator = false) (hk : scope.kind = .function) : codeAny (model prog w) A (.call (.ref f) args) R s := by
  refine code_defC B F X₀ N T hA hf hke ho hcd hroom hbind hkind hnd (fun g L' h₁ tk cells FG F' N' Y B' X' T' l => ?_) hco hgen hk
  have hc : cells = [] := by
    rw [hnc] at Y
    cases Y
    rfl
  subst hc
  obtain ⟨g', FG2, F2, N2, B2, X2, T2, hk2, hg, hsz⟩ := rebase FG F' N' l B' X' T'
  refine wpAny_mono (h g' L' h₁ tk FG2 F2 N2 B2 X2 T2 hg (fun a its _ e => ?_)) (fun fl s' q => ?_) fun _ _ e => e
  · obtain ⟨o, ho, r⟩ := e
    exact ⟨o, FG2.keep _ _ ho, r⟩
  · obtain ⟨L2, m2, news2, F3, N3, k⟩ := q
    have hlt : ∀ p ∈ news, s'.heap.get? p.1 = some p.2 := fun p hp => F3.keep _ _ (hg p hp)
    refine ⟨L2, m2, news2 ++ news, ⟨F3.ns, fun b o e => F3.keep b o (hk2 b o e), Nat.le_trans hsz F3.above⟩, ?_, fun FF NN => k FF (fun p hp => NN p (List.mem_append_left _ hp)) (fun p hp => NN p (List.mem_append_right _ hp))⟩
    intro p hp
    rcases List.mem_append.mp hp with hp | hp
    · refine ⟨(N3 p hp).1, (N3 p hp).2.1, ?_⟩
      cases e : g.get? p.1 with
      | none => rfl
      | some o =>
        have e2 := (N3 p hp).2.2
        rw [hk2 _ _ e] at e2
        cases e2
    · exact ⟨hlt p hp, Nat.ne_of_lt (Nat.lt_of_lt_of_le (Heap.lt_size (hg p hp)) F3.above), (N' p hp).2.2⟩
end
theorem off1_of {g h : Heap} {L D : Addr} {o : Obj} {ledger : List (Addr × Obj)} : ∀ {news : List (Addr × Obj)}, (∀ p ∈ news, g.get? p.1 = some p.2) → News g L h ledger → (D, o) ∈ ledger → LCg.Off1 D news
  | [], _, _, _ => trivial
  | p :: r, hg, N, hm => by
    refine ⟨?_, off1_of (fun q hq => hg q (List.mem_cons_of_mem _ hq)) N hm⟩
    intro e
    have h1 := hg p (List.mem_cons_self ..)
    have h2 := (N _ hm).2.2
    have e' : p.1 = D := e
    rw [e', h2] at h1
    cases h1
end Mine
-- part Cont
namespace Mine
/-- the contract of a def: from any frame and ledger, the ledger is kept, the generators stay bare -/
def Cal (w : World) (f : Addr) (dd uu : Nat) (Pre : List (Addr × Obj) → Prop) (vs : List Value) (R : Tok → Value) : Prop :=
  ∀ (mean : ExcName → Option Value) (mg mb : Str → Option Value)
    (dp un : Nat) (gd : Option (List Code)) (cn : Str) (cs : Scope) (a : Addr) (ccd : Value) (cl : List (Str × Addr)) (outer : List Env) (A₀ : Around) (base h₀ : Heap) (L : Addr) (m : Str → Option Value) (news : List (Addr × Obj)) (s : Shared) (Q E : Value → Shared → Prop),
    Below A₀ base outer h₀ → Fr h₀ L s.heap m → (Mine.hq.hd.heap_39 w.params).In h₀ → News h₀ L s.heap news →
    Top Mine.hq.hd.view_39 [Str.ofString "Whitespace", Str.ofString "EXACT_TOKEN_TYPES"] mean mg mb h₀ → cs.kind = .function →
    Pre news → AllBare s.gens → dp + dd < recursionLimit → un + uu < cLine →
    (∀ (t : Tok) (h' : Heap) (tk' : Nat) (gs' : Array GenState), Fr h₀ L h' m → News h₀ L h' news → AllBare gs' → Q (R t) { s with heap := h', toks := tk', gens := gs' }) →
    wpAny (model PySem.Challenge.rw_wo0066_01.prog w) (ktrTop dp un gd cn cs L a ccd cl outer) (call (.ref f) vs) Q E s
theorem Cal.use {w : World} {f : Addr} {dd uu : Nat} {Pre : List (Addr × Obj) → Prop} {vs : List Value} {R : Tok → Value} (C : Cal w f dd uu Pre vs R)
    {mean : ExcName → Option Value} {mg mb : Str → Option Value}
    {dp un : Nat} {gd : Option (List Code)} {cn : Str} {cs : Scope} {a : Addr} {ccd : Value} {cl : List (Str × Addr)} {outer : List Env} {A₀ : Around} {base h₀ : Heap} {L : Addr} {m : Str → Option Value} {news : List (Addr × Obj)} {s : Shared} {Q E : Value → Shared → Prop}
    (B : Below A₀ base outer h₀) (F : Fr h₀ L s.heap m) (X : (Mine.hq.hd.heap_39 w.params).In h₀) (N : News h₀ L s.heap news)
    (T : Top Mine.hq.hd.view_39 [Str.ofString "Whitespace", Str.ofString "EXACT_TOKEN_TYPES"] mean mg mb h₀) (hk : cs.kind = .function)
    (hp : Pre news) (hg : AllBare s.gens) (hd : dp + dd < recursionLimit) (hu : un + uu < cLine)
    (hret : ∀ (t : Tok) (h' : Heap) (tk' : Nat) (gs' : Array GenState), Fr h₀ L h' m → News h₀ L h' news → AllBare gs' → Q (R t) { s with heap := h', toks := tk', gens := gs' }) :
    wpAny (model PySem.Challenge.rw_wo0066_01.prog w) (ktrTop dp un gd cn cs L a ccd cl outer) (call (.ref f) vs) Q E s :=
  C mean mg mb dp un gd cn cs a ccd cl outer A₀ base h₀ L m news s Q E B F X N T hk hp hg hd hu hret
noncomputable def TupsIn (news : List (Addr × Obj)) : List Value → List (Int × Int × Int) → Prop
  | [], [] => True
  | v :: vs, (h, p, t) :: r => (∃ a k th tp tt, v = .ref a ∧ (a, ({ cls := .type "tuple", data := .seq (List.toArray [.int h th, .int p tp, .int t tt]) k } : Obj)) ∈ news) ∧ TupsIn news vs r
  | _, _ => False
def LotsIn (news : List (Addr × Obj)) (l : Addr) (lots : List (Int × Int × Int)) : Prop :=
  ∃ vs k, (l, ({ cls := .type "list", data := .seq (List.toArray vs) k } : Obj)) ∈ news ∧ TupsIn news vs lots
theorem TupsIn.mono {news news' : List (Addr × Obj)} (hs : ∀ p ∈ news, p ∈ news') : ∀ {vs : List Value} {lots : List (Int × Int × Int)}, TupsIn news vs lots → TupsIn news' vs lots
  | [], [], _ => trivial
  | _ :: _, _ :: _, ⟨⟨a, k, th, tp, tt, e, hm⟩, r⟩ => ⟨⟨a, k, th, tp, tt, e, hs _ hm⟩, r.mono hs⟩
def ShareHyp (w : World) : Prop := ∀ (h p n : Int) (th tp tn : Tok), 0 ≤ h → h ≤ 3 → 1 ≤ p → p ≤ 40 → (h = 0 → p = 2) → (h = 1 → p = 3) → 0 ≤ n → n ≤ 48 →
  Cal w 176 8 60 (fun _ => True) [.int h th, .int p tp, .int n tn] (fun t => .int (n / p) t)
def LeftHyp (w : World) (lots : List (Int × Int × Int)) : Prop := ∀ (n b : Int) (tn tb : Tok) (l : Addr), BaseOk n b →
  Cal w 183 (lots.length + 10) (8 * lots.length + 80) (fun news => LotsIn news l lots) [.int n tn, .ref l, .int b tb] (fun t => .int (leftV lots n b) t)
end Mine
-- part D2_points
namespace Mine
section
variable {prog : Program} {w : World} {A : Around} {E : Value → Shared → Prop} {s : Shared} {h₀ h : Heap} {L a : Addr} {m : Str → Option Value} {K : Frag} {es : Array DictEntry} {n : Nat} {x : Str} {t : Tok} {v : Value}
theorem topNotIn_K {r : Option Value} {Q : Value → Shared → Prop} (F : Fr h₀ L s.heap m) (X₀ : K.In h₀) (hl : K.lookup a = some ⟨.type "dict", none, .dict es n, #[]⟩) (hk : KeysLit w.params es.toList) (e : nsIn K a x = some r) (lo : (a == sysModules) = false)
    (h : Q (.bool (!r.isSome)) { s with toks := s.toks + 1 }) : wpAny (model prog w) A (compareOp .NotIn (.str x t) (.ref a)) Q E s :=
  wpAny_notIn_of (strKind_is prog w x t) lo (mapOf_K (prog := prog) (X₀.keeps F.keep) hl hk) (by rw [find_K hl e]; exact h)
end
local macro_rules | `(tactic| walk_at "mine_same") => `(tactic| (intro z h2 h3; simp only [List.forall_mem_cons, List.not_mem_nil, false_implies, implies_true, and_true, ne_eq, List.contains_cons, List.contains_nil, Bool.or_false, Bool.or_eq_false_iff, beq_eq_false_iff_ne] at h2 h3; simp [h2, h3, kstB]))
-- to the next while
local macro_rules | `(tactic| walk_at "mine_w") => `(tactic| repeat' (first | (k_unfold; (try dsimp only)) | ((fail_if_success (with_reducible show wpAny _ _ (exec (Stmt.While _ _ _ _) _) _ _ _)); walk1) | (dsimp only; (fail_if_success (with_reducible show wpAny _ _ (exec (Stmt.While _ _ _ _) _) _ _ _)); walk1)))
-- to the end of a while's turn
local macro_rules | `(tactic| walk_at "mine_all") => `(tactic| repeat' (first | (k_unfold; (try dsimp only)) | ((fail_if_success (with_reducible show KswEnd _ _ _ _ _ _ _ _ _ _ _ _)); walk1) | (dsimp only; (fail_if_success (with_reducible show KswEnd _ _ _ _ _ _ _ _ _ _ _ _)); walk1)))
local macro_rules | `(tactic| walk_at "compareOp NotIn str ref") => `(tactic| (k_here; k_dflt (refine' topNotIn_K ?F ?X ?l ?k ?e ?o ?_; (case F => k_asm); (case X => k_asm); (case l => k_is); (case k => k_keys); (case e => k_is); (case o => decide))))
local macro_rules | `(tactic| walk_at "subscriptTail Name Slice str ref") => `(tactic| (k_here; (with_reducible rename Fr _ _ _ _ => F'); (with_reducible rename News _ _ _ _ => N'); first
  | ((with_reducible show wpAny _ _ (subscriptTail _ (Expr.Slice none (some _) none _) (Value.str (rep _ _) _) _) _ _ _); (refine slice_strN_ns (hsz := ?hsz) (s := ⟨_, _, _, _, _⟩) F' N' ?_); (case hsz => assumption))
  | ((with_reducible show wpAny _ _ (subscriptTail _ (Expr.Slice (some _) none none _) (Value.str (rep _ _) _) _) _ _ _); (refine slice_strN_sn (hsz := ?hsz) (s := ⟨_, _, _, _, _⟩) F' N' ?_); (case hsz => assumption)); intro _ _ _ _ _))
theorem dots3 (r : Nat) : Txt.slice (rep 46 (r + 3)) none (some 3) = Str.ofString "..." := by
  have h := slice_rep_to 46 (r + 3) 3 (by omega)
  exact h.trans (by decide)
theorem dots3' (r : Nat) : Txt.slice (rep 46 (r + 3)) (some 3) none = rep 46 r := by
  have h := slice_rep_from 46 (r + 3) 3 (by omega)
  exact h
local macro_rules | `(tactic| walk_at "storeName str") => `(tactic| (k_here; first | rw [dots3] | rw [dots3']))
set_option maxRecDepth 100000 in
set_option maxHeartbeats 8000000 in
theorem points_ok (w : World) (mean : ExcName → Option Value) (mg mb : Str → Option Value)
    (dp un : Nat) (gd : Option (List Code)) (cn : Str) (cs : Scope) (a : Addr) (ccd : Value) (cl : List (Str × Addr)) (outer : List Env) (A₀ : Around) (base h₀ : Heap) (L : Addr) (m : Str → Option Value) (news : List (Addr × Obj)) (s : Shared) (Q E : Value → Shared → Prop) (n : Int) (tn : Tok)
    (B : Below A₀ base outer h₀) (F : Fr h₀ L s.heap m) (X : (Mine.hq.hd.heap_39 w.params).In h₀) (N : News h₀ L s.heap news)
    (T : Top Mine.hq.hd.view_39 [Str.ofString "Whitespace", Str.ofString "EXACT_TOKEN_TYPES"] mean mg mb h₀) (hk : cs.kind = .function)
    (hn : 0 ≤ n ∧ n ≤ 48) (hd : dp + 1 < recursionLimit) (hu : un + 8 < cLine)
    (hret : ∀ (t : Tok) (h' : Heap) (tk' : Nat), Fr h₀ L h' m → News h₀ L h' news → Q (.int (n / 3) t) { s with heap := h', toks := tk' }) :
    wpAny (model PySem.Challenge.rw_wo0066_01.prog w) (ktrTop dp un gd cn cs L a ccd cl outer) (call (.ref 162) [.int n tn]) Q E s := by
  w_top off
  revert X; k_fill; intro X
  refine wpAny_call ?_
  k_dflt cell_enter
  walk_at "mine_w"
  rename Fr _ _ _ _ => F1
  rename News _ _ _ _ => N1
  rw [mul_rep (show (Str.ofString ".").cps = #[46] by decide)] at F1
  refine' ksw_while (σ := Nat × Int × Tok × Tok) (fun _ => news) (fun c => [(Str.ofString "told", .int c.2.1 c.2.2.1), (Str.ofString "text", .str (rep 46 c.1) c.2.2.2)]) (fun _ => True) [Str.ofString "piece"]
    (fun c => c.2.1 + ((c.1 / 3 : Nat) : Int) = n / 3 ∧ c.1 ≤ 48) (fun c => c.1) (n.toNat, 0, _, _) F1 N1 trivial ?kk ?kp ?_
  case kk => kst_all
  case kp => dsimp only; omega
  · rintro ⟨r, told, t1, t2⟩ u h tk - ⟨hp, hle⟩ F2 N2
    clear F1 N1
    dsimp only at hp hle
    match r with
    | 0 =>
      rw [show rep 46 0 = Str.ofString "" from by decide] at F2
      k_steps
      have e : n / 3 = told := by omega
      rw [e] at hret
      exact hret _ _ _ (by assumption) (by assumption)
    | 1 => 
      rw [show rep 46 1 = Str.ofString "." from by decide] at F2
      walk_at "mine_all"
      refine' ksw_end (0, told, _, _) (by assumption) (by assumption) (fun _ h => h) trivial ?hk9 ?hr9 ?hp9 ?hm9
      case hk9 =>
        intro p hp
        rcases List.mem_cons.mp hp with rfl | hp
        rotate_left
        · obtain rfl := List.mem_singleton.mp hp
          exact strEq (show Str.ofString "" = rep 46 0 by decide)
        · exact rfl
      case hr9 => walk_at "mine_same"
      case hp9 => dsimp only; omega
      case hm9 => dsimp only; omega
    | 2 =>
      rw [show rep 46 2 = Str.ofString ".." from by decide] at F2
      walk_at "mine_all"
      refine' ksw_end (1, told, _, _) (by assumption) (by assumption) (fun _ h => h) trivial ?hk9 ?hr9 ?hp9 ?hm9
      case hk9 =>
        intro p hp
        rcases List.mem_cons.mp hp with rfl | hp
        rotate_left
        · obtain rfl := List.mem_singleton.mp hp
          exact strEq (show Str.ofString "." = rep 46 1 by decide)
        · exact rfl
      case hr9 => walk_at "mine_same"
      case hp9 => dsimp only; omega
      case hm9 => dsimp only; omega
    | r + 3 => 
      have hsz : (rep 46 (r + 3)).length ≤ sizeLine := by rw [rep_length, sizeLine_eq]; omega
      walk_at "mine_all"
      · refine' ksw_end (r, told + 1, _, _) (by assumption) (by assumption) (fun _ h => h) trivial ?hk9 ?hr9 ?hp9 ?hm9
        case hk9 =>
          intro p hp
          rcases List.mem_cons.mp hp with rfl | hp
          rotate_left
          · obtain rfl := List.mem_singleton.mp hp
            exact strEq (dots3' r)
          · exact rfl
        case hr9 => walk_at "mine_same"
        case hp9 => dsimp only; omega
        case hm9 => dsimp only; omega
      · exfalso
        with_reducible rename _ = false => hx
        have := congrArg Str.length (bne_eq_false_iff_eq.mp hx)
        rw [rep_length] at this
        cases this
end Mine
-- part D3_parse
namespace Mine
-- '257 "' and n quotation marks
def q257 (n : Nat) : PySem.Str := ⟨#[50, 53, 55, 32] ++ Array.replicate (n + 1) 34⟩
theorem q257_length (n : Nat) : (q257 n).length = n + 5 := by simp [q257, Str.length]; omega
theorem q257_item (n : Nat) (i : Int) (h0 : 4 ≤ i) (h1 : i < n + 5) : Txt.item (q257 n) i = Str.ofString "\"" := by
  have hl := q257_length n
  obtain ⟨k, rfl⟩ := Int.eq_ofNat_of_zero_le (show 0 ≤ i by omega)
  have e : Txt.charAt (q257 n) k = some 34 := by
    unfold Txt.charAt seqIndex?
    rw [hl]
    have e1 : ¬ ((k : Int) < 0) := by omega
    have e2 : (decide (0 ≤ (k : Int)) && decide ((k : Int) < ((n + 5 : Nat) : Int))) = true := by simp; omega
    simp only [e1, if_false, e2, if_true]
    show (q257 n).cps[k]? = some 34
    unfold q257
    dsimp only
    rw [Array.getElem?_append_right (by simp; omega)]
    rw [Array.getElem?_replicate, if_pos (by simp; omega)]
  unfold Txt.item
  rw [e]
  decide
theorem q257_head (n : Nat) : Txt.slice (q257 n) none (some 3) = Str.ofString "257" := by
  have e : Txt.slice (q257 n) none (some 3) = PySem.StrLaws.sliceText (q257 n) none (some 3) := by rfl
  rw [e, PySem.StrLaws.sliceText_to ⟨by omega, by have := q257_length n; simp [Str.length] at this; simp [this]; omega⟩]
  simp [q257]
  decide
theorem q257_mid (n : Nat) : Txt.slice (q257 n) (some 3) (some 5) = Str.ofString " \"" := by
  have e : Txt.slice (q257 n) (some 3) (some 5) = PySem.StrLaws.sliceText (q257 n) (some 3) (some 5) := by rfl
  rw [e, PySem.StrLaws.sliceText_plain ⟨by omega, by omega, by have := q257_length n; simp [Str.length] at this; simp [this]; omega⟩]
  simp [q257, List.replicate_succ]
  decide
theorem rep_snoc (c k : Nat) (x : PySem.Str) (h : x.cps = #[c]) : rep c k ++ x = rep c (k + 1) := by
  cases x
  simp at h
  subst h
  apply Str.ext'
  rw [Str.cps_append]
  simp [rep, Array.replicate_succ]
set_option maxRecDepth 100000 in
set_option maxHeartbeats 8000000 in
theorem parse_ok {w : World} {mean : ExcName → Option Value} {mg mb : Str → Option Value}
    {dp un : Nat} {gd : Option (List Code)} {cn : Str} {cs : Scope} {a : Addr} {ccd : Value} {cl : List (Str × Addr)} {outer : List Env} {A₀ : Around} {base h₀ : Heap} {L : Addr} {m : Str → Option Value} {news : List (Addr × Obj)} {s : Shared} {Q E : Value → Shared → Prop} {n : Nat} {tn : Tok}
    (B : Below A₀ base outer h₀) (F : Fr h₀ L s.heap m) (X : (Mine.hq.hd.heap_39 w.params).In h₀) (N : News h₀ L s.heap news)
    (T : Top Mine.hq.hd.view_39 [Str.ofString "Whitespace", Str.ofString "EXACT_TOKEN_TYPES"] mean mg mb h₀) (hk : cs.kind = .function)
    (hn : n ≤ 48) (hd : dp + 1 < recursionLimit)
    (hret : ∀ (t : Tok) (h' : Heap) (tk' : Nat), Fr h₀ L h' m → News h₀ L h' news → Q (.str (rep 34 (n / 2)) t) { s with heap := h', toks := tk' }) :
    wpAny (model PySem.Challenge.rw_wo0066_01.prog w) (ktrTop dp un gd cn cs L a ccd cl outer) (call (.ref 53) [.str (q257 n) tn]) Q E s := by
  w_top off
  revert X; k_fill; intro X
  have hsz : (q257 n).length ≤ sizeLine := by rw [q257_length, sizeLine_eq]; omega
  refine wpAny_call ?_
  k_dflt cell_enter
  (repeat' (first | (k_unfold; (try dsimp only)) | ((fail_if_success (with_reducible show wpAny _ _ (exec (Stmt.While _ _ _ _) _) _ _ _)); (first | ((with_reducible show wpAny _ _ (storeName _ _ _) _ _ _); (k_here; k_dflt (refine' storeX_LL ?F ?N ?_; (case F => k_asm); (case N => k_asm)); intro h' m' F' N')) | ((with_reducible show wpAny _ _ (execs (_ :: _) _) _ _ _); (k_here; refine execs_cons_S ?_; intro q9 s9)) | ((with_reducible show wpAny _ _ (binaryOp Operator.Add (Value.str _ _) (Value.str _ _)) _ _ _); (k_here; (try dsimp only); (with_reducible show wpAny _ _ (binaryOp _ (Value.str (rep 34 _) _) (Value.str _ _)) _ _ _); (refine SB.add ?h1 ?h2); (case h2 => (rw [rep_length, show (Str.ofString "\"").length = 1 by decide, sizeLine_eq]; omega)); intro _ _; rw [rep_snoc 34 _ _ (by decide)])) | (k_here; (with_reducible show wpAny _ _ (subscriptTail _ _ (Value.str (q257 _) _) (Value.int _ _)) _ _ _); (refine item_str ?h1 ?h2 ?h3 ?_); (case h1 => exact fitsSsize_of (N := 9223372036854775808) (by omega) (by omega) (Int.le_refl _)); (case h2 => (rw [q257_length]; omega)); (case h3 => (rw [q257_length]; omega)); intro _; rw [q257_item _ _ (by omega) (by omega)]) | (k_here; (with_reducible show wpAny _ _ (call (Value.builtin "len") [Value.str (q257 _) _]) _ _ _); (refine SBL.len ?h1 ?_); (case h1 => (rw [q257_length]; omega)); rw [q257_length]) | ((with_reducible show wpAny _ _ (subscriptTail (Expr.Name _ _) (Expr.Slice _ _ _ _) (Value.str _ _) (Value.ref _)) _ _ _); (k_here; (with_reducible rename Fr _ _ _ _ => F'); (with_reducible rename News _ _ _ _ => N'); first | ((with_reducible show wpAny _ _ (subscriptTail _ (Expr.Slice none (some _) none _) (Value.str (q257 _) _) _) _ _ _); (refine slice_strN_ns (hsz := ?hsz) (s := ⟨_, _, _, _, _⟩) F' N' ?_); (case hsz => assumption); intro _ _ _ _ _; rw [q257_head]) | ((with_reducible show wpAny _ _ (subscriptTail _ (Expr.Slice (some _) (some _) none _) (Value.str (q257 _) _) _) _ _ _); (refine slice_strN_ss (hsz := ?hsz) (s := ⟨_, _, _, _, _⟩) F' N' ?_); (case hsz => assumption); intro _ _ _ _ _; rw [q257_mid]))) | walk1)) | (dsimp only; (fail_if_success (with_reducible show wpAny _ _ (exec (Stmt.While _ _ _ _) _) _ _ _)); (first | ((with_reducible show wpAny _ _ (storeName _ _ _) _ _ _); (k_here; k_dflt (refine' storeX_LL ?F ?N ?_; (case F => k_asm); (case N => k_asm)); intro h' m' F' N')) | ((with_reducible show wpAny _ _ (execs (_ :: _) _) _ _ _); (k_here; refine execs_cons_S ?_; intro q9 s9)) | ((with_reducible show wpAny _ _ (binaryOp Operator.Add (Value.str _ _) (Value.str _ _)) _ _ _); (k_here; (try dsimp only); (with_reducible show wpAny _ _ (binaryOp _ (Value.str (rep 34 _) _) (Value.str _ _)) _ _ _); (refine SB.add ?h1 ?h2); (case h2 => (rw [rep_length, show (Str.ofString "\"").length = 1 by decide, sizeLine_eq]; omega)); intro _ _; rw [rep_snoc 34 _ _ (by decide)])) | (k_here; (with_reducible show wpAny _ _ (subscriptTail _ _ (Value.str (q257 _) _) (Value.int _ _)) _ _ _); (refine item_str ?h1 ?h2 ?h3 ?_); (case h1 => exact fitsSsize_of (N := 9223372036854775808) (by omega) (by omega) (Int.le_refl _)); (case h2 => (rw [q257_length]; omega)); (case h3 => (rw [q257_length]; omega)); intro _; rw [q257_item _ _ (by omega) (by omega)]) | (k_here; (with_reducible show wpAny _ _ (call (Value.builtin "len") [Value.str (q257 _) _]) _ _ _); (refine SBL.len ?h1 ?_); (case h1 => (rw [q257_length]; omega)); rw [q257_length]) | ((with_reducible show wpAny _ _ (subscriptTail (Expr.Name _ _) (Expr.Slice _ _ _ _) (Value.str _ _) (Value.ref _)) _ _ _); (k_here; (with_reducible rename Fr _ _ _ _ => F'); (with_reducible rename News _ _ _ _ => N'); first | ((with_reducible show wpAny _ _ (subscriptTail _ (Expr.Slice none (some _) none _) (Value.str (q257 _) _) _) _ _ _); (refine slice_strN_ns (hsz := ?hsz) (s := ⟨_, _, _, _, _⟩) F' N' ?_); (case hsz => assumption); intro _ _ _ _ _; rw [q257_head]) | ((with_reducible show wpAny _ _ (subscriptTail _ (Expr.Slice (some _) (some _) none _) (Value.str (q257 _) _) _) _ _ _); (refine slice_strN_ss (hsz := ?hsz) (s := ⟨_, _, _, _, _⟩) F' N' ?_); (case hsz => assumption); intro _ _ _ _ _; rw [q257_mid]))) | walk1))))
  rename Fr _ _ _ _ => F1
  rename News _ _ _ _ => N1
  refine' ksw_while (σ := Nat × Tok × Tok) (fun _ => news) (fun c => [(Str.ofString "dirname", .str (rep 34 c.1) c.2.1), (Str.ofString "i", .int (5 + 2 * (c.1 : Int)) c.2.2)]) (fun _ => True) [Str.ofString "c"]
    (fun c => 2 * c.1 ≤ n) (fun c => n - c.1) (0, _, _) F1 N1 trivial ?kk ?kp ?_
  case kk => ((try dsimp +zetaDelta only); kst_all)
  case kp => dsimp only; omega
  · rintro ⟨k, t1, t2⟩ u h tk - hp F2 N2
    clear F1 N1
    dsimp only at hp
    (repeat' (first | (k_unfold; (try dsimp only)) | ((fail_if_success (with_reducible show KswEnd _ _ _ _ _ _ _ _ _ _ _ _)); (first | ((with_reducible show wpAny _ _ (storeName _ _ _) _ _ _); (k_here; k_dflt (refine' storeX_LL ?F ?N ?_; (case F => k_asm); (case N => k_asm)); intro h' m' F' N')) | ((with_reducible show wpAny _ _ (execs (_ :: _) _) _ _ _); (k_here; refine execs_cons_S ?_; intro q9 s9)) | ((with_reducible show wpAny _ _ (binaryOp Operator.Add (Value.str _ _) (Value.str _ _)) _ _ _); (k_here; (try dsimp only); (with_reducible show wpAny _ _ (binaryOp _ (Value.str (rep 34 _) _) (Value.str _ _)) _ _ _); (refine SB.add ?h1 ?h2); (case h2 => (rw [rep_length, show (Str.ofString "\"").length = 1 by decide, sizeLine_eq]; omega)); intro _ _; rw [rep_snoc 34 _ _ (by decide)])) | (k_here; (with_reducible show wpAny _ _ (subscriptTail _ _ (Value.str (q257 _) _) (Value.int _ _)) _ _ _); (refine item_str ?h1 ?h2 ?h3 ?_); (case h1 => exact fitsSsize_of (N := 9223372036854775808) (by omega) (by omega) (Int.le_refl _)); (case h2 => (rw [q257_length]; omega)); (case h3 => (rw [q257_length]; omega)); intro _; rw [q257_item _ _ (by omega) (by omega)]) | (k_here; (with_reducible show wpAny _ _ (call (Value.builtin "len") [Value.str (q257 _) _]) _ _ _); (refine SBL.len ?h1 ?_); (case h1 => (rw [q257_length]; omega)); rw [q257_length]) | ((with_reducible show wpAny _ _ (subscriptTail (Expr.Name _ _) (Expr.Slice _ _ _ _) (Value.str _ _) (Value.ref _)) _ _ _); (k_here; (with_reducible rename Fr _ _ _ _ => F'); (with_reducible rename News _ _ _ _ => N'); first | ((with_reducible show wpAny _ _ (subscriptTail _ (Expr.Slice none (some _) none _) (Value.str (q257 _) _) _) _ _ _); (refine slice_strN_ns (hsz := ?hsz) (s := ⟨_, _, _, _, _⟩) F' N' ?_); (case hsz => assumption); intro _ _ _ _ _; rw [q257_head]) | ((with_reducible show wpAny _ _ (subscriptTail _ (Expr.Slice (some _) (some _) none _) (Value.str (q257 _) _) _) _ _ _); (refine slice_strN_ss (hsz := ?hsz) (s := ⟨_, _, _, _, _⟩) F' N' ?_); (case hsz => assumption); intro _ _ _ _ _; rw [q257_mid]))) | walk1)) | (dsimp only; (fail_if_success (with_reducible show KswEnd _ _ _ _ _ _ _ _ _ _ _ _)); (first | ((with_reducible show wpAny _ _ (storeName _ _ _) _ _ _); (k_here; k_dflt (refine' storeX_LL ?F ?N ?_; (case F => k_asm); (case N => k_asm)); intro h' m' F' N')) | ((with_reducible show wpAny _ _ (execs (_ :: _) _) _ _ _); (k_here; refine execs_cons_S ?_; intro q9 s9)) | ((with_reducible show wpAny _ _ (binaryOp Operator.Add (Value.str _ _) (Value.str _ _)) _ _ _); (k_here; (try dsimp only); (with_reducible show wpAny _ _ (binaryOp _ (Value.str (rep 34 _) _) (Value.str _ _)) _ _ _); (refine SB.add ?h1 ?h2); (case h2 => (rw [rep_length, show (Str.ofString "\"").length = 1 by decide, sizeLine_eq]; omega)); intro _ _; rw [rep_snoc 34 _ _ (by decide)])) | (k_here; (with_reducible show wpAny _ _ (subscriptTail _ _ (Value.str (q257 _) _) (Value.int _ _)) _ _ _); (refine item_str ?h1 ?h2 ?h3 ?_); (case h1 => exact fitsSsize_of (N := 9223372036854775808) (by omega) (by omega) (Int.le_refl _)); (case h2 => (rw [q257_length]; omega)); (case h3 => (rw [q257_length]; omega)); intro _; rw [q257_item _ _ (by omega) (by omega)]) | (k_here; (with_reducible show wpAny _ _ (call (Value.builtin "len") [Value.str (q257 _) _]) _ _ _); (refine SBL.len ?h1 ?_); (case h1 => (rw [q257_length]; omega)); rw [q257_length]) | ((with_reducible show wpAny _ _ (subscriptTail (Expr.Name _ _) (Expr.Slice _ _ _ _) (Value.str _ _) (Value.ref _)) _ _ _); (k_here; (with_reducible rename Fr _ _ _ _ => F'); (with_reducible rename News _ _ _ _ => N'); first | ((with_reducible show wpAny _ _ (subscriptTail _ (Expr.Slice none (some _) none _) (Value.str (q257 _) _) _) _ _ _); (refine slice_strN_ns (hsz := ?hsz) (s := ⟨_, _, _, _, _⟩) F' N' ?_); (case hsz => assumption); intro _ _ _ _ _; rw [q257_head]) | ((with_reducible show wpAny _ _ (subscriptTail _ (Expr.Slice (some _) (some _) none _) (Value.str (q257 _) _) _) _ _ _); (refine slice_strN_ss (hsz := ?hsz) (s := ⟨_, _, _, _, _⟩) F' N' ?_); (case hsz => assumption); intro _ _ _ _ _; rw [q257_mid]))) | walk1))))
    · have e : n / 2 = k := by dsimp only at *; omega
      rw [e] at hret
      exact hret _ _ _ (by assumption) (by assumption)
    · refine' ksw_end (k + 1, _, _) (by assumption) (by assumption) (fun _ h => h) trivial ?hk9 ?hr9 ?hp9 ?hm9
      case hk9 =>
        intro p hp
        rcases List.mem_cons.mp hp with rfl | hp
        · exact rfl
        · obtain rfl := List.mem_singleton.mp hp
          exact intEq (show 5 + 2 * (k : Int) + 1 + 1 = 5 + 2 * ((k + 1 : Nat) : Int) by omega)
      case hr9 => ((intro z h2 h3; simp only [List.forall_mem_cons, List.not_mem_nil, false_implies, implies_true, and_true, ne_eq, List.contains_cons, List.contains_nil, Bool.or_false, Bool.or_eq_false_iff, beq_eq_false_iff_ne] at h2 h3; simp +zetaDelta [h2, h3, kstB]))
      case hp9 => dsimp only at *; omega
      case hm9 => dsimp only at *; omega
    · have e : n / 2 = k := by dsimp only at *; omega
      rw [e] at hret
      exact hret _ _ _ (by assumption) (by assumption)
end Mine
-- part D4_left0
namespace Mine
set_option maxRecDepth 100000 in
set_option maxHeartbeats 8000000 in
theorem left0_ok {w : World} {mean : ExcName → Option Value} {mg mb : Str → Option Value}
    {dp un : Nat} {gd : Option (List Code)} {cn : Str} {cs : Scope} {a : Addr} {ccd : Value} {cl : List (Str × Addr)} {outer : List Env} {A₀ : Around} {base h₀ : Heap} {L : Addr} {m : Str → Option Value} {news : List (Addr × Obj)} {s : Shared} {Q E : Value → Shared → Prop} {n b : Int} {tn tb : Tok} {l : Addr} {k : Nat}
    (B : Below A₀ base outer h₀) (F : Fr h₀ L s.heap m) (X : (Mine.hq.hd.heap_39 w.params).In h₀) (N : News h₀ L s.heap news)
    (T : Top Mine.hq.hd.view_39 [Str.ofString "Whitespace", Str.ofString "EXACT_TOKEN_TYPES"] mean mg mb h₀) (hk : cs.kind = .function)
    (hl : (l, ({ cls := .type "list", data := .seq (List.toArray []) k } : Obj)) ∈ news) (hb : BaseOk n b) (hd : dp + 1 < recursionLimit)
    (hret : ∀ (t : Tok) (h' : Heap) (tk' : Nat), Fr h₀ L h' m → News h₀ L h' news → Q (.int (leftV [] n b) t) { s with heap := h', toks := tk' }) :
    wpAny (model PySem.Challenge.rw_wo0066_01.prog w) (ktrTop dp un gd cn cs L a ccd cl outer) (call (.ref 183) [.int n tn, .ref l, .int b tb]) Q E s := by
  w_top off
  revert X; k_fill; intro X
  refine wpAny_call ?_
  k_dflt cell_enter
  refine let_AE ?_
  intro A9 env9
  (repeat' (first | (with_reducible show RgAt _ _ _ _ _ _ _ _ _ _ _; fail) | (k_unfold; (try dsimp only)) | (first | ((with_reducible show wpAny _ _ (storeName _ _ (Value.int _ _)) _ _ _); (k_here; k_dflt (refine' storeX_LL ?F ?N ?_; (case F => k_asm); (case N => k_asm)); intro h' m' F' N')) | ((with_reducible show wpAny _ _ (execs (_ :: _) _) _ _ _); (k_here; refine execs_cons_S ?_; intro q9 s9)) | ((with_reducible show RgPost _ _ _ _ _ _ _ _ _ _ _ _ _ _ _); (dsimp only [RgPost])) | ((with_reducible show wpAny _ _ (binaryOp Operator.Mult (Value.int _ _) (Value.int _ _)) _ _ _); (k_here; (refine mul_int ?_ ?hm); (case hm => assumption))) | (k_here; (with_reducible show wpAny _ _ (exec (Stmt.For (Expr.Name (Str.ofString "turn") _) _ _ _ _) _) _ _ _); (rename Fr _ _ _ _ => lF'); (with_unfolding_all refine' For_rg lF' ?k0 ?k1 ?k2 ?_; (case k0 => exact rfl); (case k1 => exact rfl); (case k2 => exact rfl)); (try k_fold)) | walk1) | (dsimp only; (first | ((with_reducible show wpAny _ _ (storeName _ _ (Value.int _ _)) _ _ _); (k_here; k_dflt (refine' storeX_LL ?F ?N ?_; (case F => k_asm); (case N => k_asm)); intro h' m' F' N')) | ((with_reducible show wpAny _ _ (execs (_ :: _) _) _ _ _); (k_here; refine execs_cons_S ?_; intro q9 s9)) | ((with_reducible show RgPost _ _ _ _ _ _ _ _ _ _ _ _ _ _ _); (dsimp only [RgPost])) | ((with_reducible show wpAny _ _ (binaryOp Operator.Mult (Value.int _ _) (Value.int _ _)) _ _ _); (k_here; (refine mul_int ?_ ?hm); (case hm => assumption))) | (k_here; (with_reducible show wpAny _ _ (exec (Stmt.For (Expr.Name (Str.ofString "turn") _) _ _ _ _) _) _ _ _); (rename Fr _ _ _ _ => lF'); (with_unfolding_all refine' For_rg lF' ?k0 ?k1 ?k2 ?_; (case k0 => exact rfl); (case k1 => exact rfl); (case k2 => exact rfl)); (try k_fold)) | walk1))))
  rename IsRange _ _ _ _ _ _ _ _ => hR
  rename Fr _ _ _ _ => F1
  rename News _ _ _ _ => N1
  have hb1 := hb.n1
  have hb48 := hb.n48
  have hb2 := hb.b2
  have hbl := hb.b_le
  have hB0 : (0 : Int) ≤ Big := by decide
  refine' rg_intro (σ := Tok × Int) (n - 1).toNat (fun _ => news) (fun c => [(Str.ofString "total", .int c.2 c.1)]) [] (fun i c gs => c.2 = tot b i ∧ gs = s.gens) (_, b) hR (.inl (by omega)) (by omega) (by omega) (by omega) F1 N1 ?kk ⟨rfl, rfl⟩ ?turn ?done
  case kk => ((try dsimp +zetaDelta only); kst_all)
  case turn =>
    rintro i ⟨t1, tv⟩ t u h tk gs I o hi ⟨he, rfl⟩ hoff F2 N2
    dsimp only at he
    subst he
    clear F1 N1
    have hti := tot_ok hb (i := i) (by omega)
    have hm : IntMulOk (tot b i + 1) b := mulOk_big (by omega) (by omega) (by omega) (by omega)
    (repeat' (first | (with_reducible show RgEnd _ _ _ _ _ _ _ _ _ _ _ _ _; fail) | (k_unfold; (try dsimp only)) | (first | ((with_reducible show wpAny _ _ (storeName _ _ (Value.int _ _)) _ _ _); (k_here; k_dflt (refine' storeX_LL ?F ?N ?_; (case F => k_asm); (case N => k_asm)); intro h' m' F' N')) | ((with_reducible show wpAny _ _ (execs (_ :: _) _) _ _ _); (k_here; refine execs_cons_S ?_; intro q9 s9)) | ((with_reducible show RgPost _ _ _ _ _ _ _ _ _ _ _ _ _ _ _); (dsimp only [RgPost])) | ((with_reducible show wpAny _ _ (binaryOp Operator.Mult (Value.int _ _) (Value.int _ _)) _ _ _); (k_here; (refine mul_int ?_ ?hm); (case hm => assumption))) | (k_here; (with_reducible show wpAny _ _ (exec (Stmt.For (Expr.Name (Str.ofString "turn") _) _ _ _ _) _) _ _ _); (rename Fr _ _ _ _ => lF'); (with_unfolding_all refine' For_rg lF' ?k0 ?k1 ?k2 ?_; (case k0 => exact rfl); (case k1 => exact rfl); (case k2 => exact rfl)); (try k_fold)) | walk1) | (dsimp only; (first | ((with_reducible show wpAny _ _ (storeName _ _ (Value.int _ _)) _ _ _); (k_here; k_dflt (refine' storeX_LL ?F ?N ?_; (case F => k_asm); (case N => k_asm)); intro h' m' F' N')) | ((with_reducible show wpAny _ _ (execs (_ :: _) _) _ _ _); (k_here; refine execs_cons_S ?_; intro q9 s9)) | ((with_reducible show RgPost _ _ _ _ _ _ _ _ _ _ _ _ _ _ _); (dsimp only [RgPost])) | ((with_reducible show wpAny _ _ (binaryOp Operator.Mult (Value.int _ _) (Value.int _ _)) _ _ _); (k_here; (refine mul_int ?_ ?hm); (case hm => assumption))) | (k_here; (with_reducible show wpAny _ _ (exec (Stmt.For (Expr.Name (Str.ofString "turn") _) _ _ _ _) _) _ _ _); (rename Fr _ _ _ _ => lF'); (with_unfolding_all refine' For_rg lF' ?k0 ?k1 ?k2 ?_; (case k0 => exact rfl); (case k1 => exact rfl); (case k2 => exact rfl)); (try k_fold)) | walk1))))
    refine' rg_end (_, tot b (i + 1)) (by assumption) (by assumption) (fun p hp => List.mem_cons_of_mem _ hp) (List.mem_cons_self ..) hoff ?hk9 ?hr9 ⟨rfl, rfl⟩
    case hk9 => ((try dsimp +zetaDelta only); kst_all)
    case hr9 => ((intro z h1 h2 h3; simp only [List.forall_mem_cons, List.not_mem_nil, false_implies, implies_true, and_true, ne_eq, List.contains_cons, List.contains_nil, Bool.or_false, Bool.or_eq_false_iff, beq_eq_false_iff_ne] at h1 h2 h3; simp +zetaDelta [h1, h2, h3, kstB]))
  case done =>
    rintro ⟨t1, tv⟩ u h tk gs ⟨he, rfl⟩ F2 N2
    dsimp only at he
    subst he
    clear F1 N1
    repeat' (first | (k_unfold; (try dsimp only)) | (first | ((with_reducible show wpAny _ _ (storeName _ _ (Value.int _ _)) _ _ _); (k_here; k_dflt (refine' storeX_LL ?F ?N ?_; (case F => k_asm); (case N => k_asm)); intro h' m' F' N')) | ((with_reducible show wpAny _ _ (execs (_ :: _) _) _ _ _); (k_here; refine execs_cons_S ?_; intro q9 s9)) | ((with_reducible show RgPost _ _ _ _ _ _ _ _ _ _ _ _ _ _ _); (dsimp only [RgPost])) | ((with_reducible show wpAny _ _ (binaryOp Operator.Mult (Value.int _ _) (Value.int _ _)) _ _ _); (k_here; (refine mul_int ?_ ?hm); (case hm => assumption))) | (k_here; (with_reducible show wpAny _ _ (exec (Stmt.For (Expr.Name (Str.ofString "turn") _) _ _ _ _) _) _ _ _); (rename Fr _ _ _ _ => lF'); (with_unfolding_all refine' For_rg lF' ?k0 ?k1 ?k2 ?_; (case k0 => exact rfl); (case k1 => exact rfl); (case k2 => exact rfl)); (try k_fold)) | walk1) | (dsimp only; (first | ((with_reducible show wpAny _ _ (storeName _ _ (Value.int _ _)) _ _ _); (k_here; k_dflt (refine' storeX_LL ?F ?N ?_; (case F => k_asm); (case N => k_asm)); intro h' m' F' N')) | ((with_reducible show wpAny _ _ (execs (_ :: _) _) _ _ _); (k_here; refine execs_cons_S ?_; intro q9 s9)) | ((with_reducible show RgPost _ _ _ _ _ _ _ _ _ _ _ _ _ _ _); (dsimp only [RgPost])) | ((with_reducible show wpAny _ _ (binaryOp Operator.Mult (Value.int _ _) (Value.int _ _)) _ _ _); (k_here; (refine mul_int ?_ ?hm); (case hm => assumption))) | (k_here; (with_reducible show wpAny _ _ (exec (Stmt.For (Expr.Name (Str.ofString "turn") _) _ _ _ _) _) _ _ _); (rename Fr _ _ _ _ => lF'); (with_unfolding_all refine' For_rg lF' ?k0 ?k1 ?k2 ?_; (case k0 => exact rfl); (case k1 => exact rfl); (case k2 => exact rfl)); (try k_fold)) | walk1)))
    exact hret _ _ _ (by assumption) (by assumption)
end Mine
-- part D5_leftstep
namespace Mine
-- to the second call of _law_left
section
variable {prog : Program} {w : World} {A : Around} {E : Value → Shared → Prop} {s : Shared}
theorem item0 {value slice : PySem.Expr} {l : Addr} {v : Value} {vs : List Value} {u : Tok} {Q : Value → Shared → Prop}
    (hl : s.heap.IsList l (List.toArray (v :: vs))) (h : Q v s)
    (hs : subscripted slice false (.ref l) (.int 0 u) = operate [.ref l, .int 0 u] (getItem (.ref l) (.int 0 u)) := by with_unfolding_all rfl) :
    wpAny (model prog w) A (subscriptTail value slice (.ref l) (.int 0 u)) Q E s :=
  tail_any hl.typeIs slot_list_getitem.lookup (wpAny_getItem_list hl (by decide) (by decide) (by simp) h) hs
end
theorem pick1 (v : Value) (vs : List Value) : kms_pick (List.toArray (v :: vs)).toList (some 1) none = vs := by
  simp [kms_pick, kms_lo, kms_hi]
theorem TupsIn.len {news : List (Addr × Obj)} : ∀ {vs : List Value} {lots : List (Int × Int × Int)}, TupsIn news vs lots → vs.length = lots.length
  | [], [], _ => rfl
  | _ :: _, _ :: _, ⟨_, r⟩ => by rw [List.length_cons, List.length_cons, r.len]
noncomputable def shareI (p n : Int) : Nat → Int
  | 0 => n
  | i + 1 => shareI p n i / p
theorem shareI_le {p n : Int} (hp : 1 ≤ p) (h0 : 0 ≤ n) (h1 : n ≤ 48) : ∀ i, 0 ≤ shareI p n i ∧ shareI p n i ≤ 48 := by
  intro i
  induction i with
  | zero => exact ⟨h0, h1⟩
  | succ i ih =>
    show 0 ≤ shareI p n i / p ∧ shareI p n i / p ≤ 48
    refine ⟨Int.ediv_nonneg ih.1 (by omega), ?_⟩
    exact Int.le_trans (Int.ediv_le_self _ ih.1) ih.2
theorem shareI_eq {p n t : Int} (ht : t = 1 ∨ t = 2) : shareI p n t.toNat = shareV p t n := by
  rcases ht with rfl | rfl <;> rfl
set_option maxRecDepth 100000 in
set_option maxHeartbeats 8000000 in
theorem left_step {w : World} {h p t : Int} {r : List (Int × Int × Int)} (S : ShareHyp w) (IH : LeftHyp w r) (ok : LotOk h p t) (hr : r.length ≤ 3) : LeftHyp w ((h, p, t) :: r) := by
  intro n b tn tb l hb mean mg mb dp un gd cn cs a ccd cl outer A₀ base h₀ L m news s Q E B F X N T hk hp hg hd hu hret
  obtain ⟨vs, k, hl, ht⟩ := hp
  match vs, ht with
  | [], ht => exact ht.elim
  | v :: vs, ht =>
  obtain ⟨⟨a1, k1, th, tp, tt, rfl, hm1⟩, htr⟩ := ht
  have hlen := htr.len
  have hsm : vs.length ≤ 3 := by omega
  clear hlen
  simp only [List.length_cons] at hd hu
  have hret0 : shareV p t n = 0 → ∀ (t9 : Tok) (h' : Heap) (tk' : Nat) (gs' : Array GenState), Fr h₀ L h' m → News h₀ L h' news → AllBare gs' → Q (.int (leftV r n b) t9) { s with heap := h', toks := tk', gens := gs' } := by
    intro hz
    have e : leftV ((h, p, t) :: r) n b = leftV r n b := if_pos hz
    simp only [e] at hret
    exact hret
  have hret1 : shareV p t n ≠ 0 → ∀ (t9 : Tok) (h' : Heap) (tk' : Nat) (gs' : Array GenState), Fr h₀ L h' m → News h₀ L h' news → AllBare gs' → Q (.int (leftV r n b - leftV r (shareV p t n) (b ^ (p ^ t.toNat).toNat)) t9) { s with heap := h', toks := tk', gens := gs' } := by
    intro hz
    have e : leftV ((h, p, t) :: r) n b = leftV r n b - leftV r (shareV p t n) (b ^ (p ^ t.toNat).toNat) := if_neg hz
    simp only [e] at hret
    exact hret
  clear hret
  w_top off
  revert X; k_fill; intro X
  refine wpAny_call ?_
  k_dflt cell_enter
  (repeat' (first | (with_reducible show RgAt _ _ _ _ _ _ _ _ _ _ _; fail) | (k_unfold; (try dsimp only)) | (first | ((with_reducible show wpAny _ _ (storeName _ _ _) _ _ _); (k_here; k_dflt (refine' storeX_LL ?F ?N ?_; (case F => k_asm); (case N => k_asm)); intro h' m' F' N')) | ((with_reducible show wpAny _ _ (execs (_ :: _) _) _ _ _); (k_here; refine execs_cons_S ?_; intro q9 s9)) | ((with_reducible show wpAny _ _ (binaryOp Operator.Pow (Value.int _ _) (Value.int _ _)) _ _ _); (k_here; first | ((refine pow_int_small ?z1 ?z2 ?z3 ?_); (case z1 => assumption); (case z2 => assumption); (case z3 => assumption)) | ((refine pow_int ?z1 ?z2 ?_); (case z1 => assumption); (case z2 => assumption)))) | ((with_reducible show wpAny _ _ (call (Value.ref _) _) _ _ _); (k_here; k_dflt (show wpAny _ _ (call (Value.ref 136) [Value.int _ _]) _ _ _); refine wpAny_call ?_; k_dflt (refine' code_def ?k1 ?k2 ?k3 ?k4 ?k5 ?kA ?kF ?kK ?k6 ?k7 ?k8 ?k9 ?kB ?_ ?c2 ?c3 ?c4 ?c5; (case kA => exact rfl); (case kF => exact rfl); (case kK => first | exact rfl | assumption); (case k1 => k_asm); (case k2 => k_asm); (case k3 => k_asm); (case k4 => k_asm); (case k5 => k_asm); (case k6 => k_is); (case k7 => k_is); (case k8 => ktr_room); (case k9 => exact BindsTo.of_eq rfl); (case c5 => decide); (case kB => exact locs rfl); (case c2 => exact rfl); (case c3 => exact rfl); (case c4 => exact rfl); k_whole; intro g' L' h' FG' F' N' B' X' T'; (try dsimp only); (try k_lift B'); (try k_fold)))) | ((with_reducible show wpAny _ _ (call (Value.ref _) _) _ _ _); (k_here; k_dflt (show wpAny _ _ (call (Value.ref 183) [Value.int _ _, Value.ref _, Value.int _ _]) _ _ _); (with_reducible rename LeftHyp _ _ => S'); k_dflt (refine' Cal.use (S' _ _ _ _ _ ?z1) ?zB ?zF ?zX ?zN ?zT ?zk ?zp ?zg ?zd ?zu ?_); (case z1 => assumption); (((case zB => k_asm); (case zF => k_asm); (case zX => k_asm); (case zN => k_asm); (case zT => k_asm); (case zk => first | exact rfl | assumption))); (case zp => (refine ⟨_, _, by k_dflt k_mem, ?_⟩; refine' TupsIn.mono ?zs ?zh; (case zh => assumption); (case zs => (intro p hp; first | exact List.mem_cons_of_mem _ hp | exact List.mem_cons_of_mem _ (List.mem_cons_of_mem _ hp))))); (((case zg => (first | assumption | (dsimp only; assumption))); (case zd => ktr_room); (case zu => ktr_units); intro t9 h9 tk9 gs9 F9 N9 hg9; (try dsimp only); (try k_fold))))) | ((with_reducible show wpAny _ _ (call (Value.ref _) _) _ _ _); (k_here; k_dflt (show wpAny _ _ (call (Value.ref 176) [Value.int _ _, Value.int _ _, Value.int _ _]) _ _ _); (with_reducible rename ShareHyp _ => S'); k_dflt (refine' Cal.use (S' _ _ _ _ _ _ ?z1 ?z2 ?z3 ?z4 ?z5 ?z6 ?z7 ?z8) ?zB ?zF ?zX ?zN ?zT ?zk trivial ?zg ?zd ?zu ?_); (case z1 => (with_reducible assumption)); (case z2 => (with_reducible assumption)); (case z3 => (with_reducible assumption)); (case z4 => (with_reducible assumption)); (case z5 => (with_reducible assumption)); (case z6 => (with_reducible assumption)); (case z7 => assumption); (case z8 => assumption); (((case zB => k_asm); (case zF => k_asm); (case zX => k_asm); (case zN => k_asm); (case zT => k_asm); (case zk => first | exact rfl | assumption))); (((case zg => (first | assumption | (dsimp only; assumption))); (case zd => ktr_room); (case zu => ktr_units); intro t9 h9 tk9 gs9 F9 N9 hg9; (try dsimp only); (try k_fold))))) | ((with_reducible show wpAny _ _ (subscriptTail (Expr.Name _ _) (Expr.Slice _ _ _ _) (Value.ref _) (Value.ref _)) _ _ _); (k_here; (with_reducible rename News _ _ _ _ => N'); k_dflt (refine' kms_slice_lit ?zF N' ?zl ?zp ?zq ?ze ?_ ?zs ?zt ?zz); (case zF => k_asm); (case zl => first | exact News.isList N' (by k_mem) | exact News.isList N' (List.mem_cons_of_mem _ (by assumption))); (case zp => kmk_part); (case zq => kmk_part); (case ze => exact pick1 _ _); (case zs => with_unfolding_all rfl); (case zt => kmk_pure); (case zz => (simp [sizeLine_eq]; omega)); intro D' h' F' N' l1)) | (k_here; (with_reducible show wpAny _ _ (subscriptTail (Expr.Name (Str.ofString "lots") _) _ (Value.ref _) (Value.int _ _)) _ _ _); (with_reducible rename News _ _ _ _ => N'); (refine item0 (News.isList N' (by k_mem)) ?_)) | (k_here; (with_reducible show wpAny _ _ (call (Value.builtin "len") [Value.ref _]) _ _ _); (with_reducible rename News _ _ _ _ => N'); (refine' call_len_list ?l ?f ?_); (case l => exact News.isList N' (by k_mem)); (case f => (simp; omega)); (try simp only [List.size_toArray, List.length_cons])) | ((with_reducible show RgPost _ _ _ _ _ _ _ _ _ _ _ _ _ _ _); (dsimp only [RgPost])) | (k_here; (with_reducible show wpAny _ _ (exec (Stmt.For (Expr.Name (Str.ofString "turn") _) _ _ _ _) _) _ _ _); (rename Fr _ _ _ _ => lF'); (with_unfolding_all refine' For_rg lF' ?k0 ?k1 ?k2 ?_; (case k0 => exact rfl); (case k1 => exact rfl); (case k2 => exact rfl)); (try k_fold)) | walk1) | (dsimp only; (first | ((with_reducible show wpAny _ _ (storeName _ _ _) _ _ _); (k_here; k_dflt (refine' storeX_LL ?F ?N ?_; (case F => k_asm); (case N => k_asm)); intro h' m' F' N')) | ((with_reducible show wpAny _ _ (execs (_ :: _) _) _ _ _); (k_here; refine execs_cons_S ?_; intro q9 s9)) | ((with_reducible show wpAny _ _ (binaryOp Operator.Pow (Value.int _ _) (Value.int _ _)) _ _ _); (k_here; first | ((refine pow_int_small ?z1 ?z2 ?z3 ?_); (case z1 => assumption); (case z2 => assumption); (case z3 => assumption)) | ((refine pow_int ?z1 ?z2 ?_); (case z1 => assumption); (case z2 => assumption)))) | ((with_reducible show wpAny _ _ (call (Value.ref _) _) _ _ _); (k_here; k_dflt (show wpAny _ _ (call (Value.ref 136) [Value.int _ _]) _ _ _); refine wpAny_call ?_; k_dflt (refine' code_def ?k1 ?k2 ?k3 ?k4 ?k5 ?kA ?kF ?kK ?k6 ?k7 ?k8 ?k9 ?kB ?_ ?c2 ?c3 ?c4 ?c5; (case kA => exact rfl); (case kF => exact rfl); (case kK => first | exact rfl | assumption); (case k1 => k_asm); (case k2 => k_asm); (case k3 => k_asm); (case k4 => k_asm); (case k5 => k_asm); (case k6 => k_is); (case k7 => k_is); (case k8 => ktr_room); (case k9 => exact BindsTo.of_eq rfl); (case c5 => decide); (case kB => exact locs rfl); (case c2 => exact rfl); (case c3 => exact rfl); (case c4 => exact rfl); k_whole; intro g' L' h' FG' F' N' B' X' T'; (try dsimp only); (try k_lift B'); (try k_fold)))) | ((with_reducible show wpAny _ _ (call (Value.ref _) _) _ _ _); (k_here; k_dflt (show wpAny _ _ (call (Value.ref 183) [Value.int _ _, Value.ref _, Value.int _ _]) _ _ _); (with_reducible rename LeftHyp _ _ => S'); k_dflt (refine' Cal.use (S' _ _ _ _ _ ?z1) ?zB ?zF ?zX ?zN ?zT ?zk ?zp ?zg ?zd ?zu ?_); (case z1 => assumption); (((case zB => k_asm); (case zF => k_asm); (case zX => k_asm); (case zN => k_asm); (case zT => k_asm); (case zk => first | exact rfl | assumption))); (case zp => (refine ⟨_, _, by k_dflt k_mem, ?_⟩; refine' TupsIn.mono ?zs ?zh; (case zh => assumption); (case zs => (intro p hp; first | exact List.mem_cons_of_mem _ hp | exact List.mem_cons_of_mem _ (List.mem_cons_of_mem _ hp))))); (((case zg => (first | assumption | (dsimp only; assumption))); (case zd => ktr_room); (case zu => ktr_units); intro t9 h9 tk9 gs9 F9 N9 hg9; (try dsimp only); (try k_fold))))) | ((with_reducible show wpAny _ _ (call (Value.ref _) _) _ _ _); (k_here; k_dflt (show wpAny _ _ (call (Value.ref 176) [Value.int _ _, Value.int _ _, Value.int _ _]) _ _ _); (with_reducible rename ShareHyp _ => S'); k_dflt (refine' Cal.use (S' _ _ _ _ _ _ ?z1 ?z2 ?z3 ?z4 ?z5 ?z6 ?z7 ?z8) ?zB ?zF ?zX ?zN ?zT ?zk trivial ?zg ?zd ?zu ?_); (case z1 => (with_reducible assumption)); (case z2 => (with_reducible assumption)); (case z3 => (with_reducible assumption)); (case z4 => (with_reducible assumption)); (case z5 => (with_reducible assumption)); (case z6 => (with_reducible assumption)); (case z7 => assumption); (case z8 => assumption); (((case zB => k_asm); (case zF => k_asm); (case zX => k_asm); (case zN => k_asm); (case zT => k_asm); (case zk => first | exact rfl | assumption))); (((case zg => (first | assumption | (dsimp only; assumption))); (case zd => ktr_room); (case zu => ktr_units); intro t9 h9 tk9 gs9 F9 N9 hg9; (try dsimp only); (try k_fold))))) | ((with_reducible show wpAny _ _ (subscriptTail (Expr.Name _ _) (Expr.Slice _ _ _ _) (Value.ref _) (Value.ref _)) _ _ _); (k_here; (with_reducible rename News _ _ _ _ => N'); k_dflt (refine' kms_slice_lit ?zF N' ?zl ?zp ?zq ?ze ?_ ?zs ?zt ?zz); (case zF => k_asm); (case zl => first | exact News.isList N' (by k_mem) | exact News.isList N' (List.mem_cons_of_mem _ (by assumption))); (case zp => kmk_part); (case zq => kmk_part); (case ze => exact pick1 _ _); (case zs => with_unfolding_all rfl); (case zt => kmk_pure); (case zz => (simp [sizeLine_eq]; omega)); intro D' h' F' N' l1)) | (k_here; (with_reducible show wpAny _ _ (subscriptTail (Expr.Name (Str.ofString "lots") _) _ (Value.ref _) (Value.int _ _)) _ _ _); (with_reducible rename News _ _ _ _ => N'); (refine item0 (News.isList N' (by k_mem)) ?_)) | (k_here; (with_reducible show wpAny _ _ (call (Value.builtin "len") [Value.ref _]) _ _ _); (with_reducible rename News _ _ _ _ => N'); (refine' call_len_list ?l ?f ?_); (case l => exact News.isList N' (by k_mem)); (case f => (simp; omega)); (try simp only [List.size_toArray, List.length_cons])) | ((with_reducible show RgPost _ _ _ _ _ _ _ _ _ _ _ _ _ _ _); (dsimp only [RgPost])) | (k_here; (with_reducible show wpAny _ _ (exec (Stmt.For (Expr.Name (Str.ofString "turn") _) _ _ _ _) _) _ _ _); (rename Fr _ _ _ _ => lF'); (with_unfolding_all refine' For_rg lF' ?k0 ?k1 ?k2 ?_; (case k0 => exact rfl); (case k1 => exact rfl); (case k2 => exact rfl)); (try k_fold)) | walk1))))
  · exfalso; omega
  (repeat' (first | (with_reducible show RgAt _ _ _ _ _ _ _ _ _ _ _; fail) | (k_unfold; (try dsimp only)) | (first | ((with_reducible show wpAny _ _ (storeName _ _ _) _ _ _); (k_here; k_dflt (refine' storeX_LL ?F ?N ?_; (case F => k_asm); (case N => k_asm)); intro h' m' F' N')) | ((with_reducible show wpAny _ _ (execs (_ :: _) _) _ _ _); (k_here; refine execs_cons_S ?_; intro q9 s9)) | ((with_reducible show wpAny _ _ (binaryOp Operator.Pow (Value.int _ _) (Value.int _ _)) _ _ _); (k_here; first | ((refine pow_int_small ?z1 ?z2 ?z3 ?_); (case z1 => assumption); (case z2 => assumption); (case z3 => assumption)) | ((refine pow_int ?z1 ?z2 ?_); (case z1 => assumption); (case z2 => assumption)))) | ((with_reducible show wpAny _ _ (call (Value.ref _) _) _ _ _); (k_here; k_dflt (show wpAny _ _ (call (Value.ref 136) [Value.int _ _]) _ _ _); refine wpAny_call ?_; k_dflt (refine' code_def ?k1 ?k2 ?k3 ?k4 ?k5 ?kA ?kF ?kK ?k6 ?k7 ?k8 ?k9 ?kB ?_ ?c2 ?c3 ?c4 ?c5; (case kA => exact rfl); (case kF => exact rfl); (case kK => first | exact rfl | assumption); (case k1 => k_asm); (case k2 => k_asm); (case k3 => k_asm); (case k4 => k_asm); (case k5 => k_asm); (case k6 => k_is); (case k7 => k_is); (case k8 => ktr_room); (case k9 => exact BindsTo.of_eq rfl); (case c5 => decide); (case kB => exact locs rfl); (case c2 => exact rfl); (case c3 => exact rfl); (case c4 => exact rfl); k_whole; intro g' L' h' FG' F' N' B' X' T'; (try dsimp only); (try k_lift B'); (try k_fold)))) | ((with_reducible show wpAny _ _ (call (Value.ref _) _) _ _ _); (k_here; k_dflt (show wpAny _ _ (call (Value.ref 183) [Value.int _ _, Value.ref _, Value.int _ _]) _ _ _); (with_reducible rename LeftHyp _ _ => S'); k_dflt (refine' Cal.use (S' _ _ _ _ _ ?z1) ?zB ?zF ?zX ?zN ?zT ?zk ?zp ?zg ?zd ?zu ?_); (case z1 => assumption); (((case zB => k_asm); (case zF => k_asm); (case zX => k_asm); (case zN => k_asm); (case zT => k_asm); (case zk => first | exact rfl | assumption))); (case zp => (refine ⟨_, _, by k_dflt k_mem, ?_⟩; refine' TupsIn.mono ?zs ?zh; (case zh => assumption); (case zs => (intro p hp; first | exact List.mem_cons_of_mem _ hp | exact List.mem_cons_of_mem _ (List.mem_cons_of_mem _ hp))))); (((case zg => (first | assumption | (dsimp only; assumption))); (case zd => ktr_room); (case zu => ktr_units); intro t9 h9 tk9 gs9 F9 N9 hg9; (try dsimp only); (try k_fold))))) | ((with_reducible show wpAny _ _ (call (Value.ref _) _) _ _ _); (k_here; k_dflt (show wpAny _ _ (call (Value.ref 176) [Value.int _ _, Value.int _ _, Value.int _ _]) _ _ _); (with_reducible rename ShareHyp _ => S'); k_dflt (refine' Cal.use (S' _ _ _ _ _ _ ?z1 ?z2 ?z3 ?z4 ?z5 ?z6 ?z7 ?z8) ?zB ?zF ?zX ?zN ?zT ?zk trivial ?zg ?zd ?zu ?_); (case z1 => (with_reducible assumption)); (case z2 => (with_reducible assumption)); (case z3 => (with_reducible assumption)); (case z4 => (with_reducible assumption)); (case z5 => (with_reducible assumption)); (case z6 => (with_reducible assumption)); (case z7 => assumption); (case z8 => assumption); (((case zB => k_asm); (case zF => k_asm); (case zX => k_asm); (case zN => k_asm); (case zT => k_asm); (case zk => first | exact rfl | assumption))); (((case zg => (first | assumption | (dsimp only; assumption))); (case zd => ktr_room); (case zu => ktr_units); intro t9 h9 tk9 gs9 F9 N9 hg9; (try dsimp only); (try k_fold))))) | ((with_reducible show wpAny _ _ (subscriptTail (Expr.Name _ _) (Expr.Slice _ _ _ _) (Value.ref _) (Value.ref _)) _ _ _); (k_here; (with_reducible rename News _ _ _ _ => N'); k_dflt (refine' kms_slice_lit ?zF N' ?zl ?zp ?zq ?ze ?_ ?zs ?zt ?zz); (case zF => k_asm); (case zl => first | exact News.isList N' (by k_mem) | exact News.isList N' (List.mem_cons_of_mem _ (by assumption))); (case zp => kmk_part); (case zq => kmk_part); (case ze => exact pick1 _ _); (case zs => with_unfolding_all rfl); (case zt => kmk_pure); (case zz => (simp [sizeLine_eq]; omega)); intro D' h' F' N' l1)) | (k_here; (with_reducible show wpAny _ _ (subscriptTail (Expr.Name (Str.ofString "lots") _) _ (Value.ref _) (Value.int _ _)) _ _ _); (with_reducible rename News _ _ _ _ => N'); (refine item0 (News.isList N' (by k_mem)) ?_)) | (k_here; (with_reducible show wpAny _ _ (call (Value.builtin "len") [Value.ref _]) _ _ _); (with_reducible rename News _ _ _ _ => N'); (refine' call_len_list ?l ?f ?_); (case l => exact News.isList N' (by k_mem)); (case f => (simp; omega)); (try simp only [List.size_toArray, List.length_cons])) | ((with_reducible show RgPost _ _ _ _ _ _ _ _ _ _ _ _ _ _ _); (dsimp only [RgPost])) | (k_here; (with_reducible show wpAny _ _ (exec (Stmt.For (Expr.Name (Str.ofString "turn") _) _ _ _ _) _) _ _ _); (rename Fr _ _ _ _ => lF'); (with_unfolding_all refine' For_rg lF' ?k0 ?k1 ?k2 ?_; (case k0 => exact rfl); (case k1 => exact rfl); (case k2 => exact rfl)); (try k_fold)) | walk1) | (dsimp only; (first | ((with_reducible show wpAny _ _ (storeName _ _ _) _ _ _); (k_here; k_dflt (refine' storeX_LL ?F ?N ?_; (case F => k_asm); (case N => k_asm)); intro h' m' F' N')) | ((with_reducible show wpAny _ _ (execs (_ :: _) _) _ _ _); (k_here; refine execs_cons_S ?_; intro q9 s9)) | ((with_reducible show wpAny _ _ (binaryOp Operator.Pow (Value.int _ _) (Value.int _ _)) _ _ _); (k_here; first | ((refine pow_int_small ?z1 ?z2 ?z3 ?_); (case z1 => assumption); (case z2 => assumption); (case z3 => assumption)) | ((refine pow_int ?z1 ?z2 ?_); (case z1 => assumption); (case z2 => assumption)))) | ((with_reducible show wpAny _ _ (call (Value.ref _) _) _ _ _); (k_here; k_dflt (show wpAny _ _ (call (Value.ref 136) [Value.int _ _]) _ _ _); refine wpAny_call ?_; k_dflt (refine' code_def ?k1 ?k2 ?k3 ?k4 ?k5 ?kA ?kF ?kK ?k6 ?k7 ?k8 ?k9 ?kB ?_ ?c2 ?c3 ?c4 ?c5; (case kA => exact rfl); (case kF => exact rfl); (case kK => first | exact rfl | assumption); (case k1 => k_asm); (case k2 => k_asm); (case k3 => k_asm); (case k4 => k_asm); (case k5 => k_asm); (case k6 => k_is); (case k7 => k_is); (case k8 => ktr_room); (case k9 => exact BindsTo.of_eq rfl); (case c5 => decide); (case kB => exact locs rfl); (case c2 => exact rfl); (case c3 => exact rfl); (case c4 => exact rfl); k_whole; intro g' L' h' FG' F' N' B' X' T'; (try dsimp only); (try k_lift B'); (try k_fold)))) | ((with_reducible show wpAny _ _ (call (Value.ref _) _) _ _ _); (k_here; k_dflt (show wpAny _ _ (call (Value.ref 183) [Value.int _ _, Value.ref _, Value.int _ _]) _ _ _); (with_reducible rename LeftHyp _ _ => S'); k_dflt (refine' Cal.use (S' _ _ _ _ _ ?z1) ?zB ?zF ?zX ?zN ?zT ?zk ?zp ?zg ?zd ?zu ?_); (case z1 => assumption); (((case zB => k_asm); (case zF => k_asm); (case zX => k_asm); (case zN => k_asm); (case zT => k_asm); (case zk => first | exact rfl | assumption))); (case zp => (refine ⟨_, _, by k_dflt k_mem, ?_⟩; refine' TupsIn.mono ?zs ?zh; (case zh => assumption); (case zs => (intro p hp; first | exact List.mem_cons_of_mem _ hp | exact List.mem_cons_of_mem _ (List.mem_cons_of_mem _ hp))))); (((case zg => (first | assumption | (dsimp only; assumption))); (case zd => ktr_room); (case zu => ktr_units); intro t9 h9 tk9 gs9 F9 N9 hg9; (try dsimp only); (try k_fold))))) | ((with_reducible show wpAny _ _ (call (Value.ref _) _) _ _ _); (k_here; k_dflt (show wpAny _ _ (call (Value.ref 176) [Value.int _ _, Value.int _ _, Value.int _ _]) _ _ _); (with_reducible rename ShareHyp _ => S'); k_dflt (refine' Cal.use (S' _ _ _ _ _ _ ?z1 ?z2 ?z3 ?z4 ?z5 ?z6 ?z7 ?z8) ?zB ?zF ?zX ?zN ?zT ?zk trivial ?zg ?zd ?zu ?_); (case z1 => (with_reducible assumption)); (case z2 => (with_reducible assumption)); (case z3 => (with_reducible assumption)); (case z4 => (with_reducible assumption)); (case z5 => (with_reducible assumption)); (case z6 => (with_reducible assumption)); (case z7 => assumption); (case z8 => assumption); (((case zB => k_asm); (case zF => k_asm); (case zX => k_asm); (case zN => k_asm); (case zT => k_asm); (case zk => first | exact rfl | assumption))); (((case zg => (first | assumption | (dsimp only; assumption))); (case zd => ktr_room); (case zu => ktr_units); intro t9 h9 tk9 gs9 F9 N9 hg9; (try dsimp only); (try k_fold))))) | ((with_reducible show wpAny _ _ (subscriptTail (Expr.Name _ _) (Expr.Slice _ _ _ _) (Value.ref _) (Value.ref _)) _ _ _); (k_here; (with_reducible rename News _ _ _ _ => N'); k_dflt (refine' kms_slice_lit ?zF N' ?zl ?zp ?zq ?ze ?_ ?zs ?zt ?zz); (case zF => k_asm); (case zl => first | exact News.isList N' (by k_mem) | exact News.isList N' (List.mem_cons_of_mem _ (by assumption))); (case zp => kmk_part); (case zq => kmk_part); (case ze => exact pick1 _ _); (case zs => with_unfolding_all rfl); (case zt => kmk_pure); (case zz => (simp [sizeLine_eq]; omega)); intro D' h' F' N' l1)) | (k_here; (with_reducible show wpAny _ _ (subscriptTail (Expr.Name (Str.ofString "lots") _) _ (Value.ref _) (Value.int _ _)) _ _ _); (with_reducible rename News _ _ _ _ => N'); (refine item0 (News.isList N' (by k_mem)) ?_)) | (k_here; (with_reducible show wpAny _ _ (call (Value.builtin "len") [Value.ref _]) _ _ _); (with_reducible rename News _ _ _ _ => N'); (refine' call_len_list ?l ?f ?_); (case l => exact News.isList N' (by k_mem)); (case f => (simp; omega)); (try simp only [List.size_toArray, List.length_cons])) | ((with_reducible show RgPost _ _ _ _ _ _ _ _ _ _ _ _ _ _ _); (dsimp only [RgPost])) | (k_here; (with_reducible show wpAny _ _ (exec (Stmt.For (Expr.Name (Str.ofString "turn") _) _ _ _ _) _) _ _ _); (rename Fr _ _ _ _ => lF'); (with_unfolding_all refine' For_rg lF' ?k0 ?k1 ?k2 ?_; (case k0 => exact rfl); (case k1 => exact rfl); (case k2 => exact rfl)); (try k_fold)) | walk1))))
  rename IsRange _ _ _ _ _ _ _ _ => hR
  rename Fr _ _ _ _ => F1
  rename News _ _ _ _ => N1
  have hb1 := hb.n1
  have hb48 := hb.n48
  have ht12 := ok.t12
  have oh0 := ok.h0
  have oh3 := ok.h3
  have op1 := ok.p1
  have op40 := ok.p40
  have op2 := ok.p2
  have op3 := ok.p3
  refine' rg_intro (σ := Tok × Int) t.toNat (fun _ => news) (fun c => [(Str.ofString "share", .int c.2 c.1)]) [] (fun i c gs => c.2 = shareI p n i ∧ AllBare gs) (_, n) hR (.inl (by omega)) (by omega) (by omega) (by omega) F1 N1 ?kk ⟨rfl, hg⟩ ?turn ?done
  case kk => ((try dsimp +zetaDelta only); kst_all)
  case turn =>
    rintro i ⟨t1, tv⟩ t9 u h tk gs I o hi ⟨he, hg2⟩ hoff F2 N2
    dsimp only at he
    subst he
    clear F1 N1 hg
    have hsi := shareI_le op1 (show 0 ≤ n by omega) hb48 i
    have hs0 := hsi.1
    have hs1 := hsi.2
    (repeat' (first | (with_reducible show RgEnd _ _ _ _ _ _ _ _ _ _ _ _ _; fail) | (k_unfold; (try dsimp only)) | (first | ((with_reducible show wpAny _ _ (storeName _ _ _) _ _ _); (k_here; k_dflt (refine' storeX_LL ?F ?N ?_; (case F => k_asm); (case N => k_asm)); intro h' m' F' N')) | ((with_reducible show wpAny _ _ (execs (_ :: _) _) _ _ _); (k_here; refine execs_cons_S ?_; intro q9 s9)) | ((with_reducible show wpAny _ _ (binaryOp Operator.Pow (Value.int _ _) (Value.int _ _)) _ _ _); (k_here; first | ((refine pow_int_small ?z1 ?z2 ?z3 ?_); (case z1 => assumption); (case z2 => assumption); (case z3 => assumption)) | ((refine pow_int ?z1 ?z2 ?_); (case z1 => assumption); (case z2 => assumption)))) | ((with_reducible show wpAny _ _ (call (Value.ref _) _) _ _ _); (k_here; k_dflt (show wpAny _ _ (call (Value.ref 136) [Value.int _ _]) _ _ _); refine wpAny_call ?_; k_dflt (refine' code_def ?k1 ?k2 ?k3 ?k4 ?k5 ?kA ?kF ?kK ?k6 ?k7 ?k8 ?k9 ?kB ?_ ?c2 ?c3 ?c4 ?c5; (case kA => exact rfl); (case kF => exact rfl); (case kK => first | exact rfl | assumption); (case k1 => k_asm); (case k2 => k_asm); (case k3 => k_asm); (case k4 => k_asm); (case k5 => k_asm); (case k6 => k_is); (case k7 => k_is); (case k8 => ktr_room); (case k9 => exact BindsTo.of_eq rfl); (case c5 => decide); (case kB => exact locs rfl); (case c2 => exact rfl); (case c3 => exact rfl); (case c4 => exact rfl); k_whole; intro g' L' h' FG' F' N' B' X' T'; (try dsimp only); (try k_lift B'); (try k_fold)))) | ((with_reducible show wpAny _ _ (call (Value.ref _) _) _ _ _); (k_here; k_dflt (show wpAny _ _ (call (Value.ref 183) [Value.int _ _, Value.ref _, Value.int _ _]) _ _ _); (with_reducible rename LeftHyp _ _ => S'); k_dflt (refine' Cal.use (S' _ _ _ _ _ ?z1) ?zB ?zF ?zX ?zN ?zT ?zk ?zp ?zg ?zd ?zu ?_); (case z1 => assumption); (((case zB => k_asm); (case zF => k_asm); (case zX => k_asm); (case zN => k_asm); (case zT => k_asm); (case zk => first | exact rfl | assumption))); (case zp => (refine ⟨_, _, by k_dflt k_mem, ?_⟩; refine' TupsIn.mono ?zs ?zh; (case zh => assumption); (case zs => (intro p hp; first | exact List.mem_cons_of_mem _ hp | exact List.mem_cons_of_mem _ (List.mem_cons_of_mem _ hp))))); (((case zg => (first | assumption | (dsimp only; assumption))); (case zd => ktr_room); (case zu => ktr_units); intro t9 h9 tk9 gs9 F9 N9 hg9; (try dsimp only); (try k_fold))))) | ((with_reducible show wpAny _ _ (call (Value.ref _) _) _ _ _); (k_here; k_dflt (show wpAny _ _ (call (Value.ref 176) [Value.int _ _, Value.int _ _, Value.int _ _]) _ _ _); (with_reducible rename ShareHyp _ => S'); k_dflt (refine' Cal.use (S' _ _ _ _ _ _ ?z1 ?z2 ?z3 ?z4 ?z5 ?z6 ?z7 ?z8) ?zB ?zF ?zX ?zN ?zT ?zk trivial ?zg ?zd ?zu ?_); (case z1 => (with_reducible assumption)); (case z2 => (with_reducible assumption)); (case z3 => (with_reducible assumption)); (case z4 => (with_reducible assumption)); (case z5 => (with_reducible assumption)); (case z6 => (with_reducible assumption)); (case z7 => assumption); (case z8 => assumption); (((case zB => k_asm); (case zF => k_asm); (case zX => k_asm); (case zN => k_asm); (case zT => k_asm); (case zk => first | exact rfl | assumption))); (((case zg => (first | assumption | (dsimp only; assumption))); (case zd => ktr_room); (case zu => ktr_units); intro t9 h9 tk9 gs9 F9 N9 hg9; (try dsimp only); (try k_fold))))) | ((with_reducible show wpAny _ _ (subscriptTail (Expr.Name _ _) (Expr.Slice _ _ _ _) (Value.ref _) (Value.ref _)) _ _ _); (k_here; (with_reducible rename News _ _ _ _ => N'); k_dflt (refine' kms_slice_lit ?zF N' ?zl ?zp ?zq ?ze ?_ ?zs ?zt ?zz); (case zF => k_asm); (case zl => first | exact News.isList N' (by k_mem) | exact News.isList N' (List.mem_cons_of_mem _ (by assumption))); (case zp => kmk_part); (case zq => kmk_part); (case ze => exact pick1 _ _); (case zs => with_unfolding_all rfl); (case zt => kmk_pure); (case zz => (simp [sizeLine_eq]; omega)); intro D' h' F' N' l1)) | (k_here; (with_reducible show wpAny _ _ (subscriptTail (Expr.Name (Str.ofString "lots") _) _ (Value.ref _) (Value.int _ _)) _ _ _); (with_reducible rename News _ _ _ _ => N'); (refine item0 (News.isList N' (by k_mem)) ?_)) | (k_here; (with_reducible show wpAny _ _ (call (Value.builtin "len") [Value.ref _]) _ _ _); (with_reducible rename News _ _ _ _ => N'); (refine' call_len_list ?l ?f ?_); (case l => exact News.isList N' (by k_mem)); (case f => (simp; omega)); (try simp only [List.size_toArray, List.length_cons])) | ((with_reducible show RgPost _ _ _ _ _ _ _ _ _ _ _ _ _ _ _); (dsimp only [RgPost])) | (k_here; (with_reducible show wpAny _ _ (exec (Stmt.For (Expr.Name (Str.ofString "turn") _) _ _ _ _) _) _ _ _); (rename Fr _ _ _ _ => lF'); (with_unfolding_all refine' For_rg lF' ?k0 ?k1 ?k2 ?_; (case k0 => exact rfl); (case k1 => exact rfl); (case k2 => exact rfl)); (try k_fold)) | walk1) | (dsimp only; (first | ((with_reducible show wpAny _ _ (storeName _ _ _) _ _ _); (k_here; k_dflt (refine' storeX_LL ?F ?N ?_; (case F => k_asm); (case N => k_asm)); intro h' m' F' N')) | ((with_reducible show wpAny _ _ (execs (_ :: _) _) _ _ _); (k_here; refine execs_cons_S ?_; intro q9 s9)) | ((with_reducible show wpAny _ _ (binaryOp Operator.Pow (Value.int _ _) (Value.int _ _)) _ _ _); (k_here; first | ((refine pow_int_small ?z1 ?z2 ?z3 ?_); (case z1 => assumption); (case z2 => assumption); (case z3 => assumption)) | ((refine pow_int ?z1 ?z2 ?_); (case z1 => assumption); (case z2 => assumption)))) | ((with_reducible show wpAny _ _ (call (Value.ref _) _) _ _ _); (k_here; k_dflt (show wpAny _ _ (call (Value.ref 136) [Value.int _ _]) _ _ _); refine wpAny_call ?_; k_dflt (refine' code_def ?k1 ?k2 ?k3 ?k4 ?k5 ?kA ?kF ?kK ?k6 ?k7 ?k8 ?k9 ?kB ?_ ?c2 ?c3 ?c4 ?c5; (case kA => exact rfl); (case kF => exact rfl); (case kK => first | exact rfl | assumption); (case k1 => k_asm); (case k2 => k_asm); (case k3 => k_asm); (case k4 => k_asm); (case k5 => k_asm); (case k6 => k_is); (case k7 => k_is); (case k8 => ktr_room); (case k9 => exact BindsTo.of_eq rfl); (case c5 => decide); (case kB => exact locs rfl); (case c2 => exact rfl); (case c3 => exact rfl); (case c4 => exact rfl); k_whole; intro g' L' h' FG' F' N' B' X' T'; (try dsimp only); (try k_lift B'); (try k_fold)))) | ((with_reducible show wpAny _ _ (call (Value.ref _) _) _ _ _); (k_here; k_dflt (show wpAny _ _ (call (Value.ref 183) [Value.int _ _, Value.ref _, Value.int _ _]) _ _ _); (with_reducible rename LeftHyp _ _ => S'); k_dflt (refine' Cal.use (S' _ _ _ _ _ ?z1) ?zB ?zF ?zX ?zN ?zT ?zk ?zp ?zg ?zd ?zu ?_); (case z1 => assumption); (((case zB => k_asm); (case zF => k_asm); (case zX => k_asm); (case zN => k_asm); (case zT => k_asm); (case zk => first | exact rfl | assumption))); (case zp => (refine ⟨_, _, by k_dflt k_mem, ?_⟩; refine' TupsIn.mono ?zs ?zh; (case zh => assumption); (case zs => (intro p hp; first | exact List.mem_cons_of_mem _ hp | exact List.mem_cons_of_mem _ (List.mem_cons_of_mem _ hp))))); (((case zg => (first | assumption | (dsimp only; assumption))); (case zd => ktr_room); (case zu => ktr_units); intro t9 h9 tk9 gs9 F9 N9 hg9; (try dsimp only); (try k_fold))))) | ((with_reducible show wpAny _ _ (call (Value.ref _) _) _ _ _); (k_here; k_dflt (show wpAny _ _ (call (Value.ref 176) [Value.int _ _, Value.int _ _, Value.int _ _]) _ _ _); (with_reducible rename ShareHyp _ => S'); k_dflt (refine' Cal.use (S' _ _ _ _ _ _ ?z1 ?z2 ?z3 ?z4 ?z5 ?z6 ?z7 ?z8) ?zB ?zF ?zX ?zN ?zT ?zk trivial ?zg ?zd ?zu ?_); (case z1 => (with_reducible assumption)); (case z2 => (with_reducible assumption)); (case z3 => (with_reducible assumption)); (case z4 => (with_reducible assumption)); (case z5 => (with_reducible assumption)); (case z6 => (with_reducible assumption)); (case z7 => assumption); (case z8 => assumption); (((case zB => k_asm); (case zF => k_asm); (case zX => k_asm); (case zN => k_asm); (case zT => k_asm); (case zk => first | exact rfl | assumption))); (((case zg => (first | assumption | (dsimp only; assumption))); (case zd => ktr_room); (case zu => ktr_units); intro t9 h9 tk9 gs9 F9 N9 hg9; (try dsimp only); (try k_fold))))) | ((with_reducible show wpAny _ _ (subscriptTail (Expr.Name _ _) (Expr.Slice _ _ _ _) (Value.ref _) (Value.ref _)) _ _ _); (k_here; (with_reducible rename News _ _ _ _ => N'); k_dflt (refine' kms_slice_lit ?zF N' ?zl ?zp ?zq ?ze ?_ ?zs ?zt ?zz); (case zF => k_asm); (case zl => first | exact News.isList N' (by k_mem) | exact News.isList N' (List.mem_cons_of_mem _ (by assumption))); (case zp => kmk_part); (case zq => kmk_part); (case ze => exact pick1 _ _); (case zs => with_unfolding_all rfl); (case zt => kmk_pure); (case zz => (simp [sizeLine_eq]; omega)); intro D' h' F' N' l1)) | (k_here; (with_reducible show wpAny _ _ (subscriptTail (Expr.Name (Str.ofString "lots") _) _ (Value.ref _) (Value.int _ _)) _ _ _); (with_reducible rename News _ _ _ _ => N'); (refine item0 (News.isList N' (by k_mem)) ?_)) | (k_here; (with_reducible show wpAny _ _ (call (Value.builtin "len") [Value.ref _]) _ _ _); (with_reducible rename News _ _ _ _ => N'); (refine' call_len_list ?l ?f ?_); (case l => exact News.isList N' (by k_mem)); (case f => (simp; omega)); (try simp only [List.size_toArray, List.length_cons])) | ((with_reducible show RgPost _ _ _ _ _ _ _ _ _ _ _ _ _ _ _); (dsimp only [RgPost])) | (k_here; (with_reducible show wpAny _ _ (exec (Stmt.For (Expr.Name (Str.ofString "turn") _) _ _ _ _) _) _ _ _); (rename Fr _ _ _ _ => lF'); (with_unfolding_all refine' For_rg lF' ?k0 ?k1 ?k2 ?_; (case k0 => exact rfl); (case k1 => exact rfl); (case k2 => exact rfl)); (try k_fold)) | walk1))))
    refine' rg_end (_, shareI p n (i + 1)) (by assumption) (by assumption) (fun p hp => List.mem_cons_of_mem _ hp) (List.mem_cons_self ..) hoff ?hk9 ?hr9 ⟨rfl, by assumption⟩
    case hk9 => ((try dsimp +zetaDelta only); kst_all)
    case hr9 => ((intro z h1 h2 h3; simp only [List.forall_mem_cons, List.not_mem_nil, false_implies, implies_true, and_true, ne_eq, List.contains_cons, List.contains_nil, Bool.or_false, Bool.or_eq_false_iff, beq_eq_false_iff_ne] at h1 h2 h3; simp +zetaDelta [h1, h2, h3, kstB]))
  case done =>
    rintro ⟨t1, tv⟩ u h tk gs ⟨he, hg2⟩ F2 N2
    dsimp only at he
    subst he
    clear F1 N1 hg
    have hse := shareI_eq (p := p) (n := n) ht12
    rw [hse] at F2
    (repeat' (first | (k_unfold; (try dsimp only)) | ((fail_if_success ((with_reducible rename shareV _ _ _ ≠ 0 => hz); (with_reducible show wpAny _ _ (subscriptTail _ (Expr.Slice _ _ _ _) _ _) _ _ _))); (first | ((with_reducible show wpAny _ _ (storeName _ _ _) _ _ _); (k_here; k_dflt (refine' storeX_LL ?F ?N ?_; (case F => k_asm); (case N => k_asm)); intro h' m' F' N')) | ((with_reducible show wpAny _ _ (execs (_ :: _) _) _ _ _); (k_here; refine execs_cons_S ?_; intro q9 s9)) | ((with_reducible show wpAny _ _ (binaryOp Operator.Pow (Value.int _ _) (Value.int _ _)) _ _ _); (k_here; first | ((refine pow_int_small ?z1 ?z2 ?z3 ?_); (case z1 => assumption); (case z2 => assumption); (case z3 => assumption)) | ((refine pow_int ?z1 ?z2 ?_); (case z1 => assumption); (case z2 => assumption)))) | ((with_reducible show wpAny _ _ (call (Value.ref _) _) _ _ _); (k_here; k_dflt (show wpAny _ _ (call (Value.ref 136) [Value.int _ _]) _ _ _); refine wpAny_call ?_; k_dflt (refine' code_def ?k1 ?k2 ?k3 ?k4 ?k5 ?kA ?kF ?kK ?k6 ?k7 ?k8 ?k9 ?kB ?_ ?c2 ?c3 ?c4 ?c5; (case kA => exact rfl); (case kF => exact rfl); (case kK => first | exact rfl | assumption); (case k1 => k_asm); (case k2 => k_asm); (case k3 => k_asm); (case k4 => k_asm); (case k5 => k_asm); (case k6 => k_is); (case k7 => k_is); (case k8 => ktr_room); (case k9 => exact BindsTo.of_eq rfl); (case c5 => decide); (case kB => exact locs rfl); (case c2 => exact rfl); (case c3 => exact rfl); (case c4 => exact rfl); k_whole; intro g' L' h' FG' F' N' B' X' T'; (try dsimp only); (try k_lift B'); (try k_fold)))) | ((with_reducible show wpAny _ _ (call (Value.ref _) _) _ _ _); (k_here; k_dflt (show wpAny _ _ (call (Value.ref 183) [Value.int _ _, Value.ref _, Value.int _ _]) _ _ _); (with_reducible rename LeftHyp _ _ => S'); k_dflt (refine' Cal.use (S' _ _ _ _ _ ?z1) ?zB ?zF ?zX ?zN ?zT ?zk ?zp ?zg ?zd ?zu ?_); (case z1 => assumption); (((case zB => k_asm); (case zF => k_asm); (case zX => k_asm); (case zN => k_asm); (case zT => k_asm); (case zk => first | exact rfl | assumption))); (case zp => (refine ⟨_, _, by k_dflt k_mem, ?_⟩; refine' TupsIn.mono ?zs ?zh; (case zh => assumption); (case zs => (intro p hp; first | exact List.mem_cons_of_mem _ hp | exact List.mem_cons_of_mem _ (List.mem_cons_of_mem _ hp))))); (((case zg => (first | assumption | (dsimp only; assumption))); (case zd => ktr_room); (case zu => ktr_units); intro t9 h9 tk9 gs9 F9 N9 hg9; (try dsimp only); (try k_fold))))) | ((with_reducible show wpAny _ _ (call (Value.ref _) _) _ _ _); (k_here; k_dflt (show wpAny _ _ (call (Value.ref 176) [Value.int _ _, Value.int _ _, Value.int _ _]) _ _ _); (with_reducible rename ShareHyp _ => S'); k_dflt (refine' Cal.use (S' _ _ _ _ _ _ ?z1 ?z2 ?z3 ?z4 ?z5 ?z6 ?z7 ?z8) ?zB ?zF ?zX ?zN ?zT ?zk trivial ?zg ?zd ?zu ?_); (case z1 => (with_reducible assumption)); (case z2 => (with_reducible assumption)); (case z3 => (with_reducible assumption)); (case z4 => (with_reducible assumption)); (case z5 => (with_reducible assumption)); (case z6 => (with_reducible assumption)); (case z7 => assumption); (case z8 => assumption); (((case zB => k_asm); (case zF => k_asm); (case zX => k_asm); (case zN => k_asm); (case zT => k_asm); (case zk => first | exact rfl | assumption))); (((case zg => (first | assumption | (dsimp only; assumption))); (case zd => ktr_room); (case zu => ktr_units); intro t9 h9 tk9 gs9 F9 N9 hg9; (try dsimp only); (try k_fold))))) | ((with_reducible show wpAny _ _ (subscriptTail (Expr.Name _ _) (Expr.Slice _ _ _ _) (Value.ref _) (Value.ref _)) _ _ _); (k_here; (with_reducible rename News _ _ _ _ => N'); k_dflt (refine' kms_slice_lit ?zF N' ?zl ?zp ?zq ?ze ?_ ?zs ?zt ?zz); (case zF => k_asm); (case zl => first | exact News.isList N' (by k_mem) | exact News.isList N' (List.mem_cons_of_mem _ (by assumption))); (case zp => kmk_part); (case zq => kmk_part); (case ze => exact pick1 _ _); (case zs => with_unfolding_all rfl); (case zt => kmk_pure); (case zz => (simp [sizeLine_eq]; omega)); intro D' h' F' N' l1)) | (k_here; (with_reducible show wpAny _ _ (subscriptTail (Expr.Name (Str.ofString "lots") _) _ (Value.ref _) (Value.int _ _)) _ _ _); (with_reducible rename News _ _ _ _ => N'); (refine item0 (News.isList N' (by k_mem)) ?_)) | (k_here; (with_reducible show wpAny _ _ (call (Value.builtin "len") [Value.ref _]) _ _ _); (with_reducible rename News _ _ _ _ => N'); (refine' call_len_list ?l ?f ?_); (case l => exact News.isList N' (by k_mem)); (case f => (simp; omega)); (try simp only [List.size_toArray, List.length_cons])) | ((with_reducible show RgPost _ _ _ _ _ _ _ _ _ _ _ _ _ _ _); (dsimp only [RgPost])) | (k_here; (with_reducible show wpAny _ _ (exec (Stmt.For (Expr.Name (Str.ofString "turn") _) _ _ _ _) _) _ _ _); (rename Fr _ _ _ _ => lF'); (with_unfolding_all refine' For_rg lF' ?k0 ?k1 ?k2 ?_; (case k0 => exact rfl); (case k1 => exact rfl); (case k2 => exact rfl)); (try k_fold)) | walk1)) | (dsimp only; (fail_if_success ((with_reducible rename shareV _ _ _ ≠ 0 => hz); (with_reducible show wpAny _ _ (subscriptTail _ (Expr.Slice _ _ _ _) _ _) _ _ _))); (first | ((with_reducible show wpAny _ _ (storeName _ _ _) _ _ _); (k_here; k_dflt (refine' storeX_LL ?F ?N ?_; (case F => k_asm); (case N => k_asm)); intro h' m' F' N')) | ((with_reducible show wpAny _ _ (execs (_ :: _) _) _ _ _); (k_here; refine execs_cons_S ?_; intro q9 s9)) | ((with_reducible show wpAny _ _ (binaryOp Operator.Pow (Value.int _ _) (Value.int _ _)) _ _ _); (k_here; first | ((refine pow_int_small ?z1 ?z2 ?z3 ?_); (case z1 => assumption); (case z2 => assumption); (case z3 => assumption)) | ((refine pow_int ?z1 ?z2 ?_); (case z1 => assumption); (case z2 => assumption)))) | ((with_reducible show wpAny _ _ (call (Value.ref _) _) _ _ _); (k_here; k_dflt (show wpAny _ _ (call (Value.ref 136) [Value.int _ _]) _ _ _); refine wpAny_call ?_; k_dflt (refine' code_def ?k1 ?k2 ?k3 ?k4 ?k5 ?kA ?kF ?kK ?k6 ?k7 ?k8 ?k9 ?kB ?_ ?c2 ?c3 ?c4 ?c5; (case kA => exact rfl); (case kF => exact rfl); (case kK => first | exact rfl | assumption); (case k1 => k_asm); (case k2 => k_asm); (case k3 => k_asm); (case k4 => k_asm); (case k5 => k_asm); (case k6 => k_is); (case k7 => k_is); (case k8 => ktr_room); (case k9 => exact BindsTo.of_eq rfl); (case c5 => decide); (case kB => exact locs rfl); (case c2 => exact rfl); (case c3 => exact rfl); (case c4 => exact rfl); k_whole; intro g' L' h' FG' F' N' B' X' T'; (try dsimp only); (try k_lift B'); (try k_fold)))) | ((with_reducible show wpAny _ _ (call (Value.ref _) _) _ _ _); (k_here; k_dflt (show wpAny _ _ (call (Value.ref 183) [Value.int _ _, Value.ref _, Value.int _ _]) _ _ _); (with_reducible rename LeftHyp _ _ => S'); k_dflt (refine' Cal.use (S' _ _ _ _ _ ?z1) ?zB ?zF ?zX ?zN ?zT ?zk ?zp ?zg ?zd ?zu ?_); (case z1 => assumption); (((case zB => k_asm); (case zF => k_asm); (case zX => k_asm); (case zN => k_asm); (case zT => k_asm); (case zk => first | exact rfl | assumption))); (case zp => (refine ⟨_, _, by k_dflt k_mem, ?_⟩; refine' TupsIn.mono ?zs ?zh; (case zh => assumption); (case zs => (intro p hp; first | exact List.mem_cons_of_mem _ hp | exact List.mem_cons_of_mem _ (List.mem_cons_of_mem _ hp))))); (((case zg => (first | assumption | (dsimp only; assumption))); (case zd => ktr_room); (case zu => ktr_units); intro t9 h9 tk9 gs9 F9 N9 hg9; (try dsimp only); (try k_fold))))) | ((with_reducible show wpAny _ _ (call (Value.ref _) _) _ _ _); (k_here; k_dflt (show wpAny _ _ (call (Value.ref 176) [Value.int _ _, Value.int _ _, Value.int _ _]) _ _ _); (with_reducible rename ShareHyp _ => S'); k_dflt (refine' Cal.use (S' _ _ _ _ _ _ ?z1 ?z2 ?z3 ?z4 ?z5 ?z6 ?z7 ?z8) ?zB ?zF ?zX ?zN ?zT ?zk trivial ?zg ?zd ?zu ?_); (case z1 => (with_reducible assumption)); (case z2 => (with_reducible assumption)); (case z3 => (with_reducible assumption)); (case z4 => (with_reducible assumption)); (case z5 => (with_reducible assumption)); (case z6 => (with_reducible assumption)); (case z7 => assumption); (case z8 => assumption); (((case zB => k_asm); (case zF => k_asm); (case zX => k_asm); (case zN => k_asm); (case zT => k_asm); (case zk => first | exact rfl | assumption))); (((case zg => (first | assumption | (dsimp only; assumption))); (case zd => ktr_room); (case zu => ktr_units); intro t9 h9 tk9 gs9 F9 N9 hg9; (try dsimp only); (try k_fold))))) | ((with_reducible show wpAny _ _ (subscriptTail (Expr.Name _ _) (Expr.Slice _ _ _ _) (Value.ref _) (Value.ref _)) _ _ _); (k_here; (with_reducible rename News _ _ _ _ => N'); k_dflt (refine' kms_slice_lit ?zF N' ?zl ?zp ?zq ?ze ?_ ?zs ?zt ?zz); (case zF => k_asm); (case zl => first | exact News.isList N' (by k_mem) | exact News.isList N' (List.mem_cons_of_mem _ (by assumption))); (case zp => kmk_part); (case zq => kmk_part); (case ze => exact pick1 _ _); (case zs => with_unfolding_all rfl); (case zt => kmk_pure); (case zz => (simp [sizeLine_eq]; omega)); intro D' h' F' N' l1)) | (k_here; (with_reducible show wpAny _ _ (subscriptTail (Expr.Name (Str.ofString "lots") _) _ (Value.ref _) (Value.int _ _)) _ _ _); (with_reducible rename News _ _ _ _ => N'); (refine item0 (News.isList N' (by k_mem)) ?_)) | (k_here; (with_reducible show wpAny _ _ (call (Value.builtin "len") [Value.ref _]) _ _ _); (with_reducible rename News _ _ _ _ => N'); (refine' call_len_list ?l ?f ?_); (case l => exact News.isList N' (by k_mem)); (case f => (simp; omega)); (try simp only [List.size_toArray, List.length_cons])) | ((with_reducible show RgPost _ _ _ _ _ _ _ _ _ _ _ _ _ _ _); (dsimp only [RgPost])) | (k_here; (with_reducible show wpAny _ _ (exec (Stmt.For (Expr.Name (Str.ofString "turn") _) _ _ _ _) _) _ _ _); (rename Fr _ _ _ _ => lF'); (with_unfolding_all refine' For_rg lF' ?k0 ?k1 ?k2 ?_; (case k0 => exact rfl); (case k1 => exact rfl); (case k2 => exact rfl)); (try k_fold)) | walk1))))
    · exact hret0 (by assumption) _ _ _ _ (by assumption) (fun p hp => (by assumption : News h₀ L _ _) p (List.mem_cons_of_mem _ hp)) (by assumption)
    with_reducible rename shareV _ _ _ ≠ 0 => hz
    have hbs := hb.share op1 ht12 hz
    have hbs1 := hbs.1
    have hbs2 := hbs.2.1
    have hbs3 := hbs.2.2
    have hret1' := hret1 hz
    have hq1 : (0 : Int) ≤ t := by omega
    have hq2 : t ≤ 1000000 := by omega
    have hq3 : p.natAbs < 2 ^ 64 := by omega
    have hq4 : (0 : Int) ≤ p ^ t.toNat := by omega
    have hq5 : (Builtin.Int.intBits b : Int) * (p ^ t.toNat) ≤ 2 ^ 27 := hb.bits_mul hbs2 hq4
    clear hz hret0 hret1 hbs
    repeat' (first | (k_unfold; (try dsimp only)) | (first | ((with_reducible show wpAny _ _ (storeName _ _ _) _ _ _); (k_here; k_dflt (refine' storeX_LL ?F ?N ?_; (case F => k_asm); (case N => k_asm)); intro h' m' F' N')) | ((with_reducible show wpAny _ _ (execs (_ :: _) _) _ _ _); (k_here; refine execs_cons_S ?_; intro q9 s9)) | ((with_reducible show wpAny _ _ (binaryOp Operator.Pow (Value.int _ _) (Value.int _ _)) _ _ _); (k_here; first | ((refine pow_int_small ?z1 ?z2 ?z3 ?_); (case z1 => assumption); (case z2 => assumption); (case z3 => assumption)) | ((refine pow_int ?z1 ?z2 ?_); (case z1 => assumption); (case z2 => assumption)))) | ((with_reducible show wpAny _ _ (call (Value.ref _) _) _ _ _); (k_here; k_dflt (show wpAny _ _ (call (Value.ref 136) [Value.int _ _]) _ _ _); refine wpAny_call ?_; k_dflt (refine' code_def ?k1 ?k2 ?k3 ?k4 ?k5 ?kA ?kF ?kK ?k6 ?k7 ?k8 ?k9 ?kB ?_ ?c2 ?c3 ?c4 ?c5; (case kA => exact rfl); (case kF => exact rfl); (case kK => first | exact rfl | assumption); (case k1 => k_asm); (case k2 => k_asm); (case k3 => k_asm); (case k4 => k_asm); (case k5 => k_asm); (case k6 => k_is); (case k7 => k_is); (case k8 => ktr_room); (case k9 => exact BindsTo.of_eq rfl); (case c5 => decide); (case kB => exact locs rfl); (case c2 => exact rfl); (case c3 => exact rfl); (case c4 => exact rfl); k_whole; intro g' L' h' FG' F' N' B' X' T'; (try dsimp only); (try k_lift B'); (try k_fold)))) | ((with_reducible show wpAny _ _ (call (Value.ref _) _) _ _ _); (k_here; k_dflt (show wpAny _ _ (call (Value.ref 183) [Value.int _ _, Value.ref _, Value.int _ _]) _ _ _); (with_reducible rename LeftHyp _ _ => S'); k_dflt (refine' Cal.use (S' _ _ _ _ _ ?z1) ?zB ?zF ?zX ?zN ?zT ?zk ?zp ?zg ?zd ?zu ?_); (case z1 => assumption); (((case zB => k_asm); (case zF => k_asm); (case zX => k_asm); (case zN => k_asm); (case zT => k_asm); (case zk => first | exact rfl | assumption))); (case zp => (refine ⟨_, _, by k_dflt k_mem, ?_⟩; refine' TupsIn.mono ?zs ?zh; (case zh => assumption); (case zs => (intro p hp; first | exact List.mem_cons_of_mem _ hp | exact List.mem_cons_of_mem _ (List.mem_cons_of_mem _ hp))))); (((case zg => (first | assumption | (dsimp only; assumption))); (case zd => ktr_room); (case zu => ktr_units); intro t9 h9 tk9 gs9 F9 N9 hg9; (try dsimp only); (try k_fold))))) | ((with_reducible show wpAny _ _ (call (Value.ref _) _) _ _ _); (k_here; k_dflt (show wpAny _ _ (call (Value.ref 176) [Value.int _ _, Value.int _ _, Value.int _ _]) _ _ _); (with_reducible rename ShareHyp _ => S'); k_dflt (refine' Cal.use (S' _ _ _ _ _ _ ?z1 ?z2 ?z3 ?z4 ?z5 ?z6 ?z7 ?z8) ?zB ?zF ?zX ?zN ?zT ?zk trivial ?zg ?zd ?zu ?_); (case z1 => (with_reducible assumption)); (case z2 => (with_reducible assumption)); (case z3 => (with_reducible assumption)); (case z4 => (with_reducible assumption)); (case z5 => (with_reducible assumption)); (case z6 => (with_reducible assumption)); (case z7 => assumption); (case z8 => assumption); (((case zB => k_asm); (case zF => k_asm); (case zX => k_asm); (case zN => k_asm); (case zT => k_asm); (case zk => first | exact rfl | assumption))); (((case zg => (first | assumption | (dsimp only; assumption))); (case zd => ktr_room); (case zu => ktr_units); intro t9 h9 tk9 gs9 F9 N9 hg9; (try dsimp only); (try k_fold))))) | ((with_reducible show wpAny _ _ (subscriptTail (Expr.Name _ _) (Expr.Slice _ _ _ _) (Value.ref _) (Value.ref _)) _ _ _); (k_here; (with_reducible rename News _ _ _ _ => N'); k_dflt (refine' kms_slice_lit ?zF N' ?zl ?zp ?zq ?ze ?_ ?zs ?zt ?zz); (case zF => k_asm); (case zl => first | exact News.isList N' (by k_mem) | exact News.isList N' (List.mem_cons_of_mem _ (by assumption))); (case zp => kmk_part); (case zq => kmk_part); (case ze => exact pick1 _ _); (case zs => with_unfolding_all rfl); (case zt => kmk_pure); (case zz => (simp [sizeLine_eq]; omega)); intro D' h' F' N' l1)) | (k_here; (with_reducible show wpAny _ _ (subscriptTail (Expr.Name (Str.ofString "lots") _) _ (Value.ref _) (Value.int _ _)) _ _ _); (with_reducible rename News _ _ _ _ => N'); (refine item0 (News.isList N' (by k_mem)) ?_)) | (k_here; (with_reducible show wpAny _ _ (call (Value.builtin "len") [Value.ref _]) _ _ _); (with_reducible rename News _ _ _ _ => N'); (refine' call_len_list ?l ?f ?_); (case l => exact News.isList N' (by k_mem)); (case f => (simp; omega)); (try simp only [List.size_toArray, List.length_cons])) | ((with_reducible show RgPost _ _ _ _ _ _ _ _ _ _ _ _ _ _ _); (dsimp only [RgPost])) | (k_here; (with_reducible show wpAny _ _ (exec (Stmt.For (Expr.Name (Str.ofString "turn") _) _ _ _ _) _) _ _ _); (rename Fr _ _ _ _ => lF'); (with_unfolding_all refine' For_rg lF' ?k0 ?k1 ?k2 ?_; (case k0 => exact rfl); (case k1 => exact rfl); (case k2 => exact rfl)); (try k_fold)) | walk1) | (dsimp only; (first | ((with_reducible show wpAny _ _ (storeName _ _ _) _ _ _); (k_here; k_dflt (refine' storeX_LL ?F ?N ?_; (case F => k_asm); (case N => k_asm)); intro h' m' F' N')) | ((with_reducible show wpAny _ _ (execs (_ :: _) _) _ _ _); (k_here; refine execs_cons_S ?_; intro q9 s9)) | ((with_reducible show wpAny _ _ (binaryOp Operator.Pow (Value.int _ _) (Value.int _ _)) _ _ _); (k_here; first | ((refine pow_int_small ?z1 ?z2 ?z3 ?_); (case z1 => assumption); (case z2 => assumption); (case z3 => assumption)) | ((refine pow_int ?z1 ?z2 ?_); (case z1 => assumption); (case z2 => assumption)))) | ((with_reducible show wpAny _ _ (call (Value.ref _) _) _ _ _); (k_here; k_dflt (show wpAny _ _ (call (Value.ref 136) [Value.int _ _]) _ _ _); refine wpAny_call ?_; k_dflt (refine' code_def ?k1 ?k2 ?k3 ?k4 ?k5 ?kA ?kF ?kK ?k6 ?k7 ?k8 ?k9 ?kB ?_ ?c2 ?c3 ?c4 ?c5; (case kA => exact rfl); (case kF => exact rfl); (case kK => first | exact rfl | assumption); (case k1 => k_asm); (case k2 => k_asm); (case k3 => k_asm); (case k4 => k_asm); (case k5 => k_asm); (case k6 => k_is); (case k7 => k_is); (case k8 => ktr_room); (case k9 => exact BindsTo.of_eq rfl); (case c5 => decide); (case kB => exact locs rfl); (case c2 => exact rfl); (case c3 => exact rfl); (case c4 => exact rfl); k_whole; intro g' L' h' FG' F' N' B' X' T'; (try dsimp only); (try k_lift B'); (try k_fold)))) | ((with_reducible show wpAny _ _ (call (Value.ref _) _) _ _ _); (k_here; k_dflt (show wpAny _ _ (call (Value.ref 183) [Value.int _ _, Value.ref _, Value.int _ _]) _ _ _); (with_reducible rename LeftHyp _ _ => S'); k_dflt (refine' Cal.use (S' _ _ _ _ _ ?z1) ?zB ?zF ?zX ?zN ?zT ?zk ?zp ?zg ?zd ?zu ?_); (case z1 => assumption); (((case zB => k_asm); (case zF => k_asm); (case zX => k_asm); (case zN => k_asm); (case zT => k_asm); (case zk => first | exact rfl | assumption))); (case zp => (refine ⟨_, _, by k_dflt k_mem, ?_⟩; refine' TupsIn.mono ?zs ?zh; (case zh => assumption); (case zs => (intro p hp; first | exact List.mem_cons_of_mem _ hp | exact List.mem_cons_of_mem _ (List.mem_cons_of_mem _ hp))))); (((case zg => (first | assumption | (dsimp only; assumption))); (case zd => ktr_room); (case zu => ktr_units); intro t9 h9 tk9 gs9 F9 N9 hg9; (try dsimp only); (try k_fold))))) | ((with_reducible show wpAny _ _ (call (Value.ref _) _) _ _ _); (k_here; k_dflt (show wpAny _ _ (call (Value.ref 176) [Value.int _ _, Value.int _ _, Value.int _ _]) _ _ _); (with_reducible rename ShareHyp _ => S'); k_dflt (refine' Cal.use (S' _ _ _ _ _ _ ?z1 ?z2 ?z3 ?z4 ?z5 ?z6 ?z7 ?z8) ?zB ?zF ?zX ?zN ?zT ?zk trivial ?zg ?zd ?zu ?_); (case z1 => (with_reducible assumption)); (case z2 => (with_reducible assumption)); (case z3 => (with_reducible assumption)); (case z4 => (with_reducible assumption)); (case z5 => (with_reducible assumption)); (case z6 => (with_reducible assumption)); (case z7 => assumption); (case z8 => assumption); (((case zB => k_asm); (case zF => k_asm); (case zX => k_asm); (case zN => k_asm); (case zT => k_asm); (case zk => first | exact rfl | assumption))); (((case zg => (first | assumption | (dsimp only; assumption))); (case zd => ktr_room); (case zu => ktr_units); intro t9 h9 tk9 gs9 F9 N9 hg9; (try dsimp only); (try k_fold))))) | ((with_reducible show wpAny _ _ (subscriptTail (Expr.Name _ _) (Expr.Slice _ _ _ _) (Value.ref _) (Value.ref _)) _ _ _); (k_here; (with_reducible rename News _ _ _ _ => N'); k_dflt (refine' kms_slice_lit ?zF N' ?zl ?zp ?zq ?ze ?_ ?zs ?zt ?zz); (case zF => k_asm); (case zl => first | exact News.isList N' (by k_mem) | exact News.isList N' (List.mem_cons_of_mem _ (by assumption))); (case zp => kmk_part); (case zq => kmk_part); (case ze => exact pick1 _ _); (case zs => with_unfolding_all rfl); (case zt => kmk_pure); (case zz => (simp [sizeLine_eq]; omega)); intro D' h' F' N' l1)) | (k_here; (with_reducible show wpAny _ _ (subscriptTail (Expr.Name (Str.ofString "lots") _) _ (Value.ref _) (Value.int _ _)) _ _ _); (with_reducible rename News _ _ _ _ => N'); (refine item0 (News.isList N' (by k_mem)) ?_)) | (k_here; (with_reducible show wpAny _ _ (call (Value.builtin "len") [Value.ref _]) _ _ _); (with_reducible rename News _ _ _ _ => N'); (refine' call_len_list ?l ?f ?_); (case l => exact News.isList N' (by k_mem)); (case f => (simp; omega)); (try simp only [List.size_toArray, List.length_cons])) | ((with_reducible show RgPost _ _ _ _ _ _ _ _ _ _ _ _ _ _ _); (dsimp only [RgPost])) | (k_here; (with_reducible show wpAny _ _ (exec (Stmt.For (Expr.Name (Str.ofString "turn") _) _ _ _ _) _) _ _ _); (rename Fr _ _ _ _ => lF'); (with_unfolding_all refine' For_rg lF' ?k0 ?k1 ?k2 ?_; (case k0 => exact rfl); (case k1 => exact rfl); (case k2 => exact rfl)); (try k_fold)) | walk1)))
    exact hret1' _ _ _ _ (by assumption) (fun p hp => (by assumption : News h₀ L _ _) p (List.mem_cons_of_mem _ (List.mem_cons_of_mem _ hp))) (by assumption)
end Mine
-- part G1
namespace Mine
section
variable {M : Model} {A : Around} {R : GenEnd} {Y : Protocol} {n : Nat} {s₀ : Shared} {c : Code} {fs : List Frame} {s : Shared} {env : Env}
  {K : Flow → Sem Fin} {H : Value → Sem Fin} {gd : Bool → Bool} {lv : List Value → List Value}
/-- the frame that a loop's own call leaves -/
def loopRet (env : Env) (K : Flow → Sem Fin) (H : Value → Sem Fin) (gd : Bool → Bool) (lv : List Value → List Value) (c : Code) (p : Pos) : Frame :=
  .ret (fun r => ((match r with | .ok f => (.pure f : Sem Flow) | .error e => .raise e).onRaise fun (x : Value) => do
        if (← field x 1) == Value.none then unsupported "frame.own-activation:exception-without-traceback"
        setFlight x env.frame).wrap K H gd lv) none (gd false) (lv []) c p []
theorem seg_bw {α β : Type} {m : Sem α} {F : α → Sem β} {K' : β → Sem Fin} {H' : Value → Sem Fin}
    (h : wpAny M (A.over c fs) m (fun a s' => Seg M A R Y n s₀ c ((F a).wrap K' H' gd lv) fs s') (fun x s' => Seg M A R Y n s₀ c (H' x) fs s') s) : Seg M A R Y n s₀ c ((m >>= F).wrap K' H' gd lv) fs s := by
  rw [Sem.bind_eq_wrap', Sem.wrap_wrap]; exact seg_wrap h
theorem seg_If {test : Expr} {body orelse : List Stmt} {pos : Pos}
    (h : wpAny M (A.over c fs) (isTrue test env (eval test env)) (fun b s' => if b = true then Seg M A R Y n s₀ c ((execs body env).wrap K H gd lv) fs s' else Seg M A R Y n s₀ c ((execs orelse env).wrap K H gd lv) fs s')
      (fun x s' => Seg M A R Y n s₀ c (H x) fs s') s) :
    Seg M A R Y n s₀ c ((exec (.If test body orelse pos) env).wrap K H gd lv) fs s := by
  refine seg_at ?_
  show Seg M A R Y n s₀ c ((isTrue test env (eval test env) >>= fun b => if b = true then execs body env else execs orelse env).wrap K H gd lv) fs s
  refine seg_bw (wpAny_mono h (fun b s' hb => ?_) fun _ _ e => e)
  cases b with
  | true => simpa using hb
  | false => simpa using hb
theorem seg_For {target iter : Expr} {body orelse : List Stmt} {pos : Pos}
    (h : wpAny M (A.over c fs) (eval iter env) (fun xv s₁ => wpAny M (A.over c fs) (pyIter xv) (fun it s₂ => ∀ p,
      Seg M A R Y n s₀ (.forLoop target it body orelse env) (M.den (.forLoop target it body orelse env)) (loopRet env K H gd lv c p :: fs) s₂)
      (fun x s' => Seg M A R Y n s₀ c (H x) fs s') s₁) (fun x s' => Seg M A R Y n s₀ c (H x) fs s') s)
    (hs : ∀ x, foldedSetIterable iter env x = pure x := by intro _; rfl) :
    Seg M A R Y n s₀ c ((exec (.For target iter body orelse pos) env).wrap K H gd lv) fs s := by
  rw [exec_For]
  refine seg_bw (wpAny_standAt ?_)
  refine seg_bw (wpAny_mono h (fun xv s₁ h₁ => ?_) fun _ _ e => e)
  refine seg_bw (wpAny_of_eq (hs xv) ?_)
  refine seg_bw (wpAny_standAt ?_)
  refine seg_bw (wpAny_holding (wpAny_mono h₁ (fun it s₂ h₂ => ?_) fun _ _ e => e))
  exact seg_call h₂
end
section
variable {prog : Program} {w : World} {A : Around} {R : GenEnd} {Y : Protocol} {n : Nat} {s₀ : Shared} {fs : List Frame} {s : Shared} {env : Env}
/-- what a raise in a loop's turn does -/
def loopUp (env : Env) : Value → Sem Fin := fun e => (do noteFrame e env; theTreesLotGoes e : Sem Unit).wrap (fun _ => .raise e) .raise id id
theorem seg_forLoop {target it} {body orelse : List Stmt}
    (h : wpAny (model prog w) (A.over (.forLoop target it body orelse env) fs) (pyNext it) (fun r s₁ => match r with
        | none => Seg (model prog w) A R Y n s₀ (.forLoop target it body orelse env) (.pure (.again (.block orelse env))) fs s₁
        | some v => wpAny (model prog w) (A.over (.forLoop target it body orelse env) fs) (assign target env v) (fun _ s₂ =>
            Seg (model prog w) A R Y n s₀ (.forLoop target it body orelse env) ((execs body env).wrap (fun f => match f with
              | .next | .cont => .pure (.again (.forLoop target it body orelse env))
              | .brk => .pure (.done .next)
              | .ret v => .pure (.done (.ret v))) (loopUp env) id id) fs s₂) (fun x s' => Seg (model prog w) A R Y n s₀ (.forLoop target it body orelse env) (loopUp env x) fs s') s₁)
      (fun x s' => Seg (model prog w) A R Y n s₀ (.forLoop target it body orelse env) (loopUp env x) fs s') s)
    (ht : ∀ v, letOwnedTupleGo target it v = pure () := by intro _; rfl) :
    Seg (model prog w) A R Y n s₀ (.forLoop target it body orelse env) ((model prog w).den (.forLoop target it body orelse env)) fs s := by
  show Seg _ A R Y n s₀ _ ((forTurn target it body orelse env).onRaise (fun x => do noteFrame x env; theTreesLotGoes x)) fs s
  rw [Sem.onRaise_eq_wrap]
  have up : ∀ e : Value, ((do noteFrame e env; theTreesLotGoes e : Sem Unit).bind fun _ => (.raise e : Sem Fin)) = loopUp env e := fun e => Sem.bind_eq_wrap _ _
  rw [Sem.wrap_congr (forTurn target it body orelse env) id id (K := .pure) (K' := .pure) (H' := loopUp env) (fun _ => rfl) up]
  simp only [forTurn]
  refine seg_bw (wpAny_standAt ?_)
  refine seg_bw (wpAny_onRaise (wpAny_mono h (fun r s₁ h₁ => ?_) fun _ _ h' => wpAny_standAt h'))
  cases r with
  | none => exact h₁
  | some v =>
    refine seg_bw (wpAny_of_eq (ht v) ?_)
    refine seg_bw (wpAny_mono h₁ (fun _ s₂ h₂ => ?_) fun _ _ e => e)
    rw [Sem.bind_eq_wrap', Sem.wrap_wrap]
    refine Eq.mpr (congrArg (fun t => Seg (model prog w) A R Y n s₀ (.forLoop target it body orelse env) t fs s₂) (Sem.wrap_congr (execs body env) (fun g => id (id g)) (fun l => id (id l)) (K' := fun f => match f with
              | .next | .cont => .pure (.again (.forLoop target it body orelse env))
              | .brk => .pure (.done .next)
              | .ret v => .pure (.done (.ret v))) (H' := loopUp env) (fun f => ?_) (fun _ => ?_))) h₂
    · cases f <;> rfl
    · rfl
end
end Mine
-- part G2
namespace Mine
/-- the generator's own part of the heap: its frame, and all that was made behind its start -/
def Priv (Lg N0 b : Addr) : Prop := b = Lg ∨ N0 ≤ b
def Since (Lg N0 : Addr) (s₀ s : Shared) : Prop := ∃ h' tk, s = { s₀ with heap := h', toks := tk } ∧ ∀ b o, ¬ Priv Lg N0 b → s₀.heap.get? b = some o → h'.get? b = some o
theorem Since.refl (Lg N0 : Addr) (s : Shared) : Since Lg N0 s s := ⟨s.heap, s.toks, rfl, fun _ _ _ e => e⟩
/-- what stands all the while -/
def Stat (h₀ : Heap) (sl : List (Addr × Obj)) (h : Heap) : Prop := (∀ b o, h₀.get? b = some o → h.get? b = some o) ∧ ∀ p ∈ sl, h.get? p.1 = some p.2
/-- what the generator tells at each stop: the step; and how it may be woken -/
def Yg (h₀ : Heap) (Lg : Addr) (sl : List (Addr × Obj)) (N0 : Addr) (step : Int) : Protocol := fun m s₀ v s kap =>
  (∃ tk, v = .int step tk) ∧ Since Lg N0 s₀ s ∧ ∃ Pv : List (Addr × Obj), (∀ p ∈ Pv, Priv Lg N0 p.1 ∧ s.heap.get? p.1 = some p.2) ∧
    (0 < m → ∀ s'' : Shared, Stat h₀ sl s''.heap → (∀ p ∈ Pv, s''.heap.get? p.1 = some p.2) → kap (.send .none) s'')
/-- all objects that are not the generator's, as a ledger -/
def Prot (h₀ : Heap) (Lg N0 : Addr) (h : Heap) : List (Addr × Obj) :=
  (List.range h.objs.size).filterMap fun b => if b = Lg ∨ N0 ≤ b then none else if (h₀.get? b).isSome then none else (h.get? b).map fun o => (b, o)
theorem prot_news {h₀ h : Heap} {Lg N0 : Addr} : News h₀ Lg h (Prot h₀ Lg N0 h) := by
  intro p hp
  obtain ⟨b, hb, e⟩ := List.mem_filterMap.mp hp
  by_cases h1 : b = Lg ∨ N0 ≤ b
  · rw [if_pos h1] at e; cases e
  · rw [if_neg h1] at e
    by_cases h2 : (h₀.get? b).isSome
    · rw [if_pos h2] at e; cases e
    · rw [if_neg h2] at e
      obtain ⟨o, ho, rfl⟩ := Option.map_eq_some_iff.mp e
      exact ⟨ho, fun q => h1 (.inl q), by simpa using h2⟩
theorem prot_since {h₀ h h' : Heap} {Lg N0 : Addr} {m' : Str → Option Value} {own : List (Addr × Obj)} (F : Fr h₀ Lg h' m') (N : News h₀ Lg h' (own ++ Prot h₀ Lg N0 h)) (F0 : ∀ b o, h₀.get? b = some o → h.get? b = some o) :
    ∀ b o, ¬ Priv Lg N0 b → h.get? b = some o → h'.get? b = some o := by
  intro b o hb ho
  cases h0 : h₀.get? b with
  | some o' =>
    have := F0 b o' h0
    rw [ho] at this
    cases this
    exact F.keep b o h0
  | none =>
    refine (N (b, o) (List.mem_append_right _ (List.mem_filterMap.mpr ⟨b, List.mem_range.mpr (Heap.lt_size ho), ?_⟩))).1
    rw [if_neg (show ¬ (b = Lg ∨ N0 ≤ b) from hb), if_neg (by simp [h0]), ho]
    rfl
theorem Since.step {Lg N0 : Addr} {s₀ s : Shared} (x : Since Lg N0 s₀ s) {h' : Heap} {tk : Nat} (hk : ∀ b o, ¬ Priv Lg N0 b → s.heap.get? b = some o → h'.get? b = some o) : Since Lg N0 s₀ { s with heap := h', toks := tk } := by
  obtain ⟨h₁, tk₁, rfl, hk₁⟩ := x
  exact ⟨h', tk, rfl, fun b o hb e => hk b o hb (hk₁ b o hb e)⟩
section
variable {prog : Program} {w : World} {A : Around} {R : GenEnd} {s₀ : Shared} {fs : List Frame} {s : Shared} {h₀ : Heap} {Lg N0 a : Addr} {sl : List (Addr × Obj)} {step : Int} {name : Str} {scope : Scope} {cd : Value}
/-- while True: yield x -/
theorem gen_while {x : Str} {px yp ep pt : Pos} {kt : Nat} {orelse : List Stmt} {oL : Obj} {tk : Tok}
    (hfs : splitAtGen fs = none) (hfg : fs.any Frame.guarded = false)
    (hk : scope.kind = .function) (hx : (envOf name scope Lg a cd).kindOf x = some .local) (hco : scope.isCoroutine = false) (hd : (x == ("__debug__" : Str)) = false)
    (hL : ∀ h : Heap, h.get? Lg = some oL → ∃ m, h.Ns Lg m ∧ m x = some (.int step tk)) :
    ∀ (n : Nat) (s₀ s : Shared), Since Lg N0 s₀ s → s.heap.get? Lg = some oL →
      Seg (model prog w) A R (Yg h₀ Lg sl N0 step) (n + 1) s₀ (.whileLoop (.Constant (.bool true) kt pt) [.Expr (.Yield (some (.Name x px)) yp) ep] orelse (envOf name scope Lg a cd))
        ((model prog w).den (.whileLoop (.Constant (.bool true) kt pt) [.Expr (.Yield (some (.Name x px)) yp) ep] orelse (envOf name scope Lg a cd))) fs s := by
  have turn : ∀ (n : Nat) (s₀ s : Shared), Since Lg N0 s₀ s → s.heap.get? Lg = some oL →
      (0 < n → ∀ s'' : Shared, s''.heap.get? Lg = some oL → Seg (model prog w) A R (Yg h₀ Lg sl N0 step) n s'' (.whileLoop (.Constant (.bool true) kt pt) [.Expr (.Yield (some (.Name x px)) yp) ep] orelse (envOf name scope Lg a cd))
        ((model prog w).den (.whileLoop (.Constant (.bool true) kt pt) [.Expr (.Yield (some (.Name x px)) yp) ep] orelse (envOf name scope Lg a cd))) fs s'') →
      Seg (model prog w) A R (Yg h₀ Lg sl N0 step) (n + 1) s₀ (.whileLoop (.Constant (.bool true) kt pt) [.Expr (.Yield (some (.Name x px)) yp) ep] orelse (envOf name scope Lg a cd))
        ((model prog w).den (.whileLoop (.Constant (.bool true) kt pt) [.Expr (.Yield (some (.Name x px)) yp) ep] orelse (envOf name scope Lg a cd))) fs s := by
    intro n s₀ s hs ho next
    obtain ⟨m, hn, hm⟩ := hL s.heap ho
    refine seg_whileLoop ?_
    refine isTrue_plain (wpAny_Constant_bool (wpAny_truthy_bool ?_)) (by rfl)
    rw [if_pos rfl]
    refine seg_execs_cons (seg_Expr_Yield hfs rfl hfg ?_ hco (by simp [interactive, envOf, hk]))
    refine wpAny_Name (wpAny_loadName_local hk hx hn hm ?_) hd
    intro kap hkap
    refine ⟨⟨tk, rfl⟩, hs, [(Lg, oL)], ?_, ?_⟩
    · intro p hp
      obtain rfl := List.mem_singleton.mp hp
      exact ⟨.inl rfl, ho⟩
    · intro hn0 s'' _ hp
      refine hkap .none s'' ?_
      exact seg_again (by rfl) (next hn0 s'' (hp _ (List.mem_singleton.mpr rfl)))
  intro n
  induction n with
  | zero => exact fun s₀ s hs ho => turn 0 s₀ s hs ho fun h => absurd h (Nat.lt_irrefl _)
  | succ n ih => exact fun s₀ s hs ho => turn (n + 1) s₀ s hs ho fun _ s'' ho'' => ih s'' s'' (Since.refl ..) ho''
end
end Mine
-- part G3
namespace Mine
/-- the generator never ends -/
def R0 : GenEnd := fun _ _ r _ => r = .ok .next ∧ False
theorem bare_set {gens : Array GenState} {g : Nat} {y : GenState} (h : AllBare gens) (hy : y.bare = true) : AllBare (gens.setIfInBounds g y) := by
  intro z hz
  rcases Array.mem_or_eq_of_mem_setIfInBounds hz with h1 | rfl
  · exact h z h1
  · exact hy
section
variable {prog : Program} {w : World} {A : Around} {s : Shared} {env : Env} {h₀ : Heap}
/-- a for over a generator that tells the same int for ever; the body leaves it -/
theorem forLoop_gen {RF : Flow → Shared → Prop} {RE : Value → Shared → Prop} {x : Str} {px : Pos} {body : List Stmt} {G Lg N0 : Addr} {g : Nat} {nm qn : Value} {sl : List (Addr × Obj)} {Pv0 : List (Addr × Obj)} {gst0 : GenState} {step : Int} {m : Str → Option Value} {news : List (Addr × Obj)}
    (hh : A.handled = none) (hroom : A.depth < recursionLimit) (hx : env.kindOf x = some .local)
    (hp : (env.scope.kind == .class || (env.scope.kind == .module && env.locals != env.globals)) = false)
    (hlim : h₀.NoLimit) (hG : (G, ({ cls := .type "generator", data := .fields #[.int g 0, nm, qn] } : Obj)) ∈ news) (hl : ∀ p ∈ sl, p ∈ news)
    (hpn : ∀ p ∈ news, ¬ Priv Lg N0 p.1) (hpL : ¬ Priv Lg N0 env.locals) (hp0 : ∀ b o, h₀.get? b = some o → ¬ Priv Lg N0 b)
    (F : Fr h₀ env.locals s.heap m) (N : News h₀ env.locals s.heap (Pv0 ++ news)) (hpv : ∀ p ∈ Pv0, Priv Lg N0 p.1)
    (hb : AllBare s.gens) (hg : s.gens[g]? = some gst0)
    (hgo : ∀ s'' : Shared, Stat h₀ sl s''.heap → (∀ p ∈ Pv0, s''.heap.get? p.1 = some p.2) → gst0.Goes (model prog w) A.in1 R0 (Yg h₀ Lg sl N0 step) 60 (.send .none) s'')
    (J : Nat → (Str → Option Value) → Prop) (h0 : J 0 m) (hJ : ∀ j m', J j m' → j < 59)
    (turn : ∀ j m₁ h tk gs t Pv, J j m₁ → AllBare gs → Fr h₀ env.locals h (fun y => if y = x then some (.int step t) else m₁ y) → News h₀ env.locals h (Pv ++ news) →
      wpAny (model prog w) A (execs body env) (fun f s₂ => match f with
        | .ret v => RF (.ret v) s₂
        | .brk => RF .next s₂
        | _ => ∃ h' tk' m', s₂ = { s with heap := h', toks := tk', gens := gs } ∧ Fr h₀ env.locals h' m' ∧ News h₀ env.locals h' (Pv ++ news) ∧ J (j + 1) m') (notedBy (model prog w) A env RE) { s with heap := h, toks := tk, gens := gs }) :
    codeAny (model prog w) A (.forLoop (.Name x px) (.ref G) body [] env) (fun r s' => match r with | .ok f => RF f s' | .error e => RE e s') s := by
  refine codeAny_forLoop
    (fun k s' => ∃ h' tk gs m' j gst Pv, s' = { s with heap := h', toks := tk, gens := gs } ∧ Fr h₀ env.locals h' m' ∧ News h₀ env.locals h' (Pv ++ news) ∧ (∀ p ∈ Pv, Priv Lg N0 p.1) ∧ AllBare gs ∧ gs[g]? = some gst ∧
      (0 < k → ∀ s'' : Shared, Stat h₀ sl s''.heap → (∀ p ∈ Pv, s''.heap.get? p.1 = some p.2) → gst.Goes (model prog w) A.in1 R0 (Yg h₀ Lg sl N0 step) k (.send .none) s'') ∧ J j m' ∧ k + j = 60) ?_ 60
    ⟨s.heap, s.toks, s.gens, m, 0, gst0, Pv0, rfl, F, N, hpv, hb, hg, fun _ => hgo, h0, rfl⟩
  rintro k s' ⟨h', tk, gs, m', j, gst, Pv, rfl, F', N', hpv', hb', hg', hgo', hj, hkj⟩
  have hjl := hJ j m' hj
  obtain ⟨k, rfl⟩ : ∃ k', k = k' + 1 := ⟨k - 1, by omega⟩
  have hGn := (N' _ (List.mem_append_right _ hG)).1
  have hgl : g < gs.size := by
    rcases Nat.lt_or_ge g gs.size with h | h
    · exact h
    · rw [Array.getElem?_eq_none h] at hg'; cases hg'
  refine wpAny_pyNext_genexpQ (P := fun _ _ _ => False) (n := k + 1) hh (hlim.keeps F'.keep) hroom ⟨_, nm, qn, hGn, rfl, rfl, rfl⟩ hg'
    (hgo' (Nat.succ_pos _) _ ⟨F'.keep, fun p hp => (N' _ (List.mem_append_right _ (hl p hp))).1⟩ fun p hp => (N' p (List.mem_append_left _ hp)).1) ?_ (fun _ h => h.elim)
  rintro v s₁ gs' hbare ⟨⟨t, rfl⟩, ⟨h₁, tk₁, rfl, hk₁⟩, Pv', hpv₁, next⟩
  have F₁ : Fr h₀ env.locals h₁ m' := ⟨F'.ns.at' fun o e => hk₁ _ o hpL e, fun b o e => hk₁ b o (hp0 b o e) (F'.keep b o e), F'.above⟩
  have N₁ : News h₀ env.locals h₁ (Pv' ++ news) := by
    intro p hp
    rcases List.mem_append.mp hp with hp | hp
    · refine ⟨(hpv₁ p hp).2, fun q => hpL (q ▸ (hpv₁ p hp).1), ?_⟩
      cases e : h₀.get? p.1 with
      | none => rfl
      | some o => exact absurd (hpv₁ p hp).1 (hp0 _ _ e)
    · have := N' p (List.mem_append_right _ hp)
      exact ⟨hk₁ _ _ (hpn p hp) this.1, this.2⟩
  refine wpAny_assign_Name (wpAny_storeName_local hx F₁.ns (fun h₂ hn₂ hs₂ => ?_) hp)
  have hb₂ : AllBare ((gs.setIfInBounds g .running).setIfInBounds g gs') := bare_set (bare_set hb' rfl) hbare
  refine wpAny_mono (turn j m' h₂ _ _ t Pv' hj hb₂ (F₁.set hn₂ hs₂) (N₁.set hs₂)) (fun f s₃ h₃ => ?_) fun _ _ e => e
  have back : (∃ h' tk' m'', s₃ = { s with heap := h', toks := tk', gens := (gs.setIfInBounds g .running).setIfInBounds g gs' } ∧ Fr h₀ env.locals h' m'' ∧ News h₀ env.locals h' (Pv' ++ news) ∧ J (j + 1) m'') →
      ∃ k', k' < k + 1 ∧ ∃ h' tk gs m' j gst Pv, s₃ = { s with heap := h', toks := tk, gens := gs } ∧ Fr h₀ env.locals h' m' ∧ News h₀ env.locals h' (Pv ++ news) ∧ (∀ p ∈ Pv, Priv Lg N0 p.1) ∧ AllBare gs ∧ gs[g]? = some gst ∧
        (0 < k' → ∀ s'' : Shared, Stat h₀ sl s''.heap → (∀ p ∈ Pv, s''.heap.get? p.1 = some p.2) → gst.Goes (model prog w) A.in1 R0 (Yg h₀ Lg sl N0 step) k' (.send .none) s'') ∧ J j m' ∧ k' + j = 60 := by
    rintro ⟨h₃', tk₃, m₃, rfl, F₃, N₃, hj₃⟩
    refine ⟨k, Nat.lt_succ_self _, h₃', tk₃, _, m₃, j + 1, gs', Pv', rfl, F₃, N₃, fun p hp => (hpv₁ p hp).1, hb₂, ?_, ?_, hj₃, by omega⟩
    · simp [hgl]
    · intro hk0 s'' hst hpp
      exact next hk0 s'' hst hpp
  cases f with
  | ret v => exact h₃
  | brk => exact h₃
  | next => exact back h₃
  | cont => exact back h₃
end
def GnEnd {σ : Type} (h₀ : Heap) (L : Addr) (s : Shared) (gs : Array GenState) (led : List (Addr × Obj)) (ps : σ → List (Str × Value)) (x : Str) (stored : List Str) (m₀ : Str → Option Value) (P : Prop) (s₂ : Shared) : Prop :=
  ∃ h' tk' m', s₂ = { s with heap := h', toks := tk', gens := gs } ∧ Fr h₀ L h' m' ∧ News h₀ L h' led ∧ P ∧ ∃ c' : σ, (∀ p ∈ ps c', m' p.1 = some p.2) ∧ (∀ z, z ≠ x → (∀ p ∈ ps c', z ≠ p.1) → stored.contains z = false → m' z = m₀ z)
def GnPost {σ : Type} (h₀ : Heap) (L : Addr) (s : Shared) (gs : Array GenState) (led : List (Addr × Obj)) (ps : σ → List (Str × Value)) (x : Str) (stored : List Str) (m₀ : Str → Option Value) (P : Prop) (RF : Flow → Shared → Prop) (f : Flow) (s₂ : Shared) : Prop :=
  match f with
  | .ret v => RF (.ret v) s₂
  | .brk => RF .next s₂
  | _ => GnEnd h₀ L s gs led ps x stored m₀ P s₂
section
variable {prog : Program} {w : World} {A : Around} {s : Shared} {env : Env} {h₀ : Heap}
/-- the same, its invariant by names -/
theorem forLoop_gen2 {σ : Type} {RF : Flow → Shared → Prop} {RE : Value → Shared → Prop} {x : Str} {px : Pos} {body : List Stmt} {G Lg N0 : Addr} {g : Nat} {nm qn : Value} {sl : List (Addr × Obj)} {Pv0 : List (Addr × Obj)} {gst0 : GenState} {step : Int} {m₀ : Str → Option Value} {news : List (Addr × Obj)}
    (ps : Nat → σ → List (Str × Value)) (stored : List Str) (P : Nat → Prop) (c₀ : σ)
    (hh : A.handled = none) (hroom : A.depth < recursionLimit) (hx : env.kindOf x = some .local)
    (hp : (env.scope.kind == .class || (env.scope.kind == .module && env.locals != env.globals)) = false)
    (hlim : h₀.NoLimit) (hG : (G, ({ cls := .type "generator", data := .fields #[.int g 0, nm, qn] } : Obj)) ∈ news) (hl : ∀ p ∈ sl, p ∈ news)
    (hpn : ∀ p ∈ news, ¬ Priv Lg N0 p.1) (hpL : ¬ Priv Lg N0 env.locals) (hp0 : ∀ b o, h₀.get? b = some o → ¬ Priv Lg N0 b)
    (F : Fr h₀ env.locals s.heap m₀) (N : News h₀ env.locals s.heap (Pv0 ++ news)) (hpv : ∀ p ∈ Pv0, Priv Lg N0 p.1)
    (hb : AllBare s.gens) (hg : s.gens[g]? = some gst0)
    (hgo : ∀ s'' : Shared, Stat h₀ sl s''.heap → (∀ p ∈ Pv0, s''.heap.get? p.1 = some p.2) → gst0.Goes (model prog w) A.in1 R0 (Yg h₀ Lg sl N0 step) 60 (.send .none) s'')
    (hk : ∀ p ∈ ps 0 c₀, m₀ p.1 = some p.2) (h0 : P 0) (hJ : ∀ j, P j → j < 59)
    (turn : ∀ (j : Nat) (c : σ) (u : Str → Option Value) h tk gs t Pv, P j → AllBare gs → Fr h₀ env.locals h (fun y => if y = x then some (.int step t) else kstB (fun z => if stored.contains z then u z else m₀ z) (ps j c) y) → News h₀ env.locals h (Pv ++ news) →
      wpAny (model prog w) A (execs body env) (GnPost h₀ env.locals s gs (Pv ++ news) (ps (j + 1)) x stored m₀ (P (j + 1)) RF) (notedBy (model prog w) A env RE) { s with heap := h, toks := tk, gens := gs }) :
    codeAny (model prog w) A (.forLoop (.Name x px) (.ref G) body [] env) (fun r s' => match r with | .ok f => RF f s' | .error e => RE e s') s := by
  refine forLoop_gen hh hroom hx hp hlim hG hl hpn hpL hp0 F N hpv hb hg hgo
    (fun j m' => P j ∧ ∃ c : σ, (∀ p ∈ ps j c, m' p.1 = some p.2) ∧ (∀ z, z ≠ x → (∀ p ∈ ps j c, z ≠ p.1) → stored.contains z = false → m' z = m₀ z)) ⟨h0, c₀, hk, fun _ _ _ _ => rfl⟩ (fun j _ h => hJ j h.1) ?_
  rintro j m₁ h tk gs t Pv ⟨hj, c, h1, h2⟩ hb' F' N'
  refine wpAny_mono (turn j c m₁ h tk gs t Pv hj hb' (kst_fr h1 h2 F') N') (fun f s₂ q => ?_) fun _ _ e => e
  cases f <;> exact q
end
end Mine
-- part G4
namespace Mine
section
variable {prog : Program} {w : World} {A : Around} {s : Shared} {h₀ : Heap} {L : Addr} {m : Str → Option Value} {news : List (Addr × Obj)} {K : Frag} {p : Program} {loose : List Str} {mean : ExcName → Option Value} {mg mb : Str → Option Value}
/-- a generator function's call -/
theorem code_genr {R : Result → Shared → Prop} {name qual : Str} {params : Arguments} {body : List Stmt} {scope : Scope} {dV kV doc pm cdv ct oc : Value} {an od : Option Addr} {osl : Array (Option Value)} {f : Addr} {args : Args} {binds : List (Str × Value)}
    (F : Fr h₀ L s.heap m) (X₀ : K.In h₀) (N : News h₀ L s.heap news) (T : Top p loose mean mg mb h₀)
    (ho : K.lookup f = some ⟨oc, od, .func (fnOf name qual params body scope dV kV doc pm an cdv ct), osl⟩) (hcd : codeIn K cdv qual = true) (hroom : A.depth < recursionLimit)
    (hbind : BindsTo s (fnOf name qual params body scope dV kV doc pm an cdv ct) args binds) (hloc : ∀ y ∈ binds, scope.names.lookup y.1 = some .local)
    (h : ∀ (Lg : Addr) (oLg : Obj) (nm qn : Value) (h' : Heap) (tk : Nat), Fr h₀ L h' m →
      News h₀ L h' ((Lg, oLg) :: (Lg + 1, ({ cls := .type "generator", data := .fields #[.int s.gens.size 0, nm, qn] } : Obj)) :: news) → (∀ k : Heap, k.get? Lg = some oLg → k.Ns Lg (fun y => binds.reverse.lookup y)) →
      h'.objs.size = Lg + 2 → (∀ p ∈ news, p.1 < Lg) → L < Lg → h₀.objs.size ≤ L →
      R (.ok (.ret (.ref (Lg + 1)))) { s with heap := h', toks := tk, gens := s.gens.push (.fresh (.func body (envOf qual scope Lg f cdv))) })
    (hco : scope.isCoroutine = false) (hgen : scope.isGenerator = true) (hk : scope.kind = .function) (hcell : ∀ x ∈ scope.names, x.2 ≠ .cell) :
    codeAny (model prog w) A (.call (.ref f) args) R s := by
  have hX := X₀.keeps F.keep
  refine codeAny_call_generator hroom (hX _ _ ho) rfl hco hgen rfl (codeRec_of hX hcd) ?_
  refine hbind _ _ _ _ ?_
  refine wpAny_newFunctionEnv hcell hloc (fun h₁ hns hsb => ?_) hk
  have hsz : h₁.objs.size = s.heap.objs.size + 1 := by rw [hsb.1, Heap.size_push]
  have hlim : h₁.NoLimit := T.nolimit.keeps fun b o e => hsb.extBut b o (Nat.ne_of_lt (Heap.lt_size (F.keep b o e))) (Heap.get?_push_of_some _ (F.keep b o e))
  refine ⟨hlim, ?_⟩
  have keep : ∀ b o, s.heap.get? b = some o → h₁.get? b = some o := fun b o e => hsb.extBut b o (Nat.ne_of_lt (Heap.lt_size e)) (Heap.get?_push_of_some _ e)
  obtain ⟨oL, a1, a2, hL, a3⟩ := hns
  obtain ⟨oF, b1, b2, hF, b3⟩ := F.ns
  have hnext : h₀.get? h₁.objs.size = none := Heap.get?_none_of_le (Nat.le_of_lt (Nat.lt_of_le_of_lt F.above (Nat.lt_of_lt_of_le (Heap.lt_size hF) (by rw [hsz]; exact Nat.le_succ _))))
  show R (.ok (.ret (.ref h₁.objs.size))) _
  have hsz' : h₁.objs.size = s.heap.objs.size + 1 := hsz
  rw [hsz']
  refine h _ oL (.str name (s.toks + binds.length)) (.str qual (s.toks + binds.length + 1)) _ _ ⟨⟨oF, b1, b2, Heap.get?_push_of_some _ (keep _ _ hF), b3⟩, fun b o e => Heap.get?_push_of_some _ (keep b o (F.keep b o e)), F.above⟩ ?_ (fun k hk => ⟨oL, a1, a2, hk, a3⟩) (by rw [Heap.size_push, hsz]) (fun p hp => Heap.lt_size (N p hp).1) (Heap.lt_size hF) F.above
  have hlt : L < s.heap.objs.size := Heap.lt_size hF
  intro q hq
  rcases List.mem_cons.mp hq with rfl | hq
  · exact ⟨Heap.get?_push_of_some _ hL, Nat.ne_of_gt hlt, Heap.get?_none_of_le (Nat.le_of_lt (Nat.lt_of_le_of_lt F.above hlt))⟩
  rcases List.mem_cons.mp hq with rfl | hq
  · refine ⟨?_, ?_, ?_⟩
    · rw [← hsz']
      exact Heap.get?_push_size _ rfl
    · exact Nat.ne_of_gt (Nat.lt_succ_of_lt hlt)
    · rw [← hsz']; exact hnext
  · have := N q hq
    exact ⟨Heap.get?_push_of_some _ (keep _ _ this.1), this.2⟩
end
end Mine
-- part G5
namespace Mine
def GnAt (prog : Program) (w : World) (A : Around) (_h₀ : Heap) (env : Env) (x : Str) (px : Pos) (body : List Stmt) (Q : Flow → Shared → Prop) (E : Value → Shared → Prop) (xv : Value) (s₁ : Shared) : Prop :=
  ∃ G g nm qn, xv = .ref G ∧ s₁.heap.get? G = some ({ cls := .type "generator", data := .fields #[.int (g : Nat) 0, nm, qn] } : Obj) ∧
    codeAny (model prog w) A (.forLoop (.Name x px) (.ref G) body [] env) (fun r s' => match r with | .ok f => Q f s' | .error e => cameBackBy (model prog w) A env E e s') s₁
theorem For_gn {prog : Program} {w : World} {A : Around} {s : Shared} {env : Env} {h₀ : Heap} {E : Value → Shared → Prop} {Q : Flow → Shared → Prop} {x : Str} {px pos : Pos} {iter : Expr} {body : List Stmt} {mF : Str → Option Value} (_F : Fr h₀ env.locals s.heap mF)
    (h : wpAny (model prog w) A (eval iter env) (fun xv s₁ => GnAt prog w A h₀ env x px body Q E xv s₁) E s)
    (hs : ∀ x, foldedSetIterable iter env x = pure x := by intro _; rfl) :
    wpAny (model prog w) A (exec (.For (.Name x px) iter body [] pos) env) Q E s := by
  refine wpAny_For (wpAny_mono h (fun xv s₁ h₁ => ?_) fun _ _ e => e) hs
  obtain ⟨G, g, nm, qn, rfl, ho, h₂⟩ := h₁
  exact wpAny_pyIter_gen ⟨_, nm, qn, ho, rfl, rfl, rfl⟩ h₂
theorem gen_frames {h₀ h : Heap} {Lg N0 : Addr} {sl : List (Addr × Obj)} {oLg : Obj} {mg : Str → Option Value} (hst : Stat h₀ sl h) (hLo : h.get? Lg = some oLg) (hns : ∀ k : Heap, k.get? Lg = some oLg → k.Ns Lg mg)
    (hb : h₀.objs.size ≤ Lg) (hl : ∀ p ∈ sl, p.1 ≠ Lg ∧ h₀.get? p.1 = none) : Fr h₀ Lg h mg ∧ News h₀ Lg h (sl ++ Prot h₀ Lg N0 h) := by
  refine ⟨⟨hns _ hLo, hst.1, hb⟩, ?_⟩
  intro p hp
  rcases List.mem_append.mp hp with hp | hp
  · exact ⟨hst.2 p hp, hl p hp⟩
  · exact prot_news p hp
theorem off_two {h₀ h : Heap} {Lg l I : Addr} {go lo : Obj} (h1 : l ≠ I) (h2 : Lg + 2 ≤ I) (hn : ∀ p ∈ Prot h₀ Lg (Lg + 2) h, ¬ Priv Lg (Lg + 2) p.1) : ∀ p ∈ (l, lo) :: (Lg + 1, go) :: Prot h₀ Lg (Lg + 2) h, p.1 ≠ I := by
  intro p hp
  rcases List.mem_cons.mp hp with rfl | hp
  · exact h1
  rcases List.mem_cons.mp hp with rfl | hp
  · exact Nat.ne_of_lt h2
  · exact fun e => hn p hp (.inr (e ▸ h2))
theorem static_two {h₀ h : Heap} {L Lg l : Addr} {oLg go lo : Obj} {news : List (Addr × Obj)} (N : News h₀ L h ((Lg, oLg) :: (Lg + 1, go) :: (l, lo) :: news)) (hlt : ∀ p ∈ (l, lo) :: news, p.1 < Lg) :
    ∀ p ∈ [(l, lo), (Lg + 1, go)], p.1 ≠ Lg ∧ h₀.get? p.1 = none := by
  intro p hp
  rcases List.mem_cons.mp hp with rfl | hp
  · exact ⟨Nat.ne_of_lt (hlt _ (List.mem_cons_self ..)), (N _ (List.mem_cons_of_mem _ (List.mem_cons_of_mem _ (List.mem_cons_self ..)))).2.2⟩
  · obtain rfl := List.mem_singleton.mp hp
    exact ⟨Nat.succ_ne_self _, (N _ (List.mem_cons_of_mem _ (List.mem_cons_self ..))).2.2⟩
theorem news_cons {h₀ h : Heap} {L I : Addr} {o : Obj} {led : List (Addr × Obj)} (N : News h₀ L h led) (h1 : h.get? I = some o) (h2 : I ≠ L) (h3 : h₀.get? I = none) : News h₀ L h ((I, o) :: led) := by
  intro p hp
  rcases List.mem_cons.mp hp with rfl | hp
  · exact ⟨h1, h2, h3⟩
  · exact N p hp
theorem prot_not {h₀ h : Heap} {Lg N0 : Addr} : ∀ p ∈ Prot h₀ Lg N0 h, ¬ Priv Lg N0 p.1 := by
  intro p hp
  obtain ⟨b, hb, e⟩ := List.mem_filterMap.mp hp
  by_cases h1 : b = Lg ∨ N0 ≤ b
  · rw [if_pos h1] at e; cases e
  · rw [if_neg h1] at e
    by_cases h2 : (h₀.get? b).isSome
    · rw [if_pos h2] at e; cases e
    · rw [if_neg h2] at e
      obtain ⟨o, ho, rfl⟩ := Option.map_eq_some_iff.mp e
      exact h1
section
variable {prog : Program} {w : World} {A : Around} {E : Value → Shared → Prop} {s : Shared} {h₀ : Heap} {Lg I l : Addr} {mg : Str → Option Value} {o : Obj} {items : Array Value} {k i : Nat} {x : Value} {rest : List (Addr × Obj)}
theorem next_item {Q : Option Value → Shared → Prop} (F : Fr h₀ Lg s.heap mg) (N : News h₀ Lg s.heap ((I, o) :: (l, ({ cls := .type "list", data := .seq items k } : Obj)) :: rest)) (hit : s.heap.IsListIter I l i) (hx : items[i]? = some x)
    (hI : ∀ p ∈ (l, ({ cls := .type "list", data := .seq items k } : Obj)) :: rest, p.1 ≠ I)
    (h : ∀ h' o', Fr h₀ Lg h' mg → News h₀ Lg h' ((I, o') :: (l, ({ cls := .type "list", data := .seq items k } : Obj)) :: rest) → (∀ k : Heap, k.get? I = some o' → k.IsListIter I l (i + 1)) → Q (some x) { s with heap := h' }) :
    wpAny (model prog w) A (pyNext (.ref I)) Q E s := by
  have hl : s.heap.IsList l items := ⟨_, (N _ (List.mem_cons_of_mem _ (List.mem_cons_self ..))).1, rfl, _, rfl⟩
  have hIn := N _ (List.mem_cons_self ..)
  refine wpAny_pyNext_list_item hit hl hx fun h' hit' hs => ?_
  obtain ⟨o', ho', hr⟩ := hit'
  refine h h' o' ⟨F.ns.sameBut hs (Ne.symm hIn.2.1), fun b ob e => (hs.2 b fun q => ?_).trans (F.keep b ob e), F.above⟩ ?_ fun k hk => ⟨o', hk, hr⟩
  · rw [q, hIn.2.2] at e; cases e
  · intro p hp
    rcases List.mem_cons.mp hp with rfl | hp
    · exact ⟨ho', hIn.2⟩
    · have := N p (List.mem_cons_of_mem _ hp)
      exact ⟨(hs.2 p.1 (hI p hp)).trans this.1, this.2⟩
theorem iter_list {Q : Value → Shared → Prop} (F : Fr h₀ Lg s.heap mg) (N : News h₀ Lg s.heap ((l, ({ cls := .type "list", data := .seq items k } : Obj)) :: rest))
    (h : ∀ I h' o', s.heap.objs.size ≤ I → Fr h₀ Lg h' mg → News h₀ Lg h' ((I, o') :: (l, ({ cls := .type "list", data := .seq items k } : Obj)) :: rest) → h'.IsListIter I l 0 → (∀ p ∈ (l, ({ cls := .type "list", data := .seq items k } : Obj)) :: rest, p.1 ≠ I) → Q (.ref I) { s with heap := h' }) :
    wpAny (model prog w) A (pyIter (.ref l)) Q E s :=
  wpAny_pyIter_list ⟨_, (N _ (List.mem_cons_self ..)).1, rfl, _, rfl⟩ (h _ _ _ (Nat.le_refl _) (F.push _) (News.push F N _) ⟨_, Heap.get?_push_size _ rfl, rfl, rfl⟩ fun p hp => Nat.ne_of_lt (Heap.lt_size (N p hp).1))
end
theorem succ_mul_cast (j : Nat) (st : Int) : ((j + 1 : Nat) : Int) * st = (j : Int) * st + st := by
  rw [show ((j + 1 : Nat) : Int) = (j : Int) + 1 by omega, Int.add_mul, Int.one_mul]
theorem div_of {n st j : Int} (hs : 1 ≤ st) (h1 : j * st ≤ n) (h2 : n < j * st + st) : n / st = j := by
  have h3 : n / st < j + 1 := Int.ediv_lt_of_lt_mul (by omega) (by rw [Int.add_mul, Int.one_mul]; exact h2)
  have h4 : j ≤ n / st := Int.le_ediv_of_mul_le (by omega) h1
  omega
set_option maxRecDepth 100000 in
set_option maxHeartbeats 8000000 in
theorem marks_ok {w : World} {n st : Int} {tn ts : Tok} (hn0 : 0 ≤ n) (hn : n ≤ 48) (hs1 : 1 ≤ st) (hs2 : st ≤ 40) : Cal w 169 3 40 (fun _ => True) [.int n tn, .int st ts] (fun t => .int (n / st) t) := by
  intro mean mg mb dp un gd cn cs a ccd cl outer A₀ base h₀ L m news s Q E B F X N T hk _ hg hd hu hret
  w_top off
  revert X; k_fill; intro X
  refine wpAny_call ?_
  k_dflt cell_enter
  rename_i g' L' h0' FG' F' N' B' X' T' 
  (repeat' (first | (k_unfold; (try dsimp only)) | ((fail_if_success (k_dflt (show wpAny _ _ (call (Value.ref 60) _) _ _ _))); (first | ((with_reducible show wpAny _ _ (storeName _ _ _) _ _ _); (k_here; k_dflt (refine' storeX_LL ?F ?N ?_; (case F => k_asm); (case N => k_asm)); intro h' m' F' N')) | ((with_reducible show wpAny _ _ (execs (_ :: _) _) _ _ _); (k_here; refine execs_cons_S ?_; intro q9 s9)) | ((with_reducible show GnPost _ _ _ _ _ _ _ _ _ _ _ _ _); (dsimp only [GnPost])) | ((with_reducible show wpAny _ _ (call (Value.ref _) _) _ _ _); (k_here; k_dflt (show wpAny _ _ (call (Value.ref 60) [Value.ref _]) _ _ _); refine wpAny_call ?_; k_dflt (refine' code_genr ?z2 ?z3 ?z4 ?z5 ?z6 ?z7 ?z8 ?z9 ?za ?_ ?zc ?zd ?ze ?zf; (case z2 => k_asm); (case z3 => k_asm); (case z4 => k_asm); (case z5 => k_asm); (case z6 => k_is); (case z7 => k_is); (case z8 => ktr_room); (case z9 => exact BindsTo.of_eq rfl); (case zf => decide); (case za => exact locs rfl); (case zc => exact rfl); (case zd => exact rfl); (case ze => exact rfl); k_whole))) | (k_here; (with_reducible show wpAny _ _ (exec (Stmt.For (Expr.Name (Str.ofString "size") _) _ _ _ _) _) _ _ _); (rename Fr _ _ _ _ => lF'); (with_unfolding_all refine' For_gn lF' ?_); (try k_fold)) | walk1)) | (dsimp only; (fail_if_success (k_dflt (show wpAny _ _ (call (Value.ref 60) _) _ _ _))); (first | ((with_reducible show wpAny _ _ (storeName _ _ _) _ _ _); (k_here; k_dflt (refine' storeX_LL ?F ?N ?_; (case F => k_asm); (case N => k_asm)); intro h' m' F' N')) | ((with_reducible show wpAny _ _ (execs (_ :: _) _) _ _ _); (k_here; refine execs_cons_S ?_; intro q9 s9)) | ((with_reducible show GnPost _ _ _ _ _ _ _ _ _ _ _ _ _); (dsimp only [GnPost])) | ((with_reducible show wpAny _ _ (call (Value.ref _) _) _ _ _); (k_here; k_dflt (show wpAny _ _ (call (Value.ref 60) [Value.ref _]) _ _ _); refine wpAny_call ?_; k_dflt (refine' code_genr ?z2 ?z3 ?z4 ?z5 ?z6 ?z7 ?z8 ?z9 ?za ?_ ?zc ?zd ?ze ?zf; (case z2 => k_asm); (case z3 => k_asm); (case z4 => k_asm); (case z5 => k_asm); (case z6 => k_is); (case z7 => k_is); (case z8 => ktr_room); (case z9 => exact BindsTo.of_eq rfl); (case zf => decide); (case za => exact locs rfl); (case zc => exact rfl); (case zd => exact rfl); (case ze => exact rfl); k_whole))) | (k_here; (with_reducible show wpAny _ _ (exec (Stmt.For (Expr.Name (Str.ofString "size") _) _ _ _ _) _) _ _ _); (rename Fr _ _ _ _ => lF'); (with_unfolding_all refine' For_gn lF' ?_); (try k_fold)) | walk1))))
  refine wpAny_call ?_
  k_dflt (refine' code_genr ?z2 ?z3 ?z4 ?z5 ?z6 ?z7 ?z8 ?z9 ?za ?_ ?zc ?zd ?ze ?zf; (case z2 => k_asm); (case z3 => k_asm); (case z4 => k_asm); (case z5 => k_asm); (case z6 => k_is); (case z7 => k_is); (case z8 => ktr_room); (case z9 => exact BindsTo.of_eq rfl); (case zf => decide); (case za => exact locs rfl); (case zc => exact rfl); (case zd => exact rfl); (case ze => exact rfl); k_whole)
  intro Lg oLg nm qn h9 tk9 F9 N9 hns hsz hlt hL9 hbs
  (try dsimp only)
  k_unfold
  (try dsimp only)
  (try dsimp only at hsz hlt hL9 hns N9)
  refine ⟨_, _, nm, qn, rfl, (N9 _ (List.mem_cons_of_mem _ (List.mem_cons_self ..))).1, ?_⟩
  refine' forLoop_gen2 (σ := Tok × Tok) (step := st) (sl := [_, _]) (Lg := Lg) (N0 := Lg + 2) (Pv0 := [(Lg, oLg)]) (gst0 := .fresh _) (fun j c => [(Str.ofString "place", Value.int (j * st) c.1), (Str.ofString "told", Value.int j c.2)]) [] (fun j => (j : Int) * st ≤ n) (_, _)
    (by rfl) ?hroom (by rfl) (by rfl) ?hlim (List.mem_cons_self ..) (List.forall_mem_cons.mpr ⟨List.mem_cons_of_mem _ (List.mem_cons_self ..), List.forall_mem_cons.mpr ⟨List.mem_cons_self .., List.forall_mem_nil _⟩⟩) ?hpn ?hpL ?hp0 F9 N9 ?hpv ?hb ?hg ?hgo ?hk9 ?h0 ?hJ ?turn
  case hroom => ktr_room
  case hlim => exact Top.nolimit (by k_asm)
  case hpn =>
    intro p hp
    rcases List.mem_cons.mp hp with rfl | hp
    · rintro (h1 | h1)
      · exact Nat.succ_ne_self _ h1
      · exact absurd h1 (Nat.not_le_of_lt (Nat.lt_succ_self _))
    · rintro (h1 | h1)
      · exact Nat.lt_irrefl _ (h1 ▸ hlt p hp)
      · exact absurd (Nat.lt_of_lt_of_le (hlt p hp) (Nat.le_trans (Nat.le_add_right _ 2) h1)) (Nat.lt_irrefl _)
  case hpL =>
    rintro (h1 | h1)
    · exact Nat.ne_of_lt hL9 h1
    · exact absurd (Nat.lt_of_lt_of_le hL9 (Nat.le_trans (Nat.le_add_right _ 2) h1)) (Nat.lt_irrefl _)
  case hp0 =>
    intro b o hb
    have h2 := Nat.lt_trans (Nat.lt_of_lt_of_le (Heap.lt_size hb) hbs) hL9
    rintro (h1 | h1)
    · exact Nat.ne_of_lt h2 h1
    · exact absurd (Nat.lt_of_lt_of_le h2 (Nat.le_trans (Nat.le_add_right _ 2) h1)) (Nat.lt_irrefl _)
  case hpv =>
    intro p hp
    obtain rfl := List.mem_singleton.mp hp
    exact .inl rfl
  case hb => exact AllBare.push hg rfl
  case hg => exact Array.getElem?_push_size ..
  case hk9 =>
    intro p hp
    rcases List.mem_cons.mp hp with rfl | hp
    · exact intEq (show (0 : Int) = ((0 : Nat) : Int) * st by simp)
    · obtain rfl := List.mem_singleton.mp hp
      exact rfl
  case h0 => simpa using hn0
  case hJ =>
    intro j hj
    have : (j : Int) * 1 ≤ (j : Int) * st := Int.mul_le_mul_of_nonneg_left hs1 (by omega)
    omega
  case hgo =>
    intro s'' hst hpv
    refine ⟨rfl, ?_⟩
    have hLo := hpv (Lg, oLg) (List.mem_singleton.mpr rfl)
    dsimp only at hLo
    have hbg : g'.objs.size ≤ Lg := Nat.le_of_lt (Nat.lt_of_le_of_lt hbs hL9)
    have hsl := static_two N9 hlt
    obtain ⟨Fg, Ng⟩ := gen_frames (N0 := Lg + 2) hst hLo hns hbg hsl
    simp only [List.cons_append, List.nil_append] at Ng
    clear F9 N9
    refine seg_func ?_
    refine seg_execs_cons ?_
    refine seg_wrap ?_
    (repeat' (first | (k_unfold; (try dsimp only)) | (first | ((with_reducible show wpAny _ _ (storeName _ _ _) _ _ _); (k_here; k_dflt (refine' storeX_LL ?F ?N ?_; (case F => k_asm); (case N => k_asm)); intro h' m' F' N')) | ((with_reducible show wpAny _ _ (execs (_ :: _) _) _ _ _); (k_here; refine execs_cons_S ?_; intro q9 s9)) | ((with_reducible show GnPost _ _ _ _ _ _ _ _ _ _ _ _ _); (dsimp only [GnPost])) | ((with_reducible show wpAny _ _ (call (Value.ref _) _) _ _ _); (k_here; k_dflt (show wpAny _ _ (call (Value.ref 60) [Value.ref _]) _ _ _); refine wpAny_call ?_; k_dflt (refine' code_genr ?z2 ?z3 ?z4 ?z5 ?z6 ?z7 ?z8 ?z9 ?za ?_ ?zc ?zd ?ze ?zf; (case z2 => k_asm); (case z3 => k_asm); (case z4 => k_asm); (case z5 => k_asm); (case z6 => k_is); (case z7 => k_is); (case z8 => ktr_room); (case z9 => exact BindsTo.of_eq rfl); (case zf => decide); (case za => exact locs rfl); (case zc => exact rfl); (case zd => exact rfl); (case ze => exact rfl); k_whole))) | (k_here; (with_reducible show wpAny _ _ (exec (Stmt.For (Expr.Name (Str.ofString "size") _) _ _ _ _) _) _ _ _); (rename Fr _ _ _ _ => lF'); (with_unfolding_all refine' For_gn lF' ?_); (try k_fold)) | walk1) | (dsimp only; (first | ((with_reducible show wpAny _ _ (storeName _ _ _) _ _ _); (k_here; k_dflt (refine' storeX_LL ?F ?N ?_; (case F => k_asm); (case N => k_asm)); intro h' m' F' N')) | ((with_reducible show wpAny _ _ (execs (_ :: _) _) _ _ _); (k_here; refine execs_cons_S ?_; intro q9 s9)) | ((with_reducible show GnPost _ _ _ _ _ _ _ _ _ _ _ _ _); (dsimp only [GnPost])) | ((with_reducible show wpAny _ _ (call (Value.ref _) _) _ _ _); (k_here; k_dflt (show wpAny _ _ (call (Value.ref 60) [Value.ref _]) _ _ _); refine wpAny_call ?_; k_dflt (refine' code_genr ?z2 ?z3 ?z4 ?z5 ?z6 ?z7 ?z8 ?z9 ?za ?_ ?zc ?zd ?ze ?zf; (case z2 => k_asm); (case z3 => k_asm); (case z4 => k_asm); (case z5 => k_asm); (case z6 => k_is); (case z7 => k_is); (case z8 => ktr_room); (case z9 => exact BindsTo.of_eq rfl); (case zf => decide); (case za => exact locs rfl); (case zc => exact rfl); (case zd => exact rfl); (case ze => exact rfl); k_whole))) | (k_here; (with_reducible show wpAny _ _ (exec (Stmt.For (Expr.Name (Str.ofString "size") _) _ _ _ _) _) _ _ _); (rename Fr _ _ _ _ => lF'); (with_unfolding_all refine' For_gn lF' ?_); (try k_fold)) | walk1))))
    dsimp only
    refine seg_execs_cons ?_
    refine seg_For ?_
    (first | ((with_reducible show wpAny _ _ (storeName _ _ _) _ _ _); (k_here; k_dflt (refine' storeX_LL ?F ?N ?_; (case F => k_asm); (case N => k_asm)); intro h' m' F' N')) | ((with_reducible show wpAny _ _ (execs (_ :: _) _) _ _ _); (k_here; refine execs_cons_S ?_; intro q9 s9)) | ((with_reducible show GnPost _ _ _ _ _ _ _ _ _ _ _ _ _); (dsimp only [GnPost])) | ((with_reducible show wpAny _ _ (call (Value.ref _) _) _ _ _); (k_here; k_dflt (show wpAny _ _ (call (Value.ref 60) [Value.ref _]) _ _ _); refine wpAny_call ?_; k_dflt (refine' code_genr ?z2 ?z3 ?z4 ?z5 ?z6 ?z7 ?z8 ?z9 ?za ?_ ?zc ?zd ?ze ?zf; (case z2 => k_asm); (case z3 => k_asm); (case z4 => k_asm); (case z5 => k_asm); (case z6 => k_is); (case z7 => k_is); (case z8 => ktr_room); (case z9 => exact BindsTo.of_eq rfl); (case zf => decide); (case za => exact locs rfl); (case zc => exact rfl); (case zd => exact rfl); (case ze => exact rfl); k_whole))) | (k_here; (with_reducible show wpAny _ _ (exec (Stmt.For (Expr.Name (Str.ofString "size") _) _ _ _ _) _) _ _ _); (rename Fr _ _ _ _ => lF'); (with_unfolding_all refine' For_gn lF' ?_); (try k_fold)) | walk1)
    rename Fr _ _ _ _ => Fa
    rename News _ _ _ _ => Na
    refine iter_list Fa Na fun I hb8 oI8 hIs Fb Nb hit hoff => ?_
    have hI2 : Lg + 2 ≤ I := Nat.le_trans (Heap.lt_size (Na _ (List.mem_cons_of_mem _ (List.mem_cons_self ..))).1) hIs
    have hlI := hoff _ (List.mem_cons_self ..)
    intro p9
    refine seg_forLoop ?_
    refine next_item (i := 0) (x := .int st ts) Fb Nb hit (by rfl) hoff fun hb9 oI Fc Nc hit' => ?_
    clear Fa Na Fb Nb hit
    (repeat' (first | (k_unfold; (try dsimp only)) | (first | ((with_reducible show wpAny _ _ (storeName _ _ _) _ _ _); (k_here; k_dflt (refine' storeX_LL ?F ?N ?_; (case F => k_asm); (case N => k_asm)); intro h' m' F' N')) | ((with_reducible show wpAny _ _ (execs (_ :: _) _) _ _ _); (k_here; refine execs_cons_S ?_; intro q9 s9)) | ((with_reducible show GnPost _ _ _ _ _ _ _ _ _ _ _ _ _); (dsimp only [GnPost])) | ((with_reducible show wpAny _ _ (call (Value.ref _) _) _ _ _); (k_here; k_dflt (show wpAny _ _ (call (Value.ref 60) [Value.ref _]) _ _ _); refine wpAny_call ?_; k_dflt (refine' code_genr ?z2 ?z3 ?z4 ?z5 ?z6 ?z7 ?z8 ?z9 ?za ?_ ?zc ?zd ?ze ?zf; (case z2 => k_asm); (case z3 => k_asm); (case z4 => k_asm); (case z5 => k_asm); (case z6 => k_is); (case z7 => k_is); (case z8 => ktr_room); (case z9 => exact BindsTo.of_eq rfl); (case zf => decide); (case za => exact locs rfl); (case zc => exact rfl); (case zd => exact rfl); (case ze => exact rfl); k_whole))) | (k_here; (with_reducible show wpAny _ _ (exec (Stmt.For (Expr.Name (Str.ofString "size") _) _ _ _ _) _) _ _ _); (rename Fr _ _ _ _ => lF'); (with_unfolding_all refine' For_gn lF' ?_); (try k_fold)) | walk1) | (dsimp only; (first | ((with_reducible show wpAny _ _ (storeName _ _ _) _ _ _); (k_here; k_dflt (refine' storeX_LL ?F ?N ?_; (case F => k_asm); (case N => k_asm)); intro h' m' F' N')) | ((with_reducible show wpAny _ _ (execs (_ :: _) _) _ _ _); (k_here; refine execs_cons_S ?_; intro q9 s9)) | ((with_reducible show GnPost _ _ _ _ _ _ _ _ _ _ _ _ _); (dsimp only [GnPost])) | ((with_reducible show wpAny _ _ (call (Value.ref _) _) _ _ _); (k_here; k_dflt (show wpAny _ _ (call (Value.ref 60) [Value.ref _]) _ _ _); refine wpAny_call ?_; k_dflt (refine' code_genr ?z2 ?z3 ?z4 ?z5 ?z6 ?z7 ?z8 ?z9 ?za ?_ ?zc ?zd ?ze ?zf; (case z2 => k_asm); (case z3 => k_asm); (case z4 => k_asm); (case z5 => k_asm); (case z6 => k_is); (case z7 => k_is); (case z8 => ktr_room); (case z9 => exact BindsTo.of_eq rfl); (case zf => decide); (case za => exact locs rfl); (case zc => exact rfl); (case zd => exact rfl); (case ze => exact rfl); k_whole))) | (k_here; (with_reducible show wpAny _ _ (exec (Stmt.For (Expr.Name (Str.ofString "size") _) _ _ _ _) _) _ _ _); (rename Fr _ _ _ _ => lF'); (with_unfolding_all refine' For_gn lF' ?_); (try k_fold)) | walk1))))
    refine seg_execs_cons (seg_If ?_)
    (repeat' (first | (k_unfold; (try dsimp only)) | (first | ((with_reducible show wpAny _ _ (storeName _ _ _) _ _ _); (k_here; k_dflt (refine' storeX_LL ?F ?N ?_; (case F => k_asm); (case N => k_asm)); intro h' m' F' N')) | ((with_reducible show wpAny _ _ (execs (_ :: _) _) _ _ _); (k_here; refine execs_cons_S ?_; intro q9 s9)) | ((with_reducible show GnPost _ _ _ _ _ _ _ _ _ _ _ _ _); (dsimp only [GnPost])) | ((with_reducible show wpAny _ _ (call (Value.ref _) _) _ _ _); (k_here; k_dflt (show wpAny _ _ (call (Value.ref 60) [Value.ref _]) _ _ _); refine wpAny_call ?_; k_dflt (refine' code_genr ?z2 ?z3 ?z4 ?z5 ?z6 ?z7 ?z8 ?z9 ?za ?_ ?zc ?zd ?ze ?zf; (case z2 => k_asm); (case z3 => k_asm); (case z4 => k_asm); (case z5 => k_asm); (case z6 => k_is); (case z7 => k_is); (case z8 => ktr_room); (case z9 => exact BindsTo.of_eq rfl); (case zf => decide); (case za => exact locs rfl); (case zc => exact rfl); (case zd => exact rfl); (case ze => exact rfl); k_whole))) | (k_here; (with_reducible show wpAny _ _ (exec (Stmt.For (Expr.Name (Str.ofString "size") _) _ _ _ _) _) _ _ _); (rename Fr _ _ _ _ => lF'); (with_unfolding_all refine' For_gn lF' ?_); (try k_fold)) | walk1) | (dsimp only; (first | ((with_reducible show wpAny _ _ (storeName _ _ _) _ _ _); (k_here; k_dflt (refine' storeX_LL ?F ?N ?_; (case F => k_asm); (case N => k_asm)); intro h' m' F' N')) | ((with_reducible show wpAny _ _ (execs (_ :: _) _) _ _ _); (k_here; refine execs_cons_S ?_; intro q9 s9)) | ((with_reducible show GnPost _ _ _ _ _ _ _ _ _ _ _ _ _); (dsimp only [GnPost])) | ((with_reducible show wpAny _ _ (call (Value.ref _) _) _ _ _); (k_here; k_dflt (show wpAny _ _ (call (Value.ref 60) [Value.ref _]) _ _ _); refine wpAny_call ?_; k_dflt (refine' code_genr ?z2 ?z3 ?z4 ?z5 ?z6 ?z7 ?z8 ?z9 ?za ?_ ?zc ?zd ?ze ?zf; (case z2 => k_asm); (case z3 => k_asm); (case z4 => k_asm); (case z5 => k_asm); (case z6 => k_is); (case z7 => k_is); (case z8 => ktr_room); (case z9 => exact BindsTo.of_eq rfl); (case zf => decide); (case za => exact locs rfl); (case zc => exact rfl); (case zd => exact rfl); (case ze => exact rfl); k_whole))) | (k_here; (with_reducible show wpAny _ _ (exec (Stmt.For (Expr.Name (Str.ofString "size") _) _ _ _ _) _) _ _ _); (rename Fr _ _ _ _ => lF'); (with_unfolding_all refine' For_gn lF' ?_); (try k_fold)) | walk1))))
    · exfalso; omega
    refine seg_execs_nil ?_
    dsimp only
    refine seg_execs_cons (seg_If ?_)
    (repeat' (first | (k_unfold; (try dsimp only)) | (first | ((with_reducible show wpAny _ _ (storeName _ _ _) _ _ _); (k_here; k_dflt (refine' storeX_LL ?F ?N ?_; (case F => k_asm); (case N => k_asm)); intro h' m' F' N')) | ((with_reducible show wpAny _ _ (execs (_ :: _) _) _ _ _); (k_here; refine execs_cons_S ?_; intro q9 s9)) | ((with_reducible show GnPost _ _ _ _ _ _ _ _ _ _ _ _ _); (dsimp only [GnPost])) | ((with_reducible show wpAny _ _ (call (Value.ref _) _) _ _ _); (k_here; k_dflt (show wpAny _ _ (call (Value.ref 60) [Value.ref _]) _ _ _); refine wpAny_call ?_; k_dflt (refine' code_genr ?z2 ?z3 ?z4 ?z5 ?z6 ?z7 ?z8 ?z9 ?za ?_ ?zc ?zd ?ze ?zf; (case z2 => k_asm); (case z3 => k_asm); (case z4 => k_asm); (case z5 => k_asm); (case z6 => k_is); (case z7 => k_is); (case z8 => ktr_room); (case z9 => exact BindsTo.of_eq rfl); (case zf => decide); (case za => exact locs rfl); (case zc => exact rfl); (case zd => exact rfl); (case ze => exact rfl); k_whole))) | (k_here; (with_reducible show wpAny _ _ (exec (Stmt.For (Expr.Name (Str.ofString "size") _) _ _ _ _) _) _ _ _); (rename Fr _ _ _ _ => lF'); (with_unfolding_all refine' For_gn lF' ?_); (try k_fold)) | walk1) | (dsimp only; (first | ((with_reducible show wpAny _ _ (storeName _ _ _) _ _ _); (k_here; k_dflt (refine' storeX_LL ?F ?N ?_; (case F => k_asm); (case N => k_asm)); intro h' m' F' N')) | ((with_reducible show wpAny _ _ (execs (_ :: _) _) _ _ _); (k_here; refine execs_cons_S ?_; intro q9 s9)) | ((with_reducible show GnPost _ _ _ _ _ _ _ _ _ _ _ _ _); (dsimp only [GnPost])) | ((with_reducible show wpAny _ _ (call (Value.ref _) _) _ _ _); (k_here; k_dflt (show wpAny _ _ (call (Value.ref 60) [Value.ref _]) _ _ _); refine wpAny_call ?_; k_dflt (refine' code_genr ?z2 ?z3 ?z4 ?z5 ?z6 ?z7 ?z8 ?z9 ?za ?_ ?zc ?zd ?ze ?zf; (case z2 => k_asm); (case z3 => k_asm); (case z4 => k_asm); (case z5 => k_asm); (case z6 => k_is); (case z7 => k_is); (case z8 => ktr_room); (case z9 => exact BindsTo.of_eq rfl); (case zf => decide); (case za => exact locs rfl); (case zc => exact rfl); (case zd => exact rfl); (case ze => exact rfl); k_whole))) | (k_here; (with_reducible show wpAny _ _ (exec (Stmt.For (Expr.Name (Str.ofString "size") _) _ _ _ _) _) _ _ _); (rename Fr _ _ _ _ => lF'); (with_unfolding_all refine' For_gn lF' ?_); (try k_fold)) | walk1))))
    · exfalso; omega
    refine seg_execs_nil ?_
    dsimp only
    refine seg_execs_cons (seg_Expr_Yield (n := 59) (by rfl) (by rfl) (by rfl) ?_ (by rfl) (by rfl))
    (first | ((with_reducible show wpAny _ _ (storeName _ _ _) _ _ _); (k_here; k_dflt (refine' storeX_LL ?F ?N ?_; (case F => k_asm); (case N => k_asm)); intro h' m' F' N')) | ((with_reducible show wpAny _ _ (execs (_ :: _) _) _ _ _); (k_here; refine execs_cons_S ?_; intro q9 s9)) | ((with_reducible show GnPost _ _ _ _ _ _ _ _ _ _ _ _ _); (dsimp only [GnPost])) | ((with_reducible show wpAny _ _ (call (Value.ref _) _) _ _ _); (k_here; k_dflt (show wpAny _ _ (call (Value.ref 60) [Value.ref _]) _ _ _); refine wpAny_call ?_; k_dflt (refine' code_genr ?z2 ?z3 ?z4 ?z5 ?z6 ?z7 ?z8 ?z9 ?za ?_ ?zc ?zd ?ze ?zf; (case z2 => k_asm); (case z3 => k_asm); (case z4 => k_asm); (case z5 => k_asm); (case z6 => k_is); (case z7 => k_is); (case z8 => ktr_room); (case z9 => exact BindsTo.of_eq rfl); (case zf => decide); (case za => exact locs rfl); (case zc => exact rfl); (case zd => exact rfl); (case ze => exact rfl); k_whole))) | (k_here; (with_reducible show wpAny _ _ (exec (Stmt.For (Expr.Name (Str.ofString "size") _) _ _ _ _) _) _ _ _); (rename Fr _ _ _ _ => lF'); (with_unfolding_all refine' For_gn lF' ?_); (try k_fold)) | walk1)
    intro kap hkap
    rename Fr _ _ _ _ => F2
    rename News _ _ _ _ => N2
    obtain ⟨oL2, e1, e2, hL2, e3⟩ := id F2.ns
    have hIo := (N2 _ (List.mem_cons_self ..)).2
    have hIv := (N2 _ (List.mem_cons_self ..)).1
    refine ⟨⟨ts, rfl⟩, ⟨_, _, rfl, prot_since (own := [_, _, _]) F2 N2 hst.1⟩, [(Lg, oL2), (I, oI)], List.forall_mem_cons.mpr ⟨⟨.inl rfl, hL2⟩, List.forall_mem_cons.mpr ⟨⟨.inr hI2, hIv⟩, List.forall_mem_nil _⟩⟩, ?_⟩
    intro _ s3 hst3 hpv3
    refine hkap .none s3 ?_
    have hL3 := hpv3 _ (List.mem_cons_self ..)
    have hI3 := hpv3 _ (List.mem_cons_of_mem _ (List.mem_cons_self ..))
    dsimp only at hL3 hI3
    obtain ⟨F3, N3⟩ := gen_frames (N0 := Lg + 2) hst3 hL3 (fun k hk => ⟨oL2, e1, e2, hk, e3⟩) hbg hsl
    simp only [List.cons_append, List.nil_append] at N3
    have N4 := news_cons N3 hI3 hIo.1 hIo.2
    clear F2 N2 N3 hkap kap hIv hoff
    dsimp only
    refine seg_execs_cons ?_
    refine seg_wrap ?_
    (repeat' (first | (k_unfold; (try dsimp only)) | (first | ((with_reducible show wpAny _ _ (storeName _ _ _) _ _ _); (k_here; k_dflt (refine' storeX_LL ?F ?N ?_; (case F => k_asm); (case N => k_asm)); intro h' m' F' N')) | ((with_reducible show wpAny _ _ (execs (_ :: _) _) _ _ _); (k_here; refine execs_cons_S ?_; intro q9 s9)) | ((with_reducible show GnPost _ _ _ _ _ _ _ _ _ _ _ _ _); (dsimp only [GnPost])) | ((with_reducible show wpAny _ _ (call (Value.ref _) _) _ _ _); (k_here; k_dflt (show wpAny _ _ (call (Value.ref 60) [Value.ref _]) _ _ _); refine wpAny_call ?_; k_dflt (refine' code_genr ?z2 ?z3 ?z4 ?z5 ?z6 ?z7 ?z8 ?z9 ?za ?_ ?zc ?zd ?ze ?zf; (case z2 => k_asm); (case z3 => k_asm); (case z4 => k_asm); (case z5 => k_asm); (case z6 => k_is); (case z7 => k_is); (case z8 => ktr_room); (case z9 => exact BindsTo.of_eq rfl); (case zf => decide); (case za => exact locs rfl); (case zc => exact rfl); (case zd => exact rfl); (case ze => exact rfl); k_whole))) | (k_here; (with_reducible show wpAny _ _ (exec (Stmt.For (Expr.Name (Str.ofString "size") _) _ _ _ _) _) _ _ _); (rename Fr _ _ _ _ => lF'); (with_unfolding_all refine' For_gn lF' ?_); (try k_fold)) | walk1) | (dsimp only; (first | ((with_reducible show wpAny _ _ (storeName _ _ _) _ _ _); (k_here; k_dflt (refine' storeX_LL ?F ?N ?_; (case F => k_asm); (case N => k_asm)); intro h' m' F' N')) | ((with_reducible show wpAny _ _ (execs (_ :: _) _) _ _ _); (k_here; refine execs_cons_S ?_; intro q9 s9)) | ((with_reducible show GnPost _ _ _ _ _ _ _ _ _ _ _ _ _); (dsimp only [GnPost])) | ((with_reducible show wpAny _ _ (call (Value.ref _) _) _ _ _); (k_here; k_dflt (show wpAny _ _ (call (Value.ref 60) [Value.ref _]) _ _ _); refine wpAny_call ?_; k_dflt (refine' code_genr ?z2 ?z3 ?z4 ?z5 ?z6 ?z7 ?z8 ?z9 ?za ?_ ?zc ?zd ?ze ?zf; (case z2 => k_asm); (case z3 => k_asm); (case z4 => k_asm); (case z5 => k_asm); (case z6 => k_is); (case z7 => k_is); (case z8 => ktr_room); (case z9 => exact BindsTo.of_eq rfl); (case zf => decide); (case za => exact locs rfl); (case zc => exact rfl); (case zd => exact rfl); (case ze => exact rfl); k_whole))) | (k_here; (with_reducible show wpAny _ _ (exec (Stmt.For (Expr.Name (Str.ofString "size") _) _ _ _ _) _) _ _ _); (rename Fr _ _ _ _ => lF'); (with_unfolding_all refine' For_gn lF' ?_); (try k_fold)) | walk1))))
    dsimp only
    refine seg_execs_nil ?_
    dsimp only
    refine seg_again (by rfl) ?_
    refine seg_forLoop ?_
    rename Fr _ _ _ _ => F5
    rename News _ _ _ _ => N5
    have hit5 := hit' _ (N5 _ (List.mem_cons_self ..)).1
    refine next_item (i := 1) (x := .int 0 _) F5 N5 hit5 (by rfl) (off_two hlI hI2 prot_not) fun hb10 oI6 F6 N6 hit6 => ?_
    clear F5 N5
    (repeat' (first | (k_unfold; (try dsimp only)) | (first | ((with_reducible show wpAny _ _ (storeName _ _ _) _ _ _); (k_here; k_dflt (refine' storeX_LL ?F ?N ?_; (case F => k_asm); (case N => k_asm)); intro h' m' F' N')) | ((with_reducible show wpAny _ _ (execs (_ :: _) _) _ _ _); (k_here; refine execs_cons_S ?_; intro q9 s9)) | ((with_reducible show GnPost _ _ _ _ _ _ _ _ _ _ _ _ _); (dsimp only [GnPost])) | ((with_reducible show wpAny _ _ (call (Value.ref _) _) _ _ _); (k_here; k_dflt (show wpAny _ _ (call (Value.ref 60) [Value.ref _]) _ _ _); refine wpAny_call ?_; k_dflt (refine' code_genr ?z2 ?z3 ?z4 ?z5 ?z6 ?z7 ?z8 ?z9 ?za ?_ ?zc ?zd ?ze ?zf; (case z2 => k_asm); (case z3 => k_asm); (case z4 => k_asm); (case z5 => k_asm); (case z6 => k_is); (case z7 => k_is); (case z8 => ktr_room); (case z9 => exact BindsTo.of_eq rfl); (case zf => decide); (case za => exact locs rfl); (case zc => exact rfl); (case zd => exact rfl); (case ze => exact rfl); k_whole))) | (k_here; (with_reducible show wpAny _ _ (exec (Stmt.For (Expr.Name (Str.ofString "size") _) _ _ _ _) _) _ _ _); (rename Fr _ _ _ _ => lF'); (with_unfolding_all refine' For_gn lF' ?_); (try k_fold)) | walk1) | (dsimp only; (first | ((with_reducible show wpAny _ _ (storeName _ _ _) _ _ _); (k_here; k_dflt (refine' storeX_LL ?F ?N ?_; (case F => k_asm); (case N => k_asm)); intro h' m' F' N')) | ((with_reducible show wpAny _ _ (execs (_ :: _) _) _ _ _); (k_here; refine execs_cons_S ?_; intro q9 s9)) | ((with_reducible show GnPost _ _ _ _ _ _ _ _ _ _ _ _ _); (dsimp only [GnPost])) | ((with_reducible show wpAny _ _ (call (Value.ref _) _) _ _ _); (k_here; k_dflt (show wpAny _ _ (call (Value.ref 60) [Value.ref _]) _ _ _); refine wpAny_call ?_; k_dflt (refine' code_genr ?z2 ?z3 ?z4 ?z5 ?z6 ?z7 ?z8 ?z9 ?za ?_ ?zc ?zd ?ze ?zf; (case z2 => k_asm); (case z3 => k_asm); (case z4 => k_asm); (case z5 => k_asm); (case z6 => k_is); (case z7 => k_is); (case z8 => ktr_room); (case z9 => exact BindsTo.of_eq rfl); (case zf => decide); (case za => exact locs rfl); (case zc => exact rfl); (case zd => exact rfl); (case ze => exact rfl); k_whole))) | (k_here; (with_reducible show wpAny _ _ (exec (Stmt.For (Expr.Name (Str.ofString "size") _) _ _ _ _) _) _ _ _); (rename Fr _ _ _ _ => lF'); (with_unfolding_all refine' For_gn lF' ?_); (try k_fold)) | walk1))))
    refine seg_execs_cons (seg_If ?_)
    (repeat' (first | (k_unfold; (try dsimp only)) | (first | ((with_reducible show wpAny _ _ (storeName _ _ _) _ _ _); (k_here; k_dflt (refine' storeX_LL ?F ?N ?_; (case F => k_asm); (case N => k_asm)); intro h' m' F' N')) | ((with_reducible show wpAny _ _ (execs (_ :: _) _) _ _ _); (k_here; refine execs_cons_S ?_; intro q9 s9)) | ((with_reducible show GnPost _ _ _ _ _ _ _ _ _ _ _ _ _); (dsimp only [GnPost])) | ((with_reducible show wpAny _ _ (call (Value.ref _) _) _ _ _); (k_here; k_dflt (show wpAny _ _ (call (Value.ref 60) [Value.ref _]) _ _ _); refine wpAny_call ?_; k_dflt (refine' code_genr ?z2 ?z3 ?z4 ?z5 ?z6 ?z7 ?z8 ?z9 ?za ?_ ?zc ?zd ?ze ?zf; (case z2 => k_asm); (case z3 => k_asm); (case z4 => k_asm); (case z5 => k_asm); (case z6 => k_is); (case z7 => k_is); (case z8 => ktr_room); (case z9 => exact BindsTo.of_eq rfl); (case zf => decide); (case za => exact locs rfl); (case zc => exact rfl); (case zd => exact rfl); (case ze => exact rfl); k_whole))) | (k_here; (with_reducible show wpAny _ _ (exec (Stmt.For (Expr.Name (Str.ofString "size") _) _ _ _ _) _) _ _ _); (rename Fr _ _ _ _ => lF'); (with_unfolding_all refine' For_gn lF' ?_); (try k_fold)) | walk1) | (dsimp only; (first | ((with_reducible show wpAny _ _ (storeName _ _ _) _ _ _); (k_here; k_dflt (refine' storeX_LL ?F ?N ?_; (case F => k_asm); (case N => k_asm)); intro h' m' F' N')) | ((with_reducible show wpAny _ _ (execs (_ :: _) _) _ _ _); (k_here; refine execs_cons_S ?_; intro q9 s9)) | ((with_reducible show GnPost _ _ _ _ _ _ _ _ _ _ _ _ _); (dsimp only [GnPost])) | ((with_reducible show wpAny _ _ (call (Value.ref _) _) _ _ _); (k_here; k_dflt (show wpAny _ _ (call (Value.ref 60) [Value.ref _]) _ _ _); refine wpAny_call ?_; k_dflt (refine' code_genr ?z2 ?z3 ?z4 ?z5 ?z6 ?z7 ?z8 ?z9 ?za ?_ ?zc ?zd ?ze ?zf; (case z2 => k_asm); (case z3 => k_asm); (case z4 => k_asm); (case z5 => k_asm); (case z6 => k_is); (case z7 => k_is); (case z8 => ktr_room); (case z9 => exact BindsTo.of_eq rfl); (case zf => decide); (case za => exact locs rfl); (case zc => exact rfl); (case zd => exact rfl); (case ze => exact rfl); k_whole))) | (k_here; (with_reducible show wpAny _ _ (exec (Stmt.For (Expr.Name (Str.ofString "size") _) _ _ _ _) _) _ _ _); (rename Fr _ _ _ _ => lF'); (with_unfolding_all refine' For_gn lF' ?_); (try k_fold)) | walk1))))
    refine seg_execs_nil ?_
    dsimp only
    refine seg_execs_cons (seg_If ?_)
    (repeat' (first | (k_unfold; (try dsimp only)) | (first | ((with_reducible show wpAny _ _ (storeName _ _ _) _ _ _); (k_here; k_dflt (refine' storeX_LL ?F ?N ?_; (case F => k_asm); (case N => k_asm)); intro h' m' F' N')) | ((with_reducible show wpAny _ _ (execs (_ :: _) _) _ _ _); (k_here; refine execs_cons_S ?_; intro q9 s9)) | ((with_reducible show GnPost _ _ _ _ _ _ _ _ _ _ _ _ _); (dsimp only [GnPost])) | ((with_reducible show wpAny _ _ (call (Value.ref _) _) _ _ _); (k_here; k_dflt (show wpAny _ _ (call (Value.ref 60) [Value.ref _]) _ _ _); refine wpAny_call ?_; k_dflt (refine' code_genr ?z2 ?z3 ?z4 ?z5 ?z6 ?z7 ?z8 ?z9 ?za ?_ ?zc ?zd ?ze ?zf; (case z2 => k_asm); (case z3 => k_asm); (case z4 => k_asm); (case z5 => k_asm); (case z6 => k_is); (case z7 => k_is); (case z8 => ktr_room); (case z9 => exact BindsTo.of_eq rfl); (case zf => decide); (case za => exact locs rfl); (case zc => exact rfl); (case zd => exact rfl); (case ze => exact rfl); k_whole))) | (k_here; (with_reducible show wpAny _ _ (exec (Stmt.For (Expr.Name (Str.ofString "size") _) _ _ _ _) _) _ _ _); (rename Fr _ _ _ _ => lF'); (with_unfolding_all refine' For_gn lF' ?_); (try k_fold)) | walk1) | (dsimp only; (first | ((with_reducible show wpAny _ _ (storeName _ _ _) _ _ _); (k_here; k_dflt (refine' storeX_LL ?F ?N ?_; (case F => k_asm); (case N => k_asm)); intro h' m' F' N')) | ((with_reducible show wpAny _ _ (execs (_ :: _) _) _ _ _); (k_here; refine execs_cons_S ?_; intro q9 s9)) | ((with_reducible show GnPost _ _ _ _ _ _ _ _ _ _ _ _ _); (dsimp only [GnPost])) | ((with_reducible show wpAny _ _ (call (Value.ref _) _) _ _ _); (k_here; k_dflt (show wpAny _ _ (call (Value.ref 60) [Value.ref _]) _ _ _); refine wpAny_call ?_; k_dflt (refine' code_genr ?z2 ?z3 ?z4 ?z5 ?z6 ?z7 ?z8 ?z9 ?za ?_ ?zc ?zd ?ze ?zf; (case z2 => k_asm); (case z3 => k_asm); (case z4 => k_asm); (case z5 => k_asm); (case z6 => k_is); (case z7 => k_is); (case z8 => ktr_room); (case z9 => exact BindsTo.of_eq rfl); (case zf => decide); (case za => exact locs rfl); (case zc => exact rfl); (case zd => exact rfl); (case ze => exact rfl); k_whole))) | (k_here; (with_reducible show wpAny _ _ (exec (Stmt.For (Expr.Name (Str.ofString "size") _) _ _ _ _) _) _ _ _); (rename Fr _ _ _ _ => lF'); (with_unfolding_all refine' For_gn lF' ?_); (try k_fold)) | walk1))))
    refine seg_execs_cons (seg_If ?_)
    (repeat' (first | (k_unfold; (try dsimp only)) | (first | ((with_reducible show wpAny _ _ (storeName _ _ _) _ _ _); (k_here; k_dflt (refine' storeX_LL ?F ?N ?_; (case F => k_asm); (case N => k_asm)); intro h' m' F' N')) | ((with_reducible show wpAny _ _ (execs (_ :: _) _) _ _ _); (k_here; refine execs_cons_S ?_; intro q9 s9)) | ((with_reducible show GnPost _ _ _ _ _ _ _ _ _ _ _ _ _); (dsimp only [GnPost])) | ((with_reducible show wpAny _ _ (call (Value.ref _) _) _ _ _); (k_here; k_dflt (show wpAny _ _ (call (Value.ref 60) [Value.ref _]) _ _ _); refine wpAny_call ?_; k_dflt (refine' code_genr ?z2 ?z3 ?z4 ?z5 ?z6 ?z7 ?z8 ?z9 ?za ?_ ?zc ?zd ?ze ?zf; (case z2 => k_asm); (case z3 => k_asm); (case z4 => k_asm); (case z5 => k_asm); (case z6 => k_is); (case z7 => k_is); (case z8 => ktr_room); (case z9 => exact BindsTo.of_eq rfl); (case zf => decide); (case za => exact locs rfl); (case zc => exact rfl); (case zd => exact rfl); (case ze => exact rfl); k_whole))) | (k_here; (with_reducible show wpAny _ _ (exec (Stmt.For (Expr.Name (Str.ofString "size") _) _ _ _ _) _) _ _ _); (rename Fr _ _ _ _ => lF'); (with_unfolding_all refine' For_gn lF' ?_); (try k_fold)) | walk1) | (dsimp only; (first | ((with_reducible show wpAny _ _ (storeName _ _ _) _ _ _); (k_here; k_dflt (refine' storeX_LL ?F ?N ?_; (case F => k_asm); (case N => k_asm)); intro h' m' F' N')) | ((with_reducible show wpAny _ _ (execs (_ :: _) _) _ _ _); (k_here; refine execs_cons_S ?_; intro q9 s9)) | ((with_reducible show GnPost _ _ _ _ _ _ _ _ _ _ _ _ _); (dsimp only [GnPost])) | ((with_reducible show wpAny _ _ (call (Value.ref _) _) _ _ _); (k_here; k_dflt (show wpAny _ _ (call (Value.ref 60) [Value.ref _]) _ _ _); refine wpAny_call ?_; k_dflt (refine' code_genr ?z2 ?z3 ?z4 ?z5 ?z6 ?z7 ?z8 ?z9 ?za ?_ ?zc ?zd ?ze ?zf; (case z2 => k_asm); (case z3 => k_asm); (case z4 => k_asm); (case z5 => k_asm); (case z6 => k_is); (case z7 => k_is); (case z8 => ktr_room); (case z9 => exact BindsTo.of_eq rfl); (case zf => decide); (case za => exact locs rfl); (case zc => exact rfl); (case zd => exact rfl); (case ze => exact rfl); k_whole))) | (k_here; (with_reducible show wpAny _ _ (exec (Stmt.For (Expr.Name (Str.ofString "size") _) _ _ _ _) _) _ _ _); (rename Fr _ _ _ _ => lF'); (with_unfolding_all refine' For_gn lF' ?_); (try k_fold)) | walk1))))
    refine seg_execs_nil ?_
    dsimp only
    refine seg_execs_cons (seg_While ?_)
    intro p10
    rename Fr _ _ _ _ => F7
    rename News _ _ _ _ => N7
    obtain ⟨oL7, f1, f2, hL7, f3⟩ := id F7.ns
    exact gen_while (by rfl) (by rfl) (by rfl) (by rfl) (by rfl) (by decide) (fun h hh => ⟨_, ⟨oL7, f1, f2, hh, f3⟩, by rfl⟩) 58 s3 _ ⟨_, _, rfl, prot_since (own := [_, _, _]) F7 N7 hst3.1⟩ hL7
  case turn =>
    intro j c u h tk gs t Pv hj hb' F2 N2
    (repeat' (first | (k_unfold; (try dsimp only)) | (first | ((with_reducible show wpAny _ _ (storeName _ _ _) _ _ _); (k_here; k_dflt (refine' storeX_LL ?F ?N ?_; (case F => k_asm); (case N => k_asm)); intro h' m' F' N')) | ((with_reducible show wpAny _ _ (execs (_ :: _) _) _ _ _); (k_here; refine execs_cons_S ?_; intro q9 s9)) | ((with_reducible show GnPost _ _ _ _ _ _ _ _ _ _ _ _ _); (dsimp only [GnPost])) | ((with_reducible show wpAny _ _ (call (Value.ref _) _) _ _ _); (k_here; k_dflt (show wpAny _ _ (call (Value.ref 60) [Value.ref _]) _ _ _); refine wpAny_call ?_; k_dflt (refine' code_genr ?z2 ?z3 ?z4 ?z5 ?z6 ?z7 ?z8 ?z9 ?za ?_ ?zc ?zd ?ze ?zf; (case z2 => k_asm); (case z3 => k_asm); (case z4 => k_asm); (case z5 => k_asm); (case z6 => k_is); (case z7 => k_is); (case z8 => ktr_room); (case z9 => exact BindsTo.of_eq rfl); (case zf => decide); (case za => exact locs rfl); (case zc => exact rfl); (case zd => exact rfl); (case ze => exact rfl); k_whole))) | (k_here; (with_reducible show wpAny _ _ (exec (Stmt.For (Expr.Name (Str.ofString "size") _) _ _ _ _) _) _ _ _); (rename Fr _ _ _ _ => lF'); (with_unfolding_all refine' For_gn lF' ?_); (try k_fold)) | walk1) | (dsimp only; (first | ((with_reducible show wpAny _ _ (storeName _ _ _) _ _ _); (k_here; k_dflt (refine' storeX_LL ?F ?N ?_; (case F => k_asm); (case N => k_asm)); intro h' m' F' N')) | ((with_reducible show wpAny _ _ (execs (_ :: _) _) _ _ _); (k_here; refine execs_cons_S ?_; intro q9 s9)) | ((with_reducible show GnPost _ _ _ _ _ _ _ _ _ _ _ _ _); (dsimp only [GnPost])) | ((with_reducible show wpAny _ _ (call (Value.ref _) _) _ _ _); (k_here; k_dflt (show wpAny _ _ (call (Value.ref 60) [Value.ref _]) _ _ _); refine wpAny_call ?_; k_dflt (refine' code_genr ?z2 ?z3 ?z4 ?z5 ?z6 ?z7 ?z8 ?z9 ?za ?_ ?zc ?zd ?ze ?zf; (case z2 => k_asm); (case z3 => k_asm); (case z4 => k_asm); (case z5 => k_asm); (case z6 => k_is); (case z7 => k_is); (case z8 => ktr_room); (case z9 => exact BindsTo.of_eq rfl); (case zf => decide); (case za => exact locs rfl); (case zc => exact rfl); (case zd => exact rfl); (case ze => exact rfl); k_whole))) | (k_here; (with_reducible show wpAny _ _ (exec (Stmt.For (Expr.Name (Str.ofString "size") _) _ _ _ _) _) _ _ _); (rename Fr _ _ _ _ => lF'); (with_unfolding_all refine' For_gn lF' ?_); (try k_fold)) | walk1))))
    · have e : n / st = j := div_of hs1 hj (by assumption)
      rw [e] at hret
      exact hret _ _ _ _ (by assumption) (fun p hp => (by assumption : News h₀ L _ _) p (List.mem_append_right _ (List.mem_cons_of_mem _ (List.mem_cons_of_mem _ hp)))) hb'
    · refine' ⟨_, _, _, rfl, (by assumption), (by assumption), ?hj9, (_, _), ?hk9, ?hr9⟩
      case hj9 => rw [succ_mul_cast]; omega
      case hk9 =>
        intro p hp
        rcases List.mem_cons.mp hp with rfl | hp
        · exact intEq (succ_mul_cast j st).symm
        · obtain rfl := List.mem_singleton.mp hp
          exact intEq (show (j : Int) + 1 = ((j + 1 : Nat) : Int) by omega)
      case hr9 => ((intro z h1 h2 h3; simp only [List.forall_mem_cons, List.not_mem_nil, false_implies, implies_true, and_true, ne_eq, List.contains_cons, List.contains_nil, Bool.or_false, Bool.or_eq_false_iff, beq_eq_false_iff_ne] at h1 h2 h3; simp +zetaDelta [h1, h2, h3, kstB]))
end Mine
-- part D7_white
namespace Mine
local macro_rules | `(tactic| k_room) => `(tactic| ktr_room)
local macro_rules | `(tactic| k_units) => `(tactic| ktr_units)
-- k blanks and a tab
def sptab (k : Nat) : PySem.Str := ⟨Array.replicate k 32 ++ #[9]⟩
theorem sptab_eq (n : Int) : Txt.mul (Str.ofString " ") n ++ Str.ofString "\t" = sptab n.toNat := by
  rw [mul_rep (show (Str.ofString " ").cps = #[32] by decide)]
  apply Str.ext'
  rw [Str.cps_append]
  rfl
theorem sptab_size (k : Nat) : (sptab k).cps.size = k + 1 := by simp [sptab]
theorem sptab_lo {k i ch : Nat} (hi : i < k) (h : (sptab k).cps[i]? = some ch) : ch = 32 := by
  unfold sptab at h
  simp only [] at h
  rw [Array.getElem?_append_left (by simpa using hi), Array.getElem?_replicate, if_pos hi] at h
  exact (Option.some.inj h).symm
theorem sptab_hi {k ch : Nat} (h : (sptab k).cps[k]? = some ch) : ch = 9 := by
  unfold sptab at h
  simp only [] at h
  rw [Array.getElem?_append_right (by simp)] at h
  simp at h
  exact h.symm
theorem sptab_ascii (k : Nat) : (sptab k).cps.all (· < 128) = true := by
  unfold sptab
  rw [Array.all_eq_true_iff_forall_mem]
  intro x hx
  rcases Array.mem_append.mp hx with h | h
  · have := (Array.mem_replicate.mp h).2
    subst this
    decide
  · have := Array.mem_singleton.mp h
    subst this
    decide
theorem flat_zero (k : Nat) : (List.replicate k [(0 : Int)]).flatten = List.replicate k 0 := by
  induction k with
  | zero => rfl
  | succ k ih => rw [List.replicate_succ, List.flatten_cons, ih, List.replicate_succ]; rfl
theorem cnt_ints (k : Nat) : (([] : List Int) ++ (List.replicate ((k : Int) - 0 + 1).toNat [0]).flatten).set ((k : Int).toNat) ((([] : List Int) ++ (List.replicate ((k : Int) - 0 + 1).toNat [0]).flatten).getD ((k : Int).toNat) 0 + 1) = List.replicate k 0 ++ [1] := by
  rw [show ((k : Int) - 0 + 1).toNat = k + 1 by omega, show (k : Int).toNat = k by omega, List.nil_append, flat_zero, List.replicate_succ']
  have h : (List.replicate k (0 : Int) ++ [0]).getD k 0 = 0 := by
    rw [List.getD_eq_getElem?_getD, List.getElem?_append_right (by simp)]
    simp
  rw [h, List.set_append_right _ _ (by simp)]
  simp
theorem led_tup {h₀ h : Heap} {L a : Addr} {items : Array Value} {k : Nat} {led : List (Addr × Obj)} (N : News h₀ L h led) (hm : (a, ({ cls := .type "tuple", data := .seq items k } : Obj)) ∈ led) : IsTup h a items := ⟨_, (N _ hm).1, rfl, _, rfl⟩
theorem item_cnt {prog : Program} {w : World} {A : Around} {E : Value → Shared → Prop} {s : Shared} {value slice : PySem.Expr} {a : Addr} {vs : List Value} {N : Nat} {i : Int} {u : Tok} {Q : Value → Shared → Prop}
    (ht : IsTup s.heap a (List.toArray vs)) (hints : IntsAre vs (List.replicate N 0 ++ [1])) (h0 : 0 ≤ i) (h1 : i < N + 1) (hN : N ≤ 48) (h : ∀ t, Q (.int (if i = N then 1 else 0) t) s)
    (hs : subscripted slice false (.ref a) (.int i u) = operate [.ref a, .int i u] (getItem (.ref a) (.int i u)) := by with_unfolding_all rfl) :
    wpAny (model prog w) A (subscriptTail value slice (.ref a) (.int i u)) Q E s := by
  obtain ⟨k, rfl⟩ := Int.eq_ofNat_of_zero_le h0
  have hk : k < N + 1 := by omega
  have e : (List.replicate N (0 : Int) ++ [1])[k]? = some (if (k : Int) = N then 1 else 0) := by
    by_cases q : k < N
    · rw [List.getElem?_append_left (by simpa using q), List.getElem?_replicate, if_pos q, if_neg (by omega)]
    · obtain rfl : k = N := by omega
      rw [List.getElem?_append_right (by simp)]
      simp
  obtain ⟨t, hx⟩ := hints.get k _ e
  have hl : vs.length = N + 1 := by rw [hints.length]; simp
  refine item_tupleT ht (by omega) (by omega) (j := k) ?_ (by simpa using hx) (h t) hs
  unfold seqIndex?
  have e1 : ¬ ((k : Int) < 0) := by omega
  have e2 : (decide (0 ≤ (k : Int)) && decide ((k : Int) < (vs.length : Int))) = true := by simp [hl]; omega
  simp only [e1, if_false, e2, if_true]
  rfl
theorem il_step {n p j il : Int} (hp : 1 ≤ p) (hj : p + j ≤ n) (h0 : 0 ≤ j) (hil : il = if n < p + j then n / p else 0) : il + (p + j).fdiv p * (if p + j = n then 1 else 0) = if n < p + (j + 1) then n / p else 0 := by
  rw [hil, if_neg (by omega)]
  by_cases q : p + j = n
  · rw [if_pos q, if_pos (by omega), q, Int.fdiv_eq_ediv_of_nonneg _ (by omega)]
    omega
  · rw [if_neg q, if_neg (by omega)]
    omega
theorem il_end {n p : Int} (hp : 1 ≤ p) : (0 + p * (n / p + 1)).fdiv p - 1 = n / p := by
  rw [Int.fdiv_eq_ediv_of_nonneg _ (by omega), Int.zero_add, Int.mul_ediv_cancel_left _ (by omega)]
  omega
theorem led_ne {h₀ h : Heap} {L a b : Addr} {o o' : Obj} {led : List (Addr × Obj)} (N : News h₀ L h led) (h1 : (a, o) ∈ led) (h2 : (b, o') ∈ led) (hc : o.cls ≠ o'.cls) : @Ne Nat a b := by
  rintro rfl
  have e1 := (N _ h1).1
  have e2 := (N _ h2).1
  rw [e1] at e2
  cases e2
  exact hc rfl
set_option maxRecDepth 100000 in
set_option maxHeartbeats 8000000 in
theorem white_ok {w : World} {n p : Int} {th tp tn : Tok} (hn0 : 0 ≤ n) (hn : n ≤ 48) (hp1 : 1 ≤ p) (hp2 : p ≤ 40) : Cal w 176 5 50 (fun _ => True) [.int 2 th, .int p tp, .int n tn] (fun t => .int (n / p) t) := by
  intro mean mg mb dp un gd cn cs a ccd cl outer A₀ base h₀ L m news s Q E B F X N T hk _ hg hd hu hret
  w_top off
  revert X; k_fill; intro X
  refine wpAny_call ?_
  k_dflt cell_enter
  (repeat' (first | (k_unfold; (try dsimp only)) | (first | ((with_reducible show wpAny _ _ (storeName _ _ _) _ _ _); (k_here; k_dflt (refine' storeX_LL ?F ?N ?_; (case F => k_asm); (case N => k_asm)); intro h' m' F' N')) | ((with_reducible show wpAny _ _ (execs (_ :: _) _) _ _ _); (k_here; refine execs_cons_S ?_; intro q9 s9)) | ((with_reducible show wpAny _ _ (binaryOp Operator.Mult (Value.int _ _) (Value.int _ _)) _ _ _); (k_here; (refine mul_int ?_ ?zm); (case zm => exact IntMulOk.of_right (by split <;> decide)))) | (k_here; (with_reducible show wpAny _ _ (subscriptTail (Expr.Name (Str.ofString "count") _) (Expr.Name (Str.ofString "i") _) (Value.ref _) (Value.int _ _)) _ _ _); (with_reducible rename News _ _ _ _ => N'); (with_reducible rename IntsAre _ _ => hI'); (refine' item_cnt (led_tup N' ?z1) hI' ?z2 ?z3 ?z4 ?_); (case z1 => k_dflt k_mem); (case z2 => omega); (case z3 => omega); (case z4 => omega); intro _) | (k_here; (with_reducible show wpAny _ _ (exec (Stmt.For (Expr.Name (Str.ofString "i") _) _ _ _ _) _) _ _ _); (rename Fr _ _ _ _ => lF'); (with_unfolding_all refine' For_rg lF' ?k0 ?k1 ?k2 ?_; (case k0 => exact rfl); (case k1 => exact rfl); (case k2 => exact rfl)); (try k_fold)) | (k_here; (with_reducible show wpAny _ _ (call (Value.builtin "len") [Value.ref _]) _ _ _); (with_reducible rename List.length _ = Int.toNat _ + 1 => hV); (with_reducible rename News _ _ _ _ => N'); (refine' PyProof.Rows.len_tuple ?z1 ?z2 ?_); (case z1 => exact led_tup N' (by k_dflt k_mem)); (case z2 => (simp only [List.size_toArray, hV]; omega)); simp only [List.size_toArray, hV]) | (k_here; (with_reducible show wpAny _ _ (call (Value.builtin "len") [Value.ref _]) _ _ _); (with_reducible rename List.length _ = Int.toNat _ + 1 => hV); (with_reducible rename News _ _ _ _ => N'); (refine' call_len_list ?z1 ?z2 ?_); (case z1 => exact News.isList N' (by k_dflt k_mem)); (case z2 => (simp only [List.size_toArray, hV]; omega)); simp only [List.size_toArray, hV]) | ((with_reducible show RgPost _ _ _ _ _ _ _ _ _ _ _ _ _ _ _); (dsimp only [RgPost])) | (k_here; (with_reducible show wpAny _ _ (exec (Stmt.For (Expr.Name (Str.ofString "ch") _) _ _ _ _) _) _ _ _); (rename Fr _ _ _ _ => lF'); (with_unfolding_all refine' For_tx lF' ?k0 ?k1 ?k2 ?_; (case k0 => exact rfl); (case k1 => exact rfl); (case k2 => exact rfl)); (try k_fold)) | walk1) | (dsimp only; (first | ((with_reducible show wpAny _ _ (storeName _ _ _) _ _ _); (k_here; k_dflt (refine' storeX_LL ?F ?N ?_; (case F => k_asm); (case N => k_asm)); intro h' m' F' N')) | ((with_reducible show wpAny _ _ (execs (_ :: _) _) _ _ _); (k_here; refine execs_cons_S ?_; intro q9 s9)) | ((with_reducible show wpAny _ _ (binaryOp Operator.Mult (Value.int _ _) (Value.int _ _)) _ _ _); (k_here; (refine mul_int ?_ ?zm); (case zm => exact IntMulOk.of_right (by split <;> decide)))) | (k_here; (with_reducible show wpAny _ _ (subscriptTail (Expr.Name (Str.ofString "count") _) (Expr.Name (Str.ofString "i") _) (Value.ref _) (Value.int _ _)) _ _ _); (with_reducible rename News _ _ _ _ => N'); (with_reducible rename IntsAre _ _ => hI'); (refine' item_cnt (led_tup N' ?z1) hI' ?z2 ?z3 ?z4 ?_); (case z1 => k_dflt k_mem); (case z2 => omega); (case z3 => omega); (case z4 => omega); intro _) | (k_here; (with_reducible show wpAny _ _ (exec (Stmt.For (Expr.Name (Str.ofString "i") _) _ _ _ _) _) _ _ _); (rename Fr _ _ _ _ => lF'); (with_unfolding_all refine' For_rg lF' ?k0 ?k1 ?k2 ?_; (case k0 => exact rfl); (case k1 => exact rfl); (case k2 => exact rfl)); (try k_fold)) | (k_here; (with_reducible show wpAny _ _ (call (Value.builtin "len") [Value.ref _]) _ _ _); (with_reducible rename List.length _ = Int.toNat _ + 1 => hV); (with_reducible rename News _ _ _ _ => N'); (refine' PyProof.Rows.len_tuple ?z1 ?z2 ?_); (case z1 => exact led_tup N' (by k_dflt k_mem)); (case z2 => (simp only [List.size_toArray, hV]; omega)); simp only [List.size_toArray, hV]) | (k_here; (with_reducible show wpAny _ _ (call (Value.builtin "len") [Value.ref _]) _ _ _); (with_reducible rename List.length _ = Int.toNat _ + 1 => hV); (with_reducible rename News _ _ _ _ => N'); (refine' call_len_list ?z1 ?z2 ?_); (case z1 => exact News.isList N' (by k_dflt k_mem)); (case z2 => (simp only [List.size_toArray, hV]; omega)); simp only [List.size_toArray, hV]) | ((with_reducible show RgPost _ _ _ _ _ _ _ _ _ _ _ _ _ _ _); (dsimp only [RgPost])) | (k_here; (with_reducible show wpAny _ _ (exec (Stmt.For (Expr.Name (Str.ofString "ch") _) _ _ _ _) _) _ _ _); (rename Fr _ _ _ _ => lF'); (with_unfolding_all refine' For_tx lF' ?k0 ?k1 ?k2 ?_; (case k0 => exact rfl); (case k1 => exact rfl); (case k2 => exact rfl)); (try k_fold)) | walk1))))
  rename Fr _ _ _ _ => F1
  rename News _ _ _ _ => N1
  rw [sptab_eq n]
  refine' tx_intro (σ := Addr × List (Addr × Obj) × Int × Int × Int × Tok × Tok × Tok) (fun c => c.2.1)
    (fun c => [(Str.ofString "count", .ref c.1), (Str.ofString "b", .int c.2.2.1 c.2.2.2.2.2.1), (Str.ofString "n", .int c.2.2.2.1 c.2.2.2.2.2.2.1), (Str.ofString "nt", .int c.2.2.2.2.1 c.2.2.2.2.2.2.2)]) []
    (fun i c gs => gs = s.gens ∧ ((i ≤ n.toNat ∧ c.1 = ?l0 ∧ c.2.1 = ?led0 ∧ c.2.2.1 = i ∧ c.2.2.2.1 = i ∧ c.2.2.2.2.1 = 0) ∨ (i = n.toNat + 1 ∧ ∃ D vs k, c.1 = D ∧ c.2.1 = (D, ({ cls := .type "list", data := .seq (List.toArray vs) k } : Obj)) :: ?led0 ∧ IntsAre vs (List.replicate n.toNat 0 ++ [1]) ∧ AllLt D ?led0 ∧ c.2.2.1 = 0 ∧ c.2.2.2.1 = i ∧ c.2.2.2.2.1 = 1)))
    (?l0, ?led0, 0, 0, 0, _, _, _) (sptab_ascii _) F1 N1 ?kk ?kp ?turn ?done
  case kk => ((try dsimp +zetaDelta only); kst_all)
  case kp => exact ⟨rfl, .inl ⟨Nat.zero_le _, rfl, rfl, rfl, rfl, rfl⟩⟩
  case turn =>
    rintro i ch ⟨cnt, led, b, nn, nt, t1, t2, t3⟩ t u h tk gs I o hc ⟨rfl, hP⟩ hoff F2 N2
    dsimp only at hP
    have hsz := sptab_size n.toNat
    have hlt : i < n.toNat + 1 := by
      rcases Nat.lt_or_ge i (n.toNat + 1) with q | q
      · exact q
      · rw [Array.getElem?_eq_none (by omega)] at hc; cases hc
    rcases hP with ⟨hi, rfl, rfl, rfl, rfl, rfl⟩ | ⟨rfl, _⟩
    · clear F1 N1
      by_cases hin : i < n.toNat
      · obtain rfl := sptab_lo hin hc
        rw [show (⟨#[32]⟩ : PySem.Str) = Str.ofString " " by decide] at F2
        (repeat' (first | (k_unfold; (try dsimp only)) | (first | ((with_reducible show wpAny _ _ (storeName _ _ _) _ _ _); (k_here; k_dflt (refine' storeX_LL ?F ?N ?_; (case F => k_asm); (case N => k_asm)); intro h' m' F' N')) | ((with_reducible show wpAny _ _ (execs (_ :: _) _) _ _ _); (k_here; refine execs_cons_S ?_; intro q9 s9)) | ((with_reducible show wpAny _ _ (binaryOp Operator.Mult (Value.int _ _) (Value.int _ _)) _ _ _); (k_here; (refine mul_int ?_ ?zm); (case zm => exact IntMulOk.of_right (by split <;> decide)))) | (k_here; (with_reducible show wpAny _ _ (subscriptTail (Expr.Name (Str.ofString "count") _) (Expr.Name (Str.ofString "i") _) (Value.ref _) (Value.int _ _)) _ _ _); (with_reducible rename News _ _ _ _ => N'); (with_reducible rename IntsAre _ _ => hI'); (refine' item_cnt (led_tup N' ?z1) hI' ?z2 ?z3 ?z4 ?_); (case z1 => k_dflt k_mem); (case z2 => omega); (case z3 => omega); (case z4 => omega); intro _) | (k_here; (with_reducible show wpAny _ _ (exec (Stmt.For (Expr.Name (Str.ofString "i") _) _ _ _ _) _) _ _ _); (rename Fr _ _ _ _ => lF'); (with_unfolding_all refine' For_rg lF' ?k0 ?k1 ?k2 ?_; (case k0 => exact rfl); (case k1 => exact rfl); (case k2 => exact rfl)); (try k_fold)) | (k_here; (with_reducible show wpAny _ _ (call (Value.builtin "len") [Value.ref _]) _ _ _); (with_reducible rename List.length _ = Int.toNat _ + 1 => hV); (with_reducible rename News _ _ _ _ => N'); (refine' PyProof.Rows.len_tuple ?z1 ?z2 ?_); (case z1 => exact led_tup N' (by k_dflt k_mem)); (case z2 => (simp only [List.size_toArray, hV]; omega)); simp only [List.size_toArray, hV]) | (k_here; (with_reducible show wpAny _ _ (call (Value.builtin "len") [Value.ref _]) _ _ _); (with_reducible rename List.length _ = Int.toNat _ + 1 => hV); (with_reducible rename News _ _ _ _ => N'); (refine' call_len_list ?z1 ?z2 ?_); (case z1 => exact News.isList N' (by k_dflt k_mem)); (case z2 => (simp only [List.size_toArray, hV]; omega)); simp only [List.size_toArray, hV]) | ((with_reducible show RgPost _ _ _ _ _ _ _ _ _ _ _ _ _ _ _); (dsimp only [RgPost])) | (k_here; (with_reducible show wpAny _ _ (exec (Stmt.For (Expr.Name (Str.ofString "ch") _) _ _ _ _) _) _ _ _); (rename Fr _ _ _ _ => lF'); (with_unfolding_all refine' For_tx lF' ?k0 ?k1 ?k2 ?_; (case k0 => exact rfl); (case k1 => exact rfl); (case k2 => exact rfl)); (try k_fold)) | walk1) | (dsimp only; (first | ((with_reducible show wpAny _ _ (storeName _ _ _) _ _ _); (k_here; k_dflt (refine' storeX_LL ?F ?N ?_; (case F => k_asm); (case N => k_asm)); intro h' m' F' N')) | ((with_reducible show wpAny _ _ (execs (_ :: _) _) _ _ _); (k_here; refine execs_cons_S ?_; intro q9 s9)) | ((with_reducible show wpAny _ _ (binaryOp Operator.Mult (Value.int _ _) (Value.int _ _)) _ _ _); (k_here; (refine mul_int ?_ ?zm); (case zm => exact IntMulOk.of_right (by split <;> decide)))) | (k_here; (with_reducible show wpAny _ _ (subscriptTail (Expr.Name (Str.ofString "count") _) (Expr.Name (Str.ofString "i") _) (Value.ref _) (Value.int _ _)) _ _ _); (with_reducible rename News _ _ _ _ => N'); (with_reducible rename IntsAre _ _ => hI'); (refine' item_cnt (led_tup N' ?z1) hI' ?z2 ?z3 ?z4 ?_); (case z1 => k_dflt k_mem); (case z2 => omega); (case z3 => omega); (case z4 => omega); intro _) | (k_here; (with_reducible show wpAny _ _ (exec (Stmt.For (Expr.Name (Str.ofString "i") _) _ _ _ _) _) _ _ _); (rename Fr _ _ _ _ => lF'); (with_unfolding_all refine' For_rg lF' ?k0 ?k1 ?k2 ?_; (case k0 => exact rfl); (case k1 => exact rfl); (case k2 => exact rfl)); (try k_fold)) | (k_here; (with_reducible show wpAny _ _ (call (Value.builtin "len") [Value.ref _]) _ _ _); (with_reducible rename List.length _ = Int.toNat _ + 1 => hV); (with_reducible rename News _ _ _ _ => N'); (refine' PyProof.Rows.len_tuple ?z1 ?z2 ?_); (case z1 => exact led_tup N' (by k_dflt k_mem)); (case z2 => (simp only [List.size_toArray, hV]; omega)); simp only [List.size_toArray, hV]) | (k_here; (with_reducible show wpAny _ _ (call (Value.builtin "len") [Value.ref _]) _ _ _); (with_reducible rename List.length _ = Int.toNat _ + 1 => hV); (with_reducible rename News _ _ _ _ => N'); (refine' call_len_list ?z1 ?z2 ?_); (case z1 => exact News.isList N' (by k_dflt k_mem)); (case z2 => (simp only [List.size_toArray, hV]; omega)); simp only [List.size_toArray, hV]) | ((with_reducible show RgPost _ _ _ _ _ _ _ _ _ _ _ _ _ _ _); (dsimp only [RgPost])) | (k_here; (with_reducible show wpAny _ _ (exec (Stmt.For (Expr.Name (Str.ofString "ch") _) _ _ _ _) _) _ _ _); (rename Fr _ _ _ _ => lF'); (with_unfolding_all refine' For_tx lF' ?k0 ?k1 ?k2 ?_; (case k0 => exact rfl); (case k1 => exact rfl); (case k2 => exact rfl)); (try k_fold)) | walk1))))
        refine' rg_end (_, _, (i : Int) + 1, (i : Int) + 1, 0, _, _, _) (by assumption) (by assumption) (fun p hp => List.mem_cons_of_mem _ hp) (List.mem_cons_self ..) hoff ?hk9 ?hr9 ⟨rfl, .inl ⟨hin, rfl, rfl, ?hi9, ?hj9, rfl⟩⟩
        case hk9 => ((try dsimp +zetaDelta only); kst_all)
        case hr9 => ((intro z h1 h2 h3; simp only [List.forall_mem_cons, List.not_mem_nil, false_implies, implies_true, and_true, ne_eq, List.contains_cons, List.contains_nil, Bool.or_false, Bool.or_eq_false_iff, beq_eq_false_iff_ne] at h1 h2 h3; simp +zetaDelta [h1, h2, h3, kstB]))
        case hi9 => dsimp only; omega
        case hj9 => dsimp only; omega
      · obtain rfl : i = n.toNat := by omega
        obtain rfl := sptab_hi hc
        rw [show (⟨#[9]⟩ : PySem.Str) = Str.ofString "\t" by decide] at F2
        (repeat' (first | (k_unfold; (try dsimp only)) | (first | ((with_reducible show wpAny _ _ (storeName _ _ _) _ _ _); (k_here; k_dflt (refine' storeX_LL ?F ?N ?_; (case F => k_asm); (case N => k_asm)); intro h' m' F' N')) | ((with_reducible show wpAny _ _ (execs (_ :: _) _) _ _ _); (k_here; refine execs_cons_S ?_; intro q9 s9)) | ((with_reducible show wpAny _ _ (binaryOp Operator.Mult (Value.int _ _) (Value.int _ _)) _ _ _); (k_here; (refine mul_int ?_ ?zm); (case zm => exact IntMulOk.of_right (by split <;> decide)))) | (k_here; (with_reducible show wpAny _ _ (subscriptTail (Expr.Name (Str.ofString "count") _) (Expr.Name (Str.ofString "i") _) (Value.ref _) (Value.int _ _)) _ _ _); (with_reducible rename News _ _ _ _ => N'); (with_reducible rename IntsAre _ _ => hI'); (refine' item_cnt (led_tup N' ?z1) hI' ?z2 ?z3 ?z4 ?_); (case z1 => k_dflt k_mem); (case z2 => omega); (case z3 => omega); (case z4 => omega); intro _) | (k_here; (with_reducible show wpAny _ _ (exec (Stmt.For (Expr.Name (Str.ofString "i") _) _ _ _ _) _) _ _ _); (rename Fr _ _ _ _ => lF'); (with_unfolding_all refine' For_rg lF' ?k0 ?k1 ?k2 ?_; (case k0 => exact rfl); (case k1 => exact rfl); (case k2 => exact rfl)); (try k_fold)) | (k_here; (with_reducible show wpAny _ _ (call (Value.builtin "len") [Value.ref _]) _ _ _); (with_reducible rename List.length _ = Int.toNat _ + 1 => hV); (with_reducible rename News _ _ _ _ => N'); (refine' PyProof.Rows.len_tuple ?z1 ?z2 ?_); (case z1 => exact led_tup N' (by k_dflt k_mem)); (case z2 => (simp only [List.size_toArray, hV]; omega)); simp only [List.size_toArray, hV]) | (k_here; (with_reducible show wpAny _ _ (call (Value.builtin "len") [Value.ref _]) _ _ _); (with_reducible rename List.length _ = Int.toNat _ + 1 => hV); (with_reducible rename News _ _ _ _ => N'); (refine' call_len_list ?z1 ?z2 ?_); (case z1 => exact News.isList N' (by k_dflt k_mem)); (case z2 => (simp only [List.size_toArray, hV]; omega)); simp only [List.size_toArray, hV]) | ((with_reducible show RgPost _ _ _ _ _ _ _ _ _ _ _ _ _ _ _); (dsimp only [RgPost])) | (k_here; (with_reducible show wpAny _ _ (exec (Stmt.For (Expr.Name (Str.ofString "ch") _) _ _ _ _) _) _ _ _); (rename Fr _ _ _ _ => lF'); (with_unfolding_all refine' For_tx lF' ?k0 ?k1 ?k2 ?_; (case k0 => exact rfl); (case k1 => exact rfl); (case k2 => exact rfl)); (try k_fold)) | walk1) | (dsimp only; (first | ((with_reducible show wpAny _ _ (storeName _ _ _) _ _ _); (k_here; k_dflt (refine' storeX_LL ?F ?N ?_; (case F => k_asm); (case N => k_asm)); intro h' m' F' N')) | ((with_reducible show wpAny _ _ (execs (_ :: _) _) _ _ _); (k_here; refine execs_cons_S ?_; intro q9 s9)) | ((with_reducible show wpAny _ _ (binaryOp Operator.Mult (Value.int _ _) (Value.int _ _)) _ _ _); (k_here; (refine mul_int ?_ ?zm); (case zm => exact IntMulOk.of_right (by split <;> decide)))) | (k_here; (with_reducible show wpAny _ _ (subscriptTail (Expr.Name (Str.ofString "count") _) (Expr.Name (Str.ofString "i") _) (Value.ref _) (Value.int _ _)) _ _ _); (with_reducible rename News _ _ _ _ => N'); (with_reducible rename IntsAre _ _ => hI'); (refine' item_cnt (led_tup N' ?z1) hI' ?z2 ?z3 ?z4 ?_); (case z1 => k_dflt k_mem); (case z2 => omega); (case z3 => omega); (case z4 => omega); intro _) | (k_here; (with_reducible show wpAny _ _ (exec (Stmt.For (Expr.Name (Str.ofString "i") _) _ _ _ _) _) _ _ _); (rename Fr _ _ _ _ => lF'); (with_unfolding_all refine' For_rg lF' ?k0 ?k1 ?k2 ?_; (case k0 => exact rfl); (case k1 => exact rfl); (case k2 => exact rfl)); (try k_fold)) | (k_here; (with_reducible show wpAny _ _ (call (Value.builtin "len") [Value.ref _]) _ _ _); (with_reducible rename List.length _ = Int.toNat _ + 1 => hV); (with_reducible rename News _ _ _ _ => N'); (refine' PyProof.Rows.len_tuple ?z1 ?z2 ?_); (case z1 => exact led_tup N' (by k_dflt k_mem)); (case z2 => (simp only [List.size_toArray, hV]; omega)); simp only [List.size_toArray, hV]) | (k_here; (with_reducible show wpAny _ _ (call (Value.builtin "len") [Value.ref _]) _ _ _); (with_reducible rename List.length _ = Int.toNat _ + 1 => hV); (with_reducible rename News _ _ _ _ => N'); (refine' call_len_list ?z1 ?z2 ?_); (case z1 => exact News.isList N' (by k_dflt k_mem)); (case z2 => (simp only [List.size_toArray, hV]; omega)); simp only [List.size_toArray, hV]) | ((with_reducible show RgPost _ _ _ _ _ _ _ _ _ _ _ _ _ _ _); (dsimp only [RgPost])) | (k_here; (with_reducible show wpAny _ _ (exec (Stmt.For (Expr.Name (Str.ofString "ch") _) _ _ _ _) _) _ _ _); (rename Fr _ _ _ _ => lF'); (with_unfolding_all refine' For_tx lF' ?k0 ?k1 ?k2 ?_; (case k0 => exact rfl); (case k1 => exact rfl); (case k2 => exact rfl)); (try k_fold)) | walk1))))
        rename IntsAre _ _ => hints
        dsimp only at hints
        rw [cnt_ints] at hints
        (with_reducible rename _ < _ ∧ _ => hl1)
        refine' rg_end (?D9, _ :: _, 0, (n.toNat : Int) + 1, 1, _, _, _) (by assumption) (by assumption) ?hn9 ?hI9 ?ho9 ?hk9 ?hr9 ⟨rfl, .inr ⟨rfl, ?D9, _, _, rfl, rfl, hints, hl1.2.2.2, rfl, ?hi9, rfl⟩⟩
        case hk9 => ((try dsimp +zetaDelta only); kst_all)
        case hn9 =>
          intro p hp
          rcases List.mem_cons.mp hp with rfl | hp
          · exact List.mem_cons_self ..
          · repeat (first | exact hp | apply List.mem_cons_of_mem)
        case hI9 => k_dflt k_mem
        case ho9 =>
          intro p hp
          rcases List.mem_cons.mp hp with rfl | hp
          · k_ne
          · exact hoff p hp
        case hr9 => ((intro z h1 h2 h3; simp only [List.forall_mem_cons, List.not_mem_nil, false_implies, implies_true, and_true, ne_eq, List.contains_cons, List.contains_nil, Bool.or_false, Bool.or_eq_false_iff, beq_eq_false_iff_ne] at h1 h2 h3; simp +zetaDelta [h1, h2, h3, kstB]))
        case hi9 => dsimp only; omega
    · exact absurd hlt (Nat.lt_irrefl _)
  case done =>
    rintro ⟨cnt, led, b, nn, nt, t1, t2, t3⟩ u h tk gs ⟨rfl, hP⟩ F2 N2
    dsimp only at hP
    rw [sptab_size] at hP
    rcases hP with ⟨hi, _⟩ | ⟨_, D, vs, k, rfl, rfl, hints, hAl, rfl, rfl, rfl⟩
    · exact absurd hi (Nat.not_succ_le_self _)
    clear F1 N1
    simp only [AllLt] at hAl
    have hvl : vs.length = n.toNat + 1 := by rw [hints.length]; simp
    (repeat' (first | (k_unfold; (try dsimp only)) | ((fail_if_success (with_reducible show wpAny _ _ (setAttr _ (Str.ofString "norm") _) _ _ _)); (first | ((with_reducible show wpAny _ _ (storeName _ _ _) _ _ _); (k_here; k_dflt (refine' storeX_LL ?F ?N ?_; (case F => k_asm); (case N => k_asm)); intro h' m' F' N')) | ((with_reducible show wpAny _ _ (execs (_ :: _) _) _ _ _); (k_here; refine execs_cons_S ?_; intro q9 s9)) | ((with_reducible show wpAny _ _ (binaryOp Operator.Mult (Value.int _ _) (Value.int _ _)) _ _ _); (k_here; (refine mul_int ?_ ?zm); (case zm => exact IntMulOk.of_right (by split <;> decide)))) | (k_here; (with_reducible show wpAny _ _ (subscriptTail (Expr.Name (Str.ofString "count") _) (Expr.Name (Str.ofString "i") _) (Value.ref _) (Value.int _ _)) _ _ _); (with_reducible rename News _ _ _ _ => N'); (with_reducible rename IntsAre _ _ => hI'); (refine' item_cnt (led_tup N' ?z1) hI' ?z2 ?z3 ?z4 ?_); (case z1 => k_dflt k_mem); (case z2 => omega); (case z3 => omega); (case z4 => omega); intro _) | (k_here; (with_reducible show wpAny _ _ (exec (Stmt.For (Expr.Name (Str.ofString "i") _) _ _ _ _) _) _ _ _); (rename Fr _ _ _ _ => lF'); (with_unfolding_all refine' For_rg lF' ?k0 ?k1 ?k2 ?_; (case k0 => exact rfl); (case k1 => exact rfl); (case k2 => exact rfl)); (try k_fold)) | (k_here; (with_reducible show wpAny _ _ (call (Value.builtin "len") [Value.ref _]) _ _ _); (with_reducible rename List.length _ = Int.toNat _ + 1 => hV); (with_reducible rename News _ _ _ _ => N'); (refine' PyProof.Rows.len_tuple ?z1 ?z2 ?_); (case z1 => exact led_tup N' (by k_dflt k_mem)); (case z2 => (simp only [List.size_toArray, hV]; omega)); simp only [List.size_toArray, hV]) | (k_here; (with_reducible show wpAny _ _ (call (Value.builtin "len") [Value.ref _]) _ _ _); (with_reducible rename List.length _ = Int.toNat _ + 1 => hV); (with_reducible rename News _ _ _ _ => N'); (refine' call_len_list ?z1 ?z2 ?_); (case z1 => exact News.isList N' (by k_dflt k_mem)); (case z2 => (simp only [List.size_toArray, hV]; omega)); simp only [List.size_toArray, hV]) | ((with_reducible show RgPost _ _ _ _ _ _ _ _ _ _ _ _ _ _ _); (dsimp only [RgPost])) | (k_here; (with_reducible show wpAny _ _ (exec (Stmt.For (Expr.Name (Str.ofString "ch") _) _ _ _ _) _) _ _ _); (rename Fr _ _ _ _ => lF'); (with_unfolding_all refine' For_tx lF' ?k0 ?k1 ?k2 ?_; (case k0 => exact rfl); (case k1 => exact rfl); (case k2 => exact rfl)); (try k_fold)) | walk1)) | (dsimp only; (fail_if_success (with_reducible show wpAny _ _ (setAttr _ (Str.ofString "norm") _) _ _ _)); (first | ((with_reducible show wpAny _ _ (storeName _ _ _) _ _ _); (k_here; k_dflt (refine' storeX_LL ?F ?N ?_; (case F => k_asm); (case N => k_asm)); intro h' m' F' N')) | ((with_reducible show wpAny _ _ (execs (_ :: _) _) _ _ _); (k_here; refine execs_cons_S ?_; intro q9 s9)) | ((with_reducible show wpAny _ _ (binaryOp Operator.Mult (Value.int _ _) (Value.int _ _)) _ _ _); (k_here; (refine mul_int ?_ ?zm); (case zm => exact IntMulOk.of_right (by split <;> decide)))) | (k_here; (with_reducible show wpAny _ _ (subscriptTail (Expr.Name (Str.ofString "count") _) (Expr.Name (Str.ofString "i") _) (Value.ref _) (Value.int _ _)) _ _ _); (with_reducible rename News _ _ _ _ => N'); (with_reducible rename IntsAre _ _ => hI'); (refine' item_cnt (led_tup N' ?z1) hI' ?z2 ?z3 ?z4 ?_); (case z1 => k_dflt k_mem); (case z2 => omega); (case z3 => omega); (case z4 => omega); intro _) | (k_here; (with_reducible show wpAny _ _ (exec (Stmt.For (Expr.Name (Str.ofString "i") _) _ _ _ _) _) _ _ _); (rename Fr _ _ _ _ => lF'); (with_unfolding_all refine' For_rg lF' ?k0 ?k1 ?k2 ?_; (case k0 => exact rfl); (case k1 => exact rfl); (case k2 => exact rfl)); (try k_fold)) | (k_here; (with_reducible show wpAny _ _ (call (Value.builtin "len") [Value.ref _]) _ _ _); (with_reducible rename List.length _ = Int.toNat _ + 1 => hV); (with_reducible rename News _ _ _ _ => N'); (refine' PyProof.Rows.len_tuple ?z1 ?z2 ?_); (case z1 => exact led_tup N' (by k_dflt k_mem)); (case z2 => (simp only [List.size_toArray, hV]; omega)); simp only [List.size_toArray, hV]) | (k_here; (with_reducible show wpAny _ _ (call (Value.builtin "len") [Value.ref _]) _ _ _); (with_reducible rename List.length _ = Int.toNat _ + 1 => hV); (with_reducible rename News _ _ _ _ => N'); (refine' call_len_list ?z1 ?z2 ?_); (case z1 => exact News.isList N' (by k_dflt k_mem)); (case z2 => (simp only [List.size_toArray, hV]; omega)); simp only [List.size_toArray, hV]) | ((with_reducible show RgPost _ _ _ _ _ _ _ _ _ _ _ _ _ _ _); (dsimp only [RgPost])) | (k_here; (with_reducible show wpAny _ _ (exec (Stmt.For (Expr.Name (Str.ofString "ch") _) _ _ _ _) _) _ _ _); (rename Fr _ _ _ _ => lF'); (with_unfolding_all refine' For_tx lF' ?k0 ?k1 ?k2 ?_; (case k0 => exact rfl); (case k1 => exact rfl); (case k2 => exact rfl)); (try k_fold)) | walk1))))
    with_reducible rename News _ _ _ _ => N9
    have hne := led_ne N9 (List.mem_cons_of_mem _ (List.mem_cons_self ..)) (List.mem_cons_of_mem _ (List.mem_cons_of_mem _ (List.mem_cons_of_mem _ (List.mem_cons_of_mem _ (List.mem_cons_of_mem _ (List.mem_cons_of_mem _ (List.mem_cons_self ..))))))) (by intro hc; injection hc with hc; exact absurd hc (by decide))
    (repeat' (first | (k_unfold; (try dsimp only)) | (first | ((with_reducible show wpAny _ _ (storeName _ _ _) _ _ _); (k_here; k_dflt (refine' storeX_LL ?F ?N ?_; (case F => k_asm); (case N => k_asm)); intro h' m' F' N')) | ((with_reducible show wpAny _ _ (execs (_ :: _) _) _ _ _); (k_here; refine execs_cons_S ?_; intro q9 s9)) | ((with_reducible show wpAny _ _ (binaryOp Operator.Mult (Value.int _ _) (Value.int _ _)) _ _ _); (k_here; (refine mul_int ?_ ?zm); (case zm => exact IntMulOk.of_right (by split <;> decide)))) | (k_here; (with_reducible show wpAny _ _ (subscriptTail (Expr.Name (Str.ofString "count") _) (Expr.Name (Str.ofString "i") _) (Value.ref _) (Value.int _ _)) _ _ _); (with_reducible rename News _ _ _ _ => N'); (with_reducible rename IntsAre _ _ => hI'); (refine' item_cnt (led_tup N' ?z1) hI' ?z2 ?z3 ?z4 ?_); (case z1 => k_dflt k_mem); (case z2 => omega); (case z3 => omega); (case z4 => omega); intro _) | (k_here; (with_reducible show wpAny _ _ (exec (Stmt.For (Expr.Name (Str.ofString "i") _) _ _ _ _) _) _ _ _); (rename Fr _ _ _ _ => lF'); (with_unfolding_all refine' For_rg lF' ?k0 ?k1 ?k2 ?_; (case k0 => exact rfl); (case k1 => exact rfl); (case k2 => exact rfl)); (try k_fold)) | (k_here; (with_reducible show wpAny _ _ (call (Value.builtin "len") [Value.ref _]) _ _ _); (with_reducible rename List.length _ = Int.toNat _ + 1 => hV); (with_reducible rename News _ _ _ _ => N'); (refine' PyProof.Rows.len_tuple ?z1 ?z2 ?_); (case z1 => exact led_tup N' (by k_dflt k_mem)); (case z2 => (simp only [List.size_toArray, hV]; omega)); simp only [List.size_toArray, hV]) | (k_here; (with_reducible show wpAny _ _ (call (Value.builtin "len") [Value.ref _]) _ _ _); (with_reducible rename List.length _ = Int.toNat _ + 1 => hV); (with_reducible rename News _ _ _ _ => N'); (refine' call_len_list ?z1 ?z2 ?_); (case z1 => exact News.isList N' (by k_dflt k_mem)); (case z2 => (simp only [List.size_toArray, hV]; omega)); simp only [List.size_toArray, hV]) | ((with_reducible show RgPost _ _ _ _ _ _ _ _ _ _ _ _ _ _ _); (dsimp only [RgPost])) | (k_here; (with_reducible show wpAny _ _ (exec (Stmt.For (Expr.Name (Str.ofString "ch") _) _ _ _ _) _) _ _ _); (rename Fr _ _ _ _ => lF'); (with_unfolding_all refine' For_tx lF' ?k0 ?k1 ?k2 ?_; (case k0 => exact rfl); (case k1 => exact rfl); (case k2 => exact rfl)); (try k_fold)) | walk1) | (dsimp only; (first | ((with_reducible show wpAny _ _ (storeName _ _ _) _ _ _); (k_here; k_dflt (refine' storeX_LL ?F ?N ?_; (case F => k_asm); (case N => k_asm)); intro h' m' F' N')) | ((with_reducible show wpAny _ _ (execs (_ :: _) _) _ _ _); (k_here; refine execs_cons_S ?_; intro q9 s9)) | ((with_reducible show wpAny _ _ (binaryOp Operator.Mult (Value.int _ _) (Value.int _ _)) _ _ _); (k_here; (refine mul_int ?_ ?zm); (case zm => exact IntMulOk.of_right (by split <;> decide)))) | (k_here; (with_reducible show wpAny _ _ (subscriptTail (Expr.Name (Str.ofString "count") _) (Expr.Name (Str.ofString "i") _) (Value.ref _) (Value.int _ _)) _ _ _); (with_reducible rename News _ _ _ _ => N'); (with_reducible rename IntsAre _ _ => hI'); (refine' item_cnt (led_tup N' ?z1) hI' ?z2 ?z3 ?z4 ?_); (case z1 => k_dflt k_mem); (case z2 => omega); (case z3 => omega); (case z4 => omega); intro _) | (k_here; (with_reducible show wpAny _ _ (exec (Stmt.For (Expr.Name (Str.ofString "i") _) _ _ _ _) _) _ _ _); (rename Fr _ _ _ _ => lF'); (with_unfolding_all refine' For_rg lF' ?k0 ?k1 ?k2 ?_; (case k0 => exact rfl); (case k1 => exact rfl); (case k2 => exact rfl)); (try k_fold)) | (k_here; (with_reducible show wpAny _ _ (call (Value.builtin "len") [Value.ref _]) _ _ _); (with_reducible rename List.length _ = Int.toNat _ + 1 => hV); (with_reducible rename News _ _ _ _ => N'); (refine' PyProof.Rows.len_tuple ?z1 ?z2 ?_); (case z1 => exact led_tup N' (by k_dflt k_mem)); (case z2 => (simp only [List.size_toArray, hV]; omega)); simp only [List.size_toArray, hV]) | (k_here; (with_reducible show wpAny _ _ (call (Value.builtin "len") [Value.ref _]) _ _ _); (with_reducible rename List.length _ = Int.toNat _ + 1 => hV); (with_reducible rename News _ _ _ _ => N'); (refine' call_len_list ?z1 ?z2 ?_); (case z1 => exact News.isList N' (by k_dflt k_mem)); (case z2 => (simp only [List.size_toArray, hV]; omega)); simp only [List.size_toArray, hV]) | ((with_reducible show RgPost _ _ _ _ _ _ _ _ _ _ _ _ _ _ _); (dsimp only [RgPost])) | (k_here; (with_reducible show wpAny _ _ (exec (Stmt.For (Expr.Name (Str.ofString "ch") _) _ _ _ _) _) _ _ _); (rename Fr _ _ _ _ => lF'); (with_unfolding_all refine' For_tx lF' ?k0 ?k1 ?k2 ?_; (case k0 => exact rfl); (case k1 => exact rfl); (case k2 => exact rfl)); (try k_fold)) | walk1))))
    rename IsRange _ _ _ _ _ _ _ _ => hR
    rename Fr _ _ _ _ => F3
    rename News _ _ _ _ => N3
    refine' rg_intro (σ := Int × Tok) ((n.toNat : Int) + 1 - p).toNat (fun _ => ?led3) (fun c => [(Str.ofString "il", .int c.1 c.2)]) [] (fun j c gs => gs = s.gens ∧ c.1 = if n < p + j then n / p else 0) (0, _) hR ?hb9 (by omega) (by omega) (by omega) F3 N3 ?kk3 ⟨rfl, ?kp3⟩ ?turn3 ?done3
    case kk3 => ((try dsimp +zetaDelta only); kst_all)
    case hb9 => omega
    case kp3 =>
      dsimp only
      split
      · rw [Int.ediv_eq_zero_of_lt hn0 (by omega)]
      · rfl
    case turn3 =>
      rintro j ⟨il, t5⟩ t6 u2 h3 tk3 gs3 I3 o3 hj ⟨rfl, hil⟩ hoff3 F4 N4
      clear F3 N3
      dsimp only at hil
      (repeat' (first | (k_unfold; (try dsimp only)) | (first | ((with_reducible show wpAny _ _ (storeName _ _ _) _ _ _); (k_here; k_dflt (refine' storeX_LL ?F ?N ?_; (case F => k_asm); (case N => k_asm)); intro h' m' F' N')) | ((with_reducible show wpAny _ _ (execs (_ :: _) _) _ _ _); (k_here; refine execs_cons_S ?_; intro q9 s9)) | ((with_reducible show wpAny _ _ (binaryOp Operator.Mult (Value.int _ _) (Value.int _ _)) _ _ _); (k_here; (refine mul_int ?_ ?zm); (case zm => exact IntMulOk.of_right (by split <;> decide)))) | (k_here; (with_reducible show wpAny _ _ (subscriptTail (Expr.Name (Str.ofString "count") _) (Expr.Name (Str.ofString "i") _) (Value.ref _) (Value.int _ _)) _ _ _); (with_reducible rename News _ _ _ _ => N'); (with_reducible rename IntsAre _ _ => hI'); (refine' item_cnt (led_tup N' ?z1) hI' ?z2 ?z3 ?z4 ?_); (case z1 => k_dflt k_mem); (case z2 => omega); (case z3 => omega); (case z4 => omega); intro _) | (k_here; (with_reducible show wpAny _ _ (exec (Stmt.For (Expr.Name (Str.ofString "i") _) _ _ _ _) _) _ _ _); (rename Fr _ _ _ _ => lF'); (with_unfolding_all refine' For_rg lF' ?k0 ?k1 ?k2 ?_; (case k0 => exact rfl); (case k1 => exact rfl); (case k2 => exact rfl)); (try k_fold)) | (k_here; (with_reducible show wpAny _ _ (call (Value.builtin "len") [Value.ref _]) _ _ _); (with_reducible rename List.length _ = Int.toNat _ + 1 => hV); (with_reducible rename News _ _ _ _ => N'); (refine' PyProof.Rows.len_tuple ?z1 ?z2 ?_); (case z1 => exact led_tup N' (by k_dflt k_mem)); (case z2 => (simp only [List.size_toArray, hV]; omega)); simp only [List.size_toArray, hV]) | (k_here; (with_reducible show wpAny _ _ (call (Value.builtin "len") [Value.ref _]) _ _ _); (with_reducible rename List.length _ = Int.toNat _ + 1 => hV); (with_reducible rename News _ _ _ _ => N'); (refine' call_len_list ?z1 ?z2 ?_); (case z1 => exact News.isList N' (by k_dflt k_mem)); (case z2 => (simp only [List.size_toArray, hV]; omega)); simp only [List.size_toArray, hV]) | ((with_reducible show RgPost _ _ _ _ _ _ _ _ _ _ _ _ _ _ _); (dsimp only [RgPost])) | (k_here; (with_reducible show wpAny _ _ (exec (Stmt.For (Expr.Name (Str.ofString "ch") _) _ _ _ _) _) _ _ _); (rename Fr _ _ _ _ => lF'); (with_unfolding_all refine' For_tx lF' ?k0 ?k1 ?k2 ?_; (case k0 => exact rfl); (case k1 => exact rfl); (case k2 => exact rfl)); (try k_fold)) | walk1) | (dsimp only; (first | ((with_reducible show wpAny _ _ (storeName _ _ _) _ _ _); (k_here; k_dflt (refine' storeX_LL ?F ?N ?_; (case F => k_asm); (case N => k_asm)); intro h' m' F' N')) | ((with_reducible show wpAny _ _ (execs (_ :: _) _) _ _ _); (k_here; refine execs_cons_S ?_; intro q9 s9)) | ((with_reducible show wpAny _ _ (binaryOp Operator.Mult (Value.int _ _) (Value.int _ _)) _ _ _); (k_here; (refine mul_int ?_ ?zm); (case zm => exact IntMulOk.of_right (by split <;> decide)))) | (k_here; (with_reducible show wpAny _ _ (subscriptTail (Expr.Name (Str.ofString "count") _) (Expr.Name (Str.ofString "i") _) (Value.ref _) (Value.int _ _)) _ _ _); (with_reducible rename News _ _ _ _ => N'); (with_reducible rename IntsAre _ _ => hI'); (refine' item_cnt (led_tup N' ?z1) hI' ?z2 ?z3 ?z4 ?_); (case z1 => k_dflt k_mem); (case z2 => omega); (case z3 => omega); (case z4 => omega); intro _) | (k_here; (with_reducible show wpAny _ _ (exec (Stmt.For (Expr.Name (Str.ofString "i") _) _ _ _ _) _) _ _ _); (rename Fr _ _ _ _ => lF'); (with_unfolding_all refine' For_rg lF' ?k0 ?k1 ?k2 ?_; (case k0 => exact rfl); (case k1 => exact rfl); (case k2 => exact rfl)); (try k_fold)) | (k_here; (with_reducible show wpAny _ _ (call (Value.builtin "len") [Value.ref _]) _ _ _); (with_reducible rename List.length _ = Int.toNat _ + 1 => hV); (with_reducible rename News _ _ _ _ => N'); (refine' PyProof.Rows.len_tuple ?z1 ?z2 ?_); (case z1 => exact led_tup N' (by k_dflt k_mem)); (case z2 => (simp only [List.size_toArray, hV]; omega)); simp only [List.size_toArray, hV]) | (k_here; (with_reducible show wpAny _ _ (call (Value.builtin "len") [Value.ref _]) _ _ _); (with_reducible rename List.length _ = Int.toNat _ + 1 => hV); (with_reducible rename News _ _ _ _ => N'); (refine' call_len_list ?z1 ?z2 ?_); (case z1 => exact News.isList N' (by k_dflt k_mem)); (case z2 => (simp only [List.size_toArray, hV]; omega)); simp only [List.size_toArray, hV]) | ((with_reducible show RgPost _ _ _ _ _ _ _ _ _ _ _ _ _ _ _); (dsimp only [RgPost])) | (k_here; (with_reducible show wpAny _ _ (exec (Stmt.For (Expr.Name (Str.ofString "ch") _) _ _ _ _) _) _ _ _); (rename Fr _ _ _ _ => lF'); (with_unfolding_all refine' For_tx lF' ?k0 ?k1 ?k2 ?_; (case k0 => exact rfl); (case k1 => exact rfl); (case k2 => exact rfl)); (try k_fold)) | walk1))))
      refine' rg_end (_, _) (by assumption) (by assumption) (fun p hp => List.mem_cons_of_mem _ hp) (List.mem_cons_self ..) hoff3 ?hk9 ?hr9 ⟨rfl, ?hp9⟩
      case hk9 => ((try dsimp +zetaDelta only); kst_all)
      case hr9 => ((intro z h1 h2 h3; simp only [List.forall_mem_cons, List.not_mem_nil, false_implies, implies_true, and_true, ne_eq, List.contains_cons, List.contains_nil, Bool.or_false, Bool.or_eq_false_iff, beq_eq_false_iff_ne] at h1 h2 h3; simp +zetaDelta [h1, h2, h3, kstB]))
      case hp9 =>
        have hnn : ((n.toNat : Nat) : Int) = n := by omega
        dsimp only
        rw [hnn]
        exact il_step hp1 (by omega) (by omega) hil
    case done3 =>
      rintro ⟨il, t5⟩ u2 h3 tk3 gs3 ⟨rfl, hil⟩ F4 N4
      clear F3 N3
      dsimp only at hil
      rw [if_pos (by omega)] at hil
      subst hil
      (repeat' (first | (k_unfold; (try dsimp only)) | (first | ((with_reducible show wpAny _ _ (storeName _ _ _) _ _ _); (k_here; k_dflt (refine' storeX_LL ?F ?N ?_; (case F => k_asm); (case N => k_asm)); intro h' m' F' N')) | ((with_reducible show wpAny _ _ (execs (_ :: _) _) _ _ _); (k_here; refine execs_cons_S ?_; intro q9 s9)) | ((with_reducible show wpAny _ _ (binaryOp Operator.Mult (Value.int _ _) (Value.int _ _)) _ _ _); (k_here; (refine mul_int ?_ ?zm); (case zm => exact IntMulOk.of_right (by split <;> decide)))) | (k_here; (with_reducible show wpAny _ _ (subscriptTail (Expr.Name (Str.ofString "count") _) (Expr.Name (Str.ofString "i") _) (Value.ref _) (Value.int _ _)) _ _ _); (with_reducible rename News _ _ _ _ => N'); (with_reducible rename IntsAre _ _ => hI'); (refine' item_cnt (led_tup N' ?z1) hI' ?z2 ?z3 ?z4 ?_); (case z1 => k_dflt k_mem); (case z2 => omega); (case z3 => omega); (case z4 => omega); intro _) | (k_here; (with_reducible show wpAny _ _ (exec (Stmt.For (Expr.Name (Str.ofString "i") _) _ _ _ _) _) _ _ _); (rename Fr _ _ _ _ => lF'); (with_unfolding_all refine' For_rg lF' ?k0 ?k1 ?k2 ?_; (case k0 => exact rfl); (case k1 => exact rfl); (case k2 => exact rfl)); (try k_fold)) | (k_here; (with_reducible show wpAny _ _ (call (Value.builtin "len") [Value.ref _]) _ _ _); (with_reducible rename List.length _ = Int.toNat _ + 1 => hV); (with_reducible rename News _ _ _ _ => N'); (refine' PyProof.Rows.len_tuple ?z1 ?z2 ?_); (case z1 => exact led_tup N' (by k_dflt k_mem)); (case z2 => (simp only [List.size_toArray, hV]; omega)); simp only [List.size_toArray, hV]) | (k_here; (with_reducible show wpAny _ _ (call (Value.builtin "len") [Value.ref _]) _ _ _); (with_reducible rename List.length _ = Int.toNat _ + 1 => hV); (with_reducible rename News _ _ _ _ => N'); (refine' call_len_list ?z1 ?z2 ?_); (case z1 => exact News.isList N' (by k_dflt k_mem)); (case z2 => (simp only [List.size_toArray, hV]; omega)); simp only [List.size_toArray, hV]) | ((with_reducible show RgPost _ _ _ _ _ _ _ _ _ _ _ _ _ _ _); (dsimp only [RgPost])) | (k_here; (with_reducible show wpAny _ _ (exec (Stmt.For (Expr.Name (Str.ofString "ch") _) _ _ _ _) _) _ _ _); (rename Fr _ _ _ _ => lF'); (with_unfolding_all refine' For_tx lF' ?k0 ?k1 ?k2 ?_; (case k0 => exact rfl); (case k1 => exact rfl); (case k2 => exact rfl)); (try k_fold)) | walk1) | (dsimp only; (first | ((with_reducible show wpAny _ _ (storeName _ _ _) _ _ _); (k_here; k_dflt (refine' storeX_LL ?F ?N ?_; (case F => k_asm); (case N => k_asm)); intro h' m' F' N')) | ((with_reducible show wpAny _ _ (execs (_ :: _) _) _ _ _); (k_here; refine execs_cons_S ?_; intro q9 s9)) | ((with_reducible show wpAny _ _ (binaryOp Operator.Mult (Value.int _ _) (Value.int _ _)) _ _ _); (k_here; (refine mul_int ?_ ?zm); (case zm => exact IntMulOk.of_right (by split <;> decide)))) | (k_here; (with_reducible show wpAny _ _ (subscriptTail (Expr.Name (Str.ofString "count") _) (Expr.Name (Str.ofString "i") _) (Value.ref _) (Value.int _ _)) _ _ _); (with_reducible rename News _ _ _ _ => N'); (with_reducible rename IntsAre _ _ => hI'); (refine' item_cnt (led_tup N' ?z1) hI' ?z2 ?z3 ?z4 ?_); (case z1 => k_dflt k_mem); (case z2 => omega); (case z3 => omega); (case z4 => omega); intro _) | (k_here; (with_reducible show wpAny _ _ (exec (Stmt.For (Expr.Name (Str.ofString "i") _) _ _ _ _) _) _ _ _); (rename Fr _ _ _ _ => lF'); (with_unfolding_all refine' For_rg lF' ?k0 ?k1 ?k2 ?_; (case k0 => exact rfl); (case k1 => exact rfl); (case k2 => exact rfl)); (try k_fold)) | (k_here; (with_reducible show wpAny _ _ (call (Value.builtin "len") [Value.ref _]) _ _ _); (with_reducible rename List.length _ = Int.toNat _ + 1 => hV); (with_reducible rename News _ _ _ _ => N'); (refine' PyProof.Rows.len_tuple ?z1 ?z2 ?_); (case z1 => exact led_tup N' (by k_dflt k_mem)); (case z2 => (simp only [List.size_toArray, hV]; omega)); simp only [List.size_toArray, hV]) | (k_here; (with_reducible show wpAny _ _ (call (Value.builtin "len") [Value.ref _]) _ _ _); (with_reducible rename List.length _ = Int.toNat _ + 1 => hV); (with_reducible rename News _ _ _ _ => N'); (refine' call_len_list ?z1 ?z2 ?_); (case z1 => exact News.isList N' (by k_dflt k_mem)); (case z2 => (simp only [List.size_toArray, hV]; omega)); simp only [List.size_toArray, hV]) | ((with_reducible show RgPost _ _ _ _ _ _ _ _ _ _ _ _ _ _ _); (dsimp only [RgPost])) | (k_here; (with_reducible show wpAny _ _ (exec (Stmt.For (Expr.Name (Str.ofString "ch") _) _ _ _ _) _) _ _ _); (rename Fr _ _ _ _ => lF'); (with_unfolding_all refine' For_tx lF' ?k0 ?k1 ?k2 ?_; (case k0 => exact rfl); (case k1 => exact rfl); (case k2 => exact rfl)); (try k_fold)) | walk1))))
      rw [il_end hp1]
      exact hret _ _ _ _ (by assumption) (fun q hq => (by assumption : News h₀ L _ _) q (List.mem_cons_of_mem _ (List.mem_cons_of_mem _ (List.mem_cons_of_mem _ (List.mem_cons_of_mem _ (List.mem_cons_of_mem _ (List.mem_cons_of_mem _ (List.mem_cons_of_mem _ hq)))))))) hg
end Mine
-- part D8_share
namespace Mine
local macro_rules | `(tactic| k_room) => `(tactic| ktr_room)
local macro_rules | `(tactic| k_units) => `(tactic| ktr_units)
theorem quotes_eq (n : Int) : Str.ofString "257 \"" ++ Txt.mul (Str.ofString "\"") n = q257 n.toNat := by
  rw [mul_rep (show (Str.ofString "\"").cps = #[34] by decide)]
  apply Str.ext'
  rw [Str.cps_append]
  rw [show (Str.ofString "257 \"").cps = #[50, 53, 55, 32, 34] by decide]
  simp [q257, rep, Array.replicate_succ']
set_option maxRecDepth 100000 in
set_option maxHeartbeats 8000000 in
theorem share_other {w : World} {h p n : Int} {th tp tn : Tok} (hh : h = 0 ∨ h = 1 ∨ h = 3) (hp1 : 1 ≤ p) (hp2 : p ≤ 40) (hp0 : h = 0 → p = 2) (hp3 : h = 1 → p = 3) (hn0 : 0 ≤ n) (hn : n ≤ 48) :
    Cal w 176 8 60 (fun _ => True) [.int h th, .int p tp, .int n tn] (fun t => .int (n / p) t) := by
  intro mean mg mb dp un gd cn cs a ccd cl outer A₀ base h₀ L m news s Q E B F X N T hk _ hg hd hu hret
  w_top off
  revert X; k_fill; intro X
  rcases hh with rfl | rfl | rfl
  · obtain rfl := hp0 rfl
    refine wpAny_call ?_
    k_dflt cell_enter
    repeat' (first | (k_unfold; (try dsimp only)) | (first | ((with_reducible show wpAny _ _ (storeName _ _ _) _ _ _); (k_here; k_dflt (refine' storeX_LL ?F ?N ?_; (case F => k_asm); (case N => k_asm)); intro h' m' F' N')) | ((with_reducible show wpAny _ _ (execs (_ :: _) _) _ _ _); (k_here; refine execs_cons_S ?_; intro q9 s9)) | (k_here; (with_reducible show wpAny _ _ (call (Value.builtin "len") [Value.str (rep _ _) _]) _ _ _); (refine SBL.len ?h1 ?_); (case h1 => (rw [rep_length]; omega)); rw [rep_length]) | ((with_reducible show wpAny _ _ (call (Value.ref _) _) _ _ _); (k_here; k_dflt (show wpAny _ _ (call (Value.ref 169) [Value.int _ _, Value.int _ _]) _ _ _); k_dflt (refine' Cal.use (marks_ok ?z1 ?z2 ?z3 ?z4) ?zB ?zF ?zX ?zN ?zT ?zk trivial ?zg ?zd ?zu ?_); (case z1 => assumption); (case z2 => assumption); (case z3 => assumption); (case z4 => assumption); (((case zB => k_asm); (case zF => k_asm); (case zX => k_asm); (case zN => k_asm); (case zT => k_asm); (case zk => first | exact rfl | assumption))); (case zg => (first | assumption | (dsimp only; assumption))); (case zd => ktr_room); (case zu => ktr_units); intro t9 h9 tk9 gs9 F9 N9 hg9; (try dsimp only); (try k_fold))) | ((with_reducible show wpAny _ _ (call (Value.ref _) _) _ _ _); (k_here; k_dflt (show wpAny _ _ (call (Value.ref 53) [Value.str _ _]) _ _ _); rw [quotes_eq]; k_dflt (refine' parse_ok ?zB ?zF ?zX ?zN ?zT ?zk ?zn ?zd ?_); (((case zB => k_asm); (case zF => k_asm); (case zX => k_asm); (case zN => k_asm); (case zT => k_asm); (case zk => first | exact rfl | assumption))); (case zn => omega); (case zd => ktr_room); intro t9 h9 tk9 F9 N9; (try dsimp only); (try k_fold))) | ((with_reducible show wpAny _ _ (call (Value.ref _) _) _ _ _); (k_here; k_dflt (show wpAny _ _ (call (Value.ref 162) [Value.int _ _]) _ _ _); k_dflt (refine' points_ok _ _ _ _ _ _ _ _ _ _ _ _ _ _ _ _ _ _ _ _ _ _ _ _ ?zB ?zF ?zX ?zN ?zT ?zk ?zn ?zd ?zu ?_); (((case zB => k_asm); (case zF => k_asm); (case zX => k_asm); (case zN => k_asm); (case zT => k_asm); (case zk => first | exact rfl | assumption))); (case zn => exact ⟨by assumption, by assumption⟩); (case zd => ktr_room); (case zu => ktr_units); intro t9 h9 tk9 F9 N9; (try dsimp only); (try k_fold))) | walk1) | (dsimp only; (first | ((with_reducible show wpAny _ _ (storeName _ _ _) _ _ _); (k_here; k_dflt (refine' storeX_LL ?F ?N ?_; (case F => k_asm); (case N => k_asm)); intro h' m' F' N')) | ((with_reducible show wpAny _ _ (execs (_ :: _) _) _ _ _); (k_here; refine execs_cons_S ?_; intro q9 s9)) | (k_here; (with_reducible show wpAny _ _ (call (Value.builtin "len") [Value.str (rep _ _) _]) _ _ _); (refine SBL.len ?h1 ?_); (case h1 => (rw [rep_length]; omega)); rw [rep_length]) | ((with_reducible show wpAny _ _ (call (Value.ref _) _) _ _ _); (k_here; k_dflt (show wpAny _ _ (call (Value.ref 169) [Value.int _ _, Value.int _ _]) _ _ _); k_dflt (refine' Cal.use (marks_ok ?z1 ?z2 ?z3 ?z4) ?zB ?zF ?zX ?zN ?zT ?zk trivial ?zg ?zd ?zu ?_); (case z1 => assumption); (case z2 => assumption); (case z3 => assumption); (case z4 => assumption); (((case zB => k_asm); (case zF => k_asm); (case zX => k_asm); (case zN => k_asm); (case zT => k_asm); (case zk => first | exact rfl | assumption))); (case zg => (first | assumption | (dsimp only; assumption))); (case zd => ktr_room); (case zu => ktr_units); intro t9 h9 tk9 gs9 F9 N9 hg9; (try dsimp only); (try k_fold))) | ((with_reducible show wpAny _ _ (call (Value.ref _) _) _ _ _); (k_here; k_dflt (show wpAny _ _ (call (Value.ref 53) [Value.str _ _]) _ _ _); rw [quotes_eq]; k_dflt (refine' parse_ok ?zB ?zF ?zX ?zN ?zT ?zk ?zn ?zd ?_); (((case zB => k_asm); (case zF => k_asm); (case zX => k_asm); (case zN => k_asm); (case zT => k_asm); (case zk => first | exact rfl | assumption))); (case zn => omega); (case zd => ktr_room); intro t9 h9 tk9 F9 N9; (try dsimp only); (try k_fold))) | ((with_reducible show wpAny _ _ (call (Value.ref _) _) _ _ _); (k_here; k_dflt (show wpAny _ _ (call (Value.ref 162) [Value.int _ _]) _ _ _); k_dflt (refine' points_ok _ _ _ _ _ _ _ _ _ _ _ _ _ _ _ _ _ _ _ _ _ _ _ _ ?zB ?zF ?zX ?zN ?zT ?zk ?zn ?zd ?zu ?_); (((case zB => k_asm); (case zF => k_asm); (case zX => k_asm); (case zN => k_asm); (case zT => k_asm); (case zk => first | exact rfl | assumption))); (case zn => exact ⟨by assumption, by assumption⟩); (case zd => ktr_room); (case zu => ktr_units); intro t9 h9 tk9 F9 N9; (try dsimp only); (try k_fold))) | walk1)))
    rw [show ((n.toNat / 2 : Nat) : Int) = n / 2 by omega]
    exact hret _ _ _ _ (by assumption) (by assumption) hg
  · obtain rfl := hp3 rfl
    refine wpAny_call ?_
    k_dflt cell_enter
    repeat' (first | (k_unfold; (try dsimp only)) | (first | ((with_reducible show wpAny _ _ (storeName _ _ _) _ _ _); (k_here; k_dflt (refine' storeX_LL ?F ?N ?_; (case F => k_asm); (case N => k_asm)); intro h' m' F' N')) | ((with_reducible show wpAny _ _ (execs (_ :: _) _) _ _ _); (k_here; refine execs_cons_S ?_; intro q9 s9)) | (k_here; (with_reducible show wpAny _ _ (call (Value.builtin "len") [Value.str (rep _ _) _]) _ _ _); (refine SBL.len ?h1 ?_); (case h1 => (rw [rep_length]; omega)); rw [rep_length]) | ((with_reducible show wpAny _ _ (call (Value.ref _) _) _ _ _); (k_here; k_dflt (show wpAny _ _ (call (Value.ref 169) [Value.int _ _, Value.int _ _]) _ _ _); k_dflt (refine' Cal.use (marks_ok ?z1 ?z2 ?z3 ?z4) ?zB ?zF ?zX ?zN ?zT ?zk trivial ?zg ?zd ?zu ?_); (case z1 => assumption); (case z2 => assumption); (case z3 => assumption); (case z4 => assumption); (((case zB => k_asm); (case zF => k_asm); (case zX => k_asm); (case zN => k_asm); (case zT => k_asm); (case zk => first | exact rfl | assumption))); (case zg => (first | assumption | (dsimp only; assumption))); (case zd => ktr_room); (case zu => ktr_units); intro t9 h9 tk9 gs9 F9 N9 hg9; (try dsimp only); (try k_fold))) | ((with_reducible show wpAny _ _ (call (Value.ref _) _) _ _ _); (k_here; k_dflt (show wpAny _ _ (call (Value.ref 53) [Value.str _ _]) _ _ _); rw [quotes_eq]; k_dflt (refine' parse_ok ?zB ?zF ?zX ?zN ?zT ?zk ?zn ?zd ?_); (((case zB => k_asm); (case zF => k_asm); (case zX => k_asm); (case zN => k_asm); (case zT => k_asm); (case zk => first | exact rfl | assumption))); (case zn => omega); (case zd => ktr_room); intro t9 h9 tk9 F9 N9; (try dsimp only); (try k_fold))) | ((with_reducible show wpAny _ _ (call (Value.ref _) _) _ _ _); (k_here; k_dflt (show wpAny _ _ (call (Value.ref 162) [Value.int _ _]) _ _ _); k_dflt (refine' points_ok _ _ _ _ _ _ _ _ _ _ _ _ _ _ _ _ _ _ _ _ _ _ _ _ ?zB ?zF ?zX ?zN ?zT ?zk ?zn ?zd ?zu ?_); (((case zB => k_asm); (case zF => k_asm); (case zX => k_asm); (case zN => k_asm); (case zT => k_asm); (case zk => first | exact rfl | assumption))); (case zn => exact ⟨by assumption, by assumption⟩); (case zd => ktr_room); (case zu => ktr_units); intro t9 h9 tk9 F9 N9; (try dsimp only); (try k_fold))) | walk1) | (dsimp only; (first | ((with_reducible show wpAny _ _ (storeName _ _ _) _ _ _); (k_here; k_dflt (refine' storeX_LL ?F ?N ?_; (case F => k_asm); (case N => k_asm)); intro h' m' F' N')) | ((with_reducible show wpAny _ _ (execs (_ :: _) _) _ _ _); (k_here; refine execs_cons_S ?_; intro q9 s9)) | (k_here; (with_reducible show wpAny _ _ (call (Value.builtin "len") [Value.str (rep _ _) _]) _ _ _); (refine SBL.len ?h1 ?_); (case h1 => (rw [rep_length]; omega)); rw [rep_length]) | ((with_reducible show wpAny _ _ (call (Value.ref _) _) _ _ _); (k_here; k_dflt (show wpAny _ _ (call (Value.ref 169) [Value.int _ _, Value.int _ _]) _ _ _); k_dflt (refine' Cal.use (marks_ok ?z1 ?z2 ?z3 ?z4) ?zB ?zF ?zX ?zN ?zT ?zk trivial ?zg ?zd ?zu ?_); (case z1 => assumption); (case z2 => assumption); (case z3 => assumption); (case z4 => assumption); (((case zB => k_asm); (case zF => k_asm); (case zX => k_asm); (case zN => k_asm); (case zT => k_asm); (case zk => first | exact rfl | assumption))); (case zg => (first | assumption | (dsimp only; assumption))); (case zd => ktr_room); (case zu => ktr_units); intro t9 h9 tk9 gs9 F9 N9 hg9; (try dsimp only); (try k_fold))) | ((with_reducible show wpAny _ _ (call (Value.ref _) _) _ _ _); (k_here; k_dflt (show wpAny _ _ (call (Value.ref 53) [Value.str _ _]) _ _ _); rw [quotes_eq]; k_dflt (refine' parse_ok ?zB ?zF ?zX ?zN ?zT ?zk ?zn ?zd ?_); (((case zB => k_asm); (case zF => k_asm); (case zX => k_asm); (case zN => k_asm); (case zT => k_asm); (case zk => first | exact rfl | assumption))); (case zn => omega); (case zd => ktr_room); intro t9 h9 tk9 F9 N9; (try dsimp only); (try k_fold))) | ((with_reducible show wpAny _ _ (call (Value.ref _) _) _ _ _); (k_here; k_dflt (show wpAny _ _ (call (Value.ref 162) [Value.int _ _]) _ _ _); k_dflt (refine' points_ok _ _ _ _ _ _ _ _ _ _ _ _ _ _ _ _ _ _ _ _ _ _ _ _ ?zB ?zF ?zX ?zN ?zT ?zk ?zn ?zd ?zu ?_); (((case zB => k_asm); (case zF => k_asm); (case zX => k_asm); (case zN => k_asm); (case zT => k_asm); (case zk => first | exact rfl | assumption))); (case zn => exact ⟨by assumption, by assumption⟩); (case zd => ktr_room); (case zu => ktr_units); intro t9 h9 tk9 F9 N9; (try dsimp only); (try k_fold))) | walk1)))
    exact hret _ _ _ _ (by assumption) (by assumption) hg
  · refine wpAny_call ?_
    k_dflt cell_enter
    repeat' (first | (k_unfold; (try dsimp only)) | (first | ((with_reducible show wpAny _ _ (storeName _ _ _) _ _ _); (k_here; k_dflt (refine' storeX_LL ?F ?N ?_; (case F => k_asm); (case N => k_asm)); intro h' m' F' N')) | ((with_reducible show wpAny _ _ (execs (_ :: _) _) _ _ _); (k_here; refine execs_cons_S ?_; intro q9 s9)) | (k_here; (with_reducible show wpAny _ _ (call (Value.builtin "len") [Value.str (rep _ _) _]) _ _ _); (refine SBL.len ?h1 ?_); (case h1 => (rw [rep_length]; omega)); rw [rep_length]) | ((with_reducible show wpAny _ _ (call (Value.ref _) _) _ _ _); (k_here; k_dflt (show wpAny _ _ (call (Value.ref 169) [Value.int _ _, Value.int _ _]) _ _ _); k_dflt (refine' Cal.use (marks_ok ?z1 ?z2 ?z3 ?z4) ?zB ?zF ?zX ?zN ?zT ?zk trivial ?zg ?zd ?zu ?_); (case z1 => assumption); (case z2 => assumption); (case z3 => assumption); (case z4 => assumption); (((case zB => k_asm); (case zF => k_asm); (case zX => k_asm); (case zN => k_asm); (case zT => k_asm); (case zk => first | exact rfl | assumption))); (case zg => (first | assumption | (dsimp only; assumption))); (case zd => ktr_room); (case zu => ktr_units); intro t9 h9 tk9 gs9 F9 N9 hg9; (try dsimp only); (try k_fold))) | ((with_reducible show wpAny _ _ (call (Value.ref _) _) _ _ _); (k_here; k_dflt (show wpAny _ _ (call (Value.ref 53) [Value.str _ _]) _ _ _); rw [quotes_eq]; k_dflt (refine' parse_ok ?zB ?zF ?zX ?zN ?zT ?zk ?zn ?zd ?_); (((case zB => k_asm); (case zF => k_asm); (case zX => k_asm); (case zN => k_asm); (case zT => k_asm); (case zk => first | exact rfl | assumption))); (case zn => omega); (case zd => ktr_room); intro t9 h9 tk9 F9 N9; (try dsimp only); (try k_fold))) | ((with_reducible show wpAny _ _ (call (Value.ref _) _) _ _ _); (k_here; k_dflt (show wpAny _ _ (call (Value.ref 162) [Value.int _ _]) _ _ _); k_dflt (refine' points_ok _ _ _ _ _ _ _ _ _ _ _ _ _ _ _ _ _ _ _ _ _ _ _ _ ?zB ?zF ?zX ?zN ?zT ?zk ?zn ?zd ?zu ?_); (((case zB => k_asm); (case zF => k_asm); (case zX => k_asm); (case zN => k_asm); (case zT => k_asm); (case zk => first | exact rfl | assumption))); (case zn => exact ⟨by assumption, by assumption⟩); (case zd => ktr_room); (case zu => ktr_units); intro t9 h9 tk9 F9 N9; (try dsimp only); (try k_fold))) | walk1) | (dsimp only; (first | ((with_reducible show wpAny _ _ (storeName _ _ _) _ _ _); (k_here; k_dflt (refine' storeX_LL ?F ?N ?_; (case F => k_asm); (case N => k_asm)); intro h' m' F' N')) | ((with_reducible show wpAny _ _ (execs (_ :: _) _) _ _ _); (k_here; refine execs_cons_S ?_; intro q9 s9)) | (k_here; (with_reducible show wpAny _ _ (call (Value.builtin "len") [Value.str (rep _ _) _]) _ _ _); (refine SBL.len ?h1 ?_); (case h1 => (rw [rep_length]; omega)); rw [rep_length]) | ((with_reducible show wpAny _ _ (call (Value.ref _) _) _ _ _); (k_here; k_dflt (show wpAny _ _ (call (Value.ref 169) [Value.int _ _, Value.int _ _]) _ _ _); k_dflt (refine' Cal.use (marks_ok ?z1 ?z2 ?z3 ?z4) ?zB ?zF ?zX ?zN ?zT ?zk trivial ?zg ?zd ?zu ?_); (case z1 => assumption); (case z2 => assumption); (case z3 => assumption); (case z4 => assumption); (((case zB => k_asm); (case zF => k_asm); (case zX => k_asm); (case zN => k_asm); (case zT => k_asm); (case zk => first | exact rfl | assumption))); (case zg => (first | assumption | (dsimp only; assumption))); (case zd => ktr_room); (case zu => ktr_units); intro t9 h9 tk9 gs9 F9 N9 hg9; (try dsimp only); (try k_fold))) | ((with_reducible show wpAny _ _ (call (Value.ref _) _) _ _ _); (k_here; k_dflt (show wpAny _ _ (call (Value.ref 53) [Value.str _ _]) _ _ _); rw [quotes_eq]; k_dflt (refine' parse_ok ?zB ?zF ?zX ?zN ?zT ?zk ?zn ?zd ?_); (((case zB => k_asm); (case zF => k_asm); (case zX => k_asm); (case zN => k_asm); (case zT => k_asm); (case zk => first | exact rfl | assumption))); (case zn => omega); (case zd => ktr_room); intro t9 h9 tk9 F9 N9; (try dsimp only); (try k_fold))) | ((with_reducible show wpAny _ _ (call (Value.ref _) _) _ _ _); (k_here; k_dflt (show wpAny _ _ (call (Value.ref 162) [Value.int _ _]) _ _ _); k_dflt (refine' points_ok _ _ _ _ _ _ _ _ _ _ _ _ _ _ _ _ _ _ _ _ _ _ _ _ ?zB ?zF ?zX ?zN ?zT ?zk ?zn ?zd ?zu ?_); (((case zB => k_asm); (case zF => k_asm); (case zX => k_asm); (case zN => k_asm); (case zT => k_asm); (case zk => first | exact rfl | assumption))); (case zn => exact ⟨by assumption, by assumption⟩); (case zd => ktr_room); (case zu => ktr_units); intro t9 h9 tk9 F9 N9; (try dsimp only); (try k_fold))) | walk1)))
    exact hret _ _ _ _ (by assumption) (by assumption) (by assumption)
end Mine
-- part D9_share_left
namespace Mine
theorem Cal.mono {w : World} {f : Addr} {d1 u1 d2 u2 : Nat} {Pre : List (Addr × Obj) → Prop} {vs : List Value} {R : Tok → Value} (C : Cal w f d1 u1 Pre vs R) (hd : d1 ≤ d2) (hu : u1 ≤ u2) : Cal w f d2 u2 Pre vs R :=
  fun mean mg mb dp un gd cn cs a ccd cl outer A₀ base h₀ L m news s Q E B F X N T hk hp hg h1 h2 hret =>
    C mean mg mb dp un gd cn cs a ccd cl outer A₀ base h₀ L m news s Q E B F X N T hk hp hg (by omega) (by omega) hret
theorem share_ok (w : World) : ShareHyp w := by
  intro h p n th tp tn h0 h3 hp1 hp2 hp0 hp3 hn0 hn
  by_cases e : h = 2
  · subst e
    exact (white_ok hn0 hn hp1 hp2).mono (by omega) (by omega)
  · exact share_other (by omega) hp1 hp2 hp0 hp3 hn0 hn
theorem left_nil (w : World) : LeftHyp w [] := by
  intro n b tn tb l hb mean mg mb dp un gd cn cs a ccd cl outer A₀ base h₀ L m news s Q E B F X N T hk hp hg hd hu hret
  obtain ⟨vs, k, hl, ht⟩ := hp
  match vs, ht with
  | [], _ => exact left0_ok B F X N T hk hl hb (by omega) (fun t h' tk' F' N' => hret t h' tk' s.gens F' N' hg)
  | _ :: _, ht => exact ht.elim
theorem left_ok (w : World) : ∀ lots : List (Int × Int × Int), (∀ x ∈ lots, LotOk x.1 x.2.1 x.2.2) → lots.length ≤ 4 → LeftHyp w lots
  | [], _, _ => left_nil w
  | (h, p, t) :: r, hl, hlen => left_step (share_ok w) (left_ok w r (fun x hx => hl x (List.mem_cons_of_mem _ hx)) (by simp at hlen; omega)) (hl (h, p, t) (List.mem_cons_self ..)) (by simp at hlen; omega)
end Mine
-- part DA_rule
namespace Mine
local macro_rules | `(tactic| k_room) => `(tactic| ktr_room)
local macro_rules | `(tactic| k_units) => `(tactic| ktr_units)
def hits (sz : List Int) (k : Int) : Bool := sz.any (fun x => k % x == 0)
noncomputable def ruleV (sz : List Int) (b : Int) : Nat → Int
  | 0 => 0
  | k + 1 => if hits sz (k + 1) then ruleV sz b k else ruleV sz b k + b ^ (k + 1)
set_option maxRecDepth 100000 in
set_option maxHeartbeats 8000000 in
theorem rule_ok {w : World} {n b s1 s2 s3 s4 : Int} {tn tb t1 t2 t3 t4 : Tok} {l : Addr} {k : Nat} (hn0 : 1 ≤ n) (hn : n ≤ 48) (hb : 2 ≤ b) (hb2 : b ≤ 10) (g1 : 1 ≤ s1) (g2 : 1 ≤ s2) (g3 : 1 ≤ s3) (g4 : 1 ≤ s4) :
    Cal w 188 6 60 (fun news => (l, ({ cls := .type "list", data := .seq (List.toArray [.int s1 t1, .int s2 t2, .int s3 t3, .int s4 t4]) k } : Obj)) ∈ news) [.int n tn, .ref l, .int b tb] (fun t => .int (ruleV [s1, s2, s3, s4] b n.toNat) t) := by
  intro mean mg mb dp un gd cn cs a ccd cl outer A₀ base h₀ L m news s Q E B F X N T hk hl hg hd hu hret
  w_top off
  revert X; k_fill; intro X
  refine wpAny_call ?_
  k_dflt (((refine' code_defC (binds := [(Str.ofString "count", .int _ _), (Str.ofString "sizes", .ref _), (Str.ofString "base", .int _ _)]) ?k1 ?k2 ?k3 ?k4 ?k5 ?kA ?kF ?kK ?k6 ?k7 ?k8 ?k9 ?kB ?kD ?_ ?c2 ?c3 ?c4; (case kA => exact rfl); (case kF => exact rfl); (case kK => assumption); (case k1 => k_asm); (case k2 => k_asm); (case k3 => k_asm); (case k4 => k_asm); (case k5 => k_asm); (case k6 => k_is); (case k7 => k_is); (case k8 => ktr_room); (case k9 => first | exact BindsTo.of_eq rfl | exact BindsTo.of_eq (by with_unfolding_all rfl) | exact BindsTo.of_eq (by decide)); (case kB => exact rfl); (case kD => decide +kernel); (case c2 => exact rfl); (case c3 => exact rfl); (case c4 => exact rfl); k_whole; intro g' L' h' tk' cells' FG' F' N' Y' B' X' T' l1; k_cells Y'; (rename _ = Data.cell _ => d9); (replace d9 : _ = Data.cell none := d9); (try simp only [List.cons_append, List.nil_append] at N'); (try dsimp only); (try k_lift B'); (try k_fold))))
  (repeat' (first | (with_reducible show RgAtC _ _ _ _ _ _ _ _ _ _ _ _; fail) | (k_unfold; (try dsimp only)) | (first | ((with_reducible show wpAny _ _ (storeName _ _ _) _ _ _); (k_here; k_dflt (refine' storeX_LL ?F ?N ?_; (case F => k_asm); (case N => k_asm)); intro h' m' F' N')) | ((with_reducible show wpAny _ _ (execs (_ :: _) _) _ _ _); (k_here; refine execs_cons_S ?_; intro q9 s9)) | ((with_reducible show wpAny _ _ (binaryOp Operator.Pow (Value.int _ _) (Value.int _ _)) _ _ _); (k_here; (refine pow_int_small ?z1 ?z2 ?z3 ?_); (case z1 => assumption); (case z2 => assumption); (case z3 => assumption))) | ((with_reducible show RgPost _ _ _ _ _ _ _ _ _ _ _ _ _ _ _); (dsimp only [RgPost])) | (k_here; (with_reducible show wpAny _ _ (exec (Stmt.For (Expr.Name (Str.ofString "k") _) _ _ _ _) _) _ _ _); (rename Fr _ _ _ _ => lF'); (with_unfolding_all refine' For_rgC lF' ?k0 ?_; (case k0 => exact rfl)); (try k_fold)) | walk1) | (dsimp only; (first | ((with_reducible show wpAny _ _ (storeName _ _ _) _ _ _); (k_here; k_dflt (refine' storeX_LL ?F ?N ?_; (case F => k_asm); (case N => k_asm)); intro h' m' F' N')) | ((with_reducible show wpAny _ _ (execs (_ :: _) _) _ _ _); (k_here; refine execs_cons_S ?_; intro q9 s9)) | ((with_reducible show wpAny _ _ (binaryOp Operator.Pow (Value.int _ _) (Value.int _ _)) _ _ _); (k_here; (refine pow_int_small ?z1 ?z2 ?z3 ?_); (case z1 => assumption); (case z2 => assumption); (case z3 => assumption))) | ((with_reducible show RgPost _ _ _ _ _ _ _ _ _ _ _ _ _ _ _); (dsimp only [RgPost])) | (k_here; (with_reducible show wpAny _ _ (exec (Stmt.For (Expr.Name (Str.ofString "k") _) _ _ _ _) _) _ _ _); (rename Fr _ _ _ _ => lF'); (with_unfolding_all refine' For_rgC lF' ?k0 ?_; (case k0 => exact rfl)); (try k_fold)) | walk1))))
  rename IsRange _ _ _ _ _ _ _ _ => hR
  rename Fr _ _ _ _ => F1
  rename News _ _ _ _ => N1
  refine' rg_introC (σ := Tok × Int × Obj) n.toNat (fun c => (_, c.2.2) :: news) (fun c => [(Str.ofString "total", .int c.2.1 c.1)]) [] (fun i c gs => c.2.1 = ruleV [s1, s2, s3, s4] b i ∧ gs = s.gens ∧ ∃ v, c.2.2.data = .cell v) (_, 0, _) hR (.inl (by omega)) (by omega) (by omega) (by omega) F1 N1 ?kk ⟨rfl, rfl, _, by assumption⟩ ?turn ?done
  case kk => ((try dsimp +zetaDelta only); kst_all)
  case turn =>
    rintro i ⟨t1, tv, o1⟩ t u h tk gs I o hi ⟨he, rfl, v1, hv1⟩ hoff F2 N2
    dsimp only at he hv1
    subst he
    clear F1 N1
    have hIc := hoff _ (List.mem_cons_self ..)
    refine wpAny_assign_Name ?_
    with_unfolding_all refine' stCN (own := [(I, o)]) (rest := news) F2 N2 rfl hv1 ?_ ?_ ?_
    · intro p hp
      rw [List.mem_singleton.mp hp]
      exact fun q => hIc q.symm
    · intro p hp q
      rename (∀ (p : Addr × Obj), p ∈ news → p.1 < _) => l1'
      exact absurd q (Nat.ne_of_lt (Nat.lt_succ_of_lt (l1' p hp)))
    clear hv1 N2
    intro h3 o3 F3 N3 hv3
    clear F2
    try dsimp only at N3 F3
    try k_fold
    (repeat' (first | ((fail_if_success (with_reducible show wpAny _ _ (eval (Expr.ListComp _ _ _ _) _) _ _ _)); first | (k_unfold; (try dsimp only)) | (first | ((with_reducible show wpAny _ _ (storeName _ _ _) _ _ _); (k_here; k_dflt (refine' storeX_LL ?F ?N ?_; (case F => k_asm); (case N => k_asm)); intro h' m' F' N')) | ((with_reducible show wpAny _ _ (execs (_ :: _) _) _ _ _); (k_here; refine execs_cons_S ?_; intro q9 s9)) | ((with_reducible show wpAny _ _ (binaryOp Operator.Pow (Value.int _ _) (Value.int _ _)) _ _ _); (k_here; (refine pow_int_small ?z1 ?z2 ?z3 ?_); (case z1 => assumption); (case z2 => assumption); (case z3 => assumption))) | ((with_reducible show RgPost _ _ _ _ _ _ _ _ _ _ _ _ _ _ _); (dsimp only [RgPost])) | (k_here; (with_reducible show wpAny _ _ (exec (Stmt.For (Expr.Name (Str.ofString "k") _) _ _ _ _) _) _ _ _); (rename Fr _ _ _ _ => lF'); (with_unfolding_all refine' For_rgC lF' ?k0 ?_; (case k0 => exact rfl)); (try k_fold)) | walk1) | (dsimp only; (fail_if_success (with_reducible show wpAny _ _ (eval (Expr.ListComp _ _ _ _) _) _ _ _)); (first | ((with_reducible show wpAny _ _ (storeName _ _ _) _ _ _); (k_here; k_dflt (refine' storeX_LL ?F ?N ?_; (case F => k_asm); (case N => k_asm)); intro h' m' F' N')) | ((with_reducible show wpAny _ _ (execs (_ :: _) _) _ _ _); (k_here; refine execs_cons_S ?_; intro q9 s9)) | ((with_reducible show wpAny _ _ (binaryOp Operator.Pow (Value.int _ _) (Value.int _ _)) _ _ _); (k_here; (refine pow_int_small ?z1 ?z2 ?z3 ?_); (case z1 => assumption); (case z2 => assumption); (case z3 => assumption))) | ((with_reducible show RgPost _ _ _ _ _ _ _ _ _ _ _ _ _ _ _); (dsimp only [RgPost])) | (k_here; (with_reducible show wpAny _ _ (exec (Stmt.For (Expr.Name (Str.ofString "k") _) _ _ _ _) _) _ _ _); (rename Fr _ _ _ _ => lF'); (with_unfolding_all refine' For_rgC lF' ?k0 ?_; (case k0 => exact rfl)); (try k_fold)) | walk1)))))
    refine' ListComp_DCn (K := ItemKind.int) (pz := fun x => (1 + (i : Int)) % x == 0) (d := PyData.int) (by with_unfolding_all rfl) (by with_unfolding_all rfl) (by decide) (by rfl) (by decide) (by rfl) ?zh (by intro _; with_unfolding_all rfl)
    case zh =>
      (first | ((with_reducible show wpAny _ _ (storeName _ _ _) _ _ _); (k_here; k_dflt (refine' storeX_LL ?F ?N ?_; (case F => k_asm); (case N => k_asm)); intro h' m' F' N')) | ((with_reducible show wpAny _ _ (execs (_ :: _) _) _ _ _); (k_here; refine execs_cons_S ?_; intro q9 s9)) | ((with_reducible show wpAny _ _ (binaryOp Operator.Pow (Value.int _ _) (Value.int _ _)) _ _ _); (k_here; (refine pow_int_small ?z1 ?z2 ?z3 ?_); (case z1 => assumption); (case z2 => assumption); (case z3 => assumption))) | ((with_reducible show RgPost _ _ _ _ _ _ _ _ _ _ _ _ _ _ _); (dsimp only [RgPost])) | (k_here; (with_reducible show wpAny _ _ (exec (Stmt.For (Expr.Name (Str.ofString "k") _) _ _ _ _) _) _ _ _); (rename Fr _ _ _ _ => lF'); (with_unfolding_all refine' For_rgC lF' ?k0 ?_; (case k0 => exact rfl)); (try k_fold)) | walk1)
      any_goals (first | exact Str.ofString "" | exact (0 : Nat) | exact Value.none)
      rename Fr _ _ _ _ => F4
      rename News _ _ _ _ => N4
      refine ⟨_, _, _, [s1, s2, s3, s4], rfl, News.isList N4 (List.mem_cons_of_mem _ (List.mem_cons_of_mem _ hl)), ?areof, (by simp [sizeLine_eq]), F4, N4, ?tests, ?elts, ?fin⟩
      case areof => exact .cons ⟨_, rfl⟩ (.cons ⟨_, rfl⟩ (.cons ⟨_, rfl⟩ (.cons ⟨_, rfl⟩ .nil)))
      case tests =>
        rintro C a _ s₂ m₂ E' hC ha ⟨tv, rfl⟩ hn2 hm2 hk2
        have Fc := frInComp hn2 hk2 hC
        have Nc := N4.grown hk2
        have ha1 : 1 ≤ a := by
          simp only [List.mem_cons, List.not_mem_nil, or_false] at ha
          omega
        have ha0 : a ≠ 0 := by omega
        simp only [List.forIn_cons, List.forIn_nil, if_true, bind_assoc, pure_bind]
        refine wpAny_bind ?_
        repeat' (first | (k_unfold; (try dsimp only)) | (first | ((with_reducible show wpAny _ _ (storeName _ _ _) _ _ _); (k_here; k_dflt (refine' storeX_LL ?F ?N ?_; (case F => k_asm); (case N => k_asm)); intro h' m' F' N')) | ((with_reducible show wpAny _ _ (execs (_ :: _) _) _ _ _); (k_here; refine execs_cons_S ?_; intro q9 s9)) | ((with_reducible show wpAny _ _ (binaryOp Operator.Pow (Value.int _ _) (Value.int _ _)) _ _ _); (k_here; (refine pow_int_small ?z1 ?z2 ?z3 ?_); (case z1 => assumption); (case z2 => assumption); (case z3 => assumption))) | ((with_reducible show RgPost _ _ _ _ _ _ _ _ _ _ _ _ _ _ _); (dsimp only [RgPost])) | (k_here; (with_reducible show wpAny _ _ (exec (Stmt.For (Expr.Name (Str.ofString "k") _) _ _ _ _) _) _ _ _); (rename Fr _ _ _ _ => lF'); (with_unfolding_all refine' For_rgC lF' ?k0 ?_; (case k0 => exact rfl)); (try k_fold)) | walk1) | (dsimp only; (first | ((with_reducible show wpAny _ _ (storeName _ _ _) _ _ _); (k_here; k_dflt (refine' storeX_LL ?F ?N ?_; (case F => k_asm); (case N => k_asm)); intro h' m' F' N')) | ((with_reducible show wpAny _ _ (execs (_ :: _) _) _ _ _); (k_here; refine execs_cons_S ?_; intro q9 s9)) | ((with_reducible show wpAny _ _ (binaryOp Operator.Pow (Value.int _ _) (Value.int _ _)) _ _ _); (k_here; (refine pow_int_small ?z1 ?z2 ?z3 ?_); (case z1 => assumption); (case z2 => assumption); (case z3 => assumption))) | ((with_reducible show RgPost _ _ _ _ _ _ _ _ _ _ _ _ _ _ _); (dsimp only [RgPost])) | (k_here; (with_reducible show wpAny _ _ (exec (Stmt.For (Expr.Name (Str.ofString "k") _) _ _ _ _) _) _ _ _); (rename Fr _ _ _ _ => lF'); (with_unfolding_all refine' For_rgC lF' ?k0 ?_; (case k0 => exact rfl)); (try k_fold)) | walk1)))
        refine wpAny_pure ⟨?_, _, _, rfl, fun b o e => e⟩
        rw [Int.fmod_eq_emod_of_nonneg _ (by omega)]
      case elts =>
        rintro C a _ s₂ m₂ E' hC ha ⟨tv, rfl⟩ hpz hn2 hm2 hk2
        have Fc := frInComp hn2 hk2 hC
        (first | ((with_reducible show wpAny _ _ (storeName _ _ _) _ _ _); (k_here; k_dflt (refine' storeX_LL ?F ?N ?_; (case F => k_asm); (case N => k_asm)); intro h' m' F' N')) | ((with_reducible show wpAny _ _ (execs (_ :: _) _) _ _ _); (k_here; refine execs_cons_S ?_; intro q9 s9)) | ((with_reducible show wpAny _ _ (binaryOp Operator.Pow (Value.int _ _) (Value.int _ _)) _ _ _); (k_here; (refine pow_int_small ?z1 ?z2 ?z3 ?_); (case z1 => assumption); (case z2 => assumption); (case z3 => assumption))) | ((with_reducible show RgPost _ _ _ _ _ _ _ _ _ _ _ _ _ _ _); (dsimp only [RgPost])) | (k_here; (with_reducible show wpAny _ _ (exec (Stmt.For (Expr.Name (Str.ofString "k") _) _ _ _ _) _) _ _ _); (rename Fr _ _ _ _ => lF'); (with_unfolding_all refine' For_rgC lF' ?k0 ?_; (case k0 => exact rfl)); (try k_fold)) | walk1)
        (first | ((with_reducible show wpAny _ _ (storeName _ _ _) _ _ _); (k_here; k_dflt (refine' storeX_LL ?F ?N ?_; (case F => k_asm); (case N => k_asm)); intro h' m' F' N')) | ((with_reducible show wpAny _ _ (execs (_ :: _) _) _ _ _); (k_here; refine execs_cons_S ?_; intro q9 s9)) | ((with_reducible show wpAny _ _ (binaryOp Operator.Pow (Value.int _ _) (Value.int _ _)) _ _ _); (k_here; (refine pow_int_small ?z1 ?z2 ?z3 ?_); (case z1 => assumption); (case z2 => assumption); (case z3 => assumption))) | ((with_reducible show RgPost _ _ _ _ _ _ _ _ _ _ _ _ _ _ _); (dsimp only [RgPost])) | (k_here; (with_reducible show wpAny _ _ (exec (Stmt.For (Expr.Name (Str.ofString "k") _) _ _ _ _) _) _ _ _); (rename Fr _ _ _ _ => lF'); (with_unfolding_all refine' For_rgC lF' ?k0 ?_; (case k0 => exact rfl)); (try k_fold)) | walk1)
        exact ⟨Carried.int _ _, _, _, rfl, fun _ _ e => e⟩
      case fin =>
        rintro D ys h' tk F5 N5 hD _ ⟨⟨nD, hgD⟩, hnD⟩ hca
        have hDL := (NewPlain.ne_locals ⟨⟨nD, hgD⟩, hnD⟩ F5)
        have N6 : News _ _ h' ((D, { cls := .type "list", data := .seq ys.toArray nD }) :: _) := fun p hp => by
          rcases List.mem_cons.mp hp with rfl | hp
          · exact ⟨hgD, hDL, hD⟩
          · exact N5 p hp
        have hlen := hca.length_eq
        rw [List.length_map] at hlen
        clear N5 hca
        by_cases hh : hits [s1, s2, s3, s4] (1 + (i : Int)) = true
        · have hys : (ys.toArray.size != (#[] : Array Value).size) = true := by
            rw [List.size_toArray, hlen]
            have : (List.filter (fun x => (1 + (i : Int)) % x == 0) [s1, s2, s3, s4]).length ≠ 0 := by
              intro q
              have q2 := List.filter_eq_nil_iff.mp (List.eq_nil_of_length_eq_zero q)
              obtain ⟨x, hx, hx2⟩ := List.any_eq_true.mp hh
              exact q2 x hx hx2
            simpa using this
          have er : ruleV [s1, s2, s3, s4] b (i + 1) = ruleV [s1, s2, s3, s4] b i := by
            show (if hits [s1, s2, s3, s4] ((i : Int) + 1) then _ else _) = _
            rw [if_pos (by rw [Int.add_comm]; exact hh)]
          clear hlen hh
          (first | ((with_reducible show wpAny _ _ (storeName _ _ _) _ _ _); (k_here; k_dflt (refine' storeX_LL ?F ?N ?_; (case F => k_asm); (case N => k_asm)); intro h' m' F' N')) | ((with_reducible show wpAny _ _ (execs (_ :: _) _) _ _ _); (k_here; refine execs_cons_S ?_; intro q9 s9)) | ((with_reducible show wpAny _ _ (binaryOp Operator.Pow (Value.int _ _) (Value.int _ _)) _ _ _); (k_here; (refine pow_int_small ?z1 ?z2 ?z3 ?_); (case z1 => assumption); (case z2 => assumption); (case z3 => assumption))) | ((with_reducible show RgPost _ _ _ _ _ _ _ _ _ _ _ _ _ _ _); (dsimp only [RgPost])) | (k_here; (with_reducible show wpAny _ _ (exec (Stmt.For (Expr.Name (Str.ofString "k") _) _ _ _ _) _) _ _ _); (rename Fr _ _ _ _ => lF'); (with_unfolding_all refine' For_rgC lF' ?k0 ?_; (case k0 => exact rfl)); (try k_fold)) | walk1)
          (first | ((with_reducible show wpAny _ _ (storeName _ _ _) _ _ _); (k_here; k_dflt (refine' storeX_LL ?F ?N ?_; (case F => k_asm); (case N => k_asm)); intro h' m' F' N')) | ((with_reducible show wpAny _ _ (execs (_ :: _) _) _ _ _); (k_here; refine execs_cons_S ?_; intro q9 s9)) | ((with_reducible show wpAny _ _ (binaryOp Operator.Pow (Value.int _ _) (Value.int _ _)) _ _ _); (k_here; (refine pow_int_small ?z1 ?z2 ?z3 ?_); (case z1 => assumption); (case z2 => assumption); (case z3 => assumption))) | ((with_reducible show RgPost _ _ _ _ _ _ _ _ _ _ _ _ _ _ _); (dsimp only [RgPost])) | (k_here; (with_reducible show wpAny _ _ (exec (Stmt.For (Expr.Name (Str.ofString "k") _) _ _ _ _) _) _ _ _); (rename Fr _ _ _ _ => lF'); (with_unfolding_all refine' For_rgC lF' ?k0 ?_; (case k0 => exact rfl)); (try k_fold)) | walk1)
          (first | ((with_reducible show wpAny _ _ (storeName _ _ _) _ _ _); (k_here; k_dflt (refine' storeX_LL ?F ?N ?_; (case F => k_asm); (case N => k_asm)); intro h' m' F' N')) | ((with_reducible show wpAny _ _ (execs (_ :: _) _) _ _ _); (k_here; refine execs_cons_S ?_; intro q9 s9)) | ((with_reducible show wpAny _ _ (binaryOp Operator.Pow (Value.int _ _) (Value.int _ _)) _ _ _); (k_here; (refine pow_int_small ?z1 ?z2 ?z3 ?_); (case z1 => assumption); (case z2 => assumption); (case z3 => assumption))) | ((with_reducible show RgPost _ _ _ _ _ _ _ _ _ _ _ _ _ _ _); (dsimp only [RgPost])) | (k_here; (with_reducible show wpAny _ _ (exec (Stmt.For (Expr.Name (Str.ofString "k") _) _ _ _ _) _) _ _ _); (rename Fr _ _ _ _ => lF'); (with_unfolding_all refine' For_rgC lF' ?k0 ?_; (case k0 => exact rfl)); (try k_fold)) | walk1)
          rename Fr _ _ _ _ => F7
          rename News _ _ _ _ => N7
          refine PySem.SeqAt.eq_list_lengthsAt (News.isList N7 (List.mem_cons_of_mem _ (List.mem_cons_self ..))) (News.isList N7 (List.mem_cons_self ..)) hys (by ktr_units) ?_
          (repeat' (first | (with_reducible show RgEnd _ _ _ _ _ _ _ _ _ _ _ _ _; fail) | (k_unfold; (try dsimp only)) | (first | ((with_reducible show wpAny _ _ (storeName _ _ _) _ _ _); (k_here; k_dflt (refine' storeX_LL ?F ?N ?_; (case F => k_asm); (case N => k_asm)); intro h' m' F' N')) | ((with_reducible show wpAny _ _ (execs (_ :: _) _) _ _ _); (k_here; refine execs_cons_S ?_; intro q9 s9)) | ((with_reducible show wpAny _ _ (binaryOp Operator.Pow (Value.int _ _) (Value.int _ _)) _ _ _); (k_here; (refine pow_int_small ?z1 ?z2 ?z3 ?_); (case z1 => assumption); (case z2 => assumption); (case z3 => assumption))) | ((with_reducible show RgPost _ _ _ _ _ _ _ _ _ _ _ _ _ _ _); (dsimp only [RgPost])) | (k_here; (with_reducible show wpAny _ _ (exec (Stmt.For (Expr.Name (Str.ofString "k") _) _ _ _ _) _) _ _ _); (rename Fr _ _ _ _ => lF'); (with_unfolding_all refine' For_rgC lF' ?k0 ?_; (case k0 => exact rfl)); (try k_fold)) | walk1) | (dsimp only; (first | ((with_reducible show wpAny _ _ (storeName _ _ _) _ _ _); (k_here; k_dflt (refine' storeX_LL ?F ?N ?_; (case F => k_asm); (case N => k_asm)); intro h' m' F' N')) | ((with_reducible show wpAny _ _ (execs (_ :: _) _) _ _ _); (k_here; refine execs_cons_S ?_; intro q9 s9)) | ((with_reducible show wpAny _ _ (binaryOp Operator.Pow (Value.int _ _) (Value.int _ _)) _ _ _); (k_here; (refine pow_int_small ?z1 ?z2 ?z3 ?_); (case z1 => assumption); (case z2 => assumption); (case z3 => assumption))) | ((with_reducible show RgPost _ _ _ _ _ _ _ _ _ _ _ _ _ _ _); (dsimp only [RgPost])) | (k_here; (with_reducible show wpAny _ _ (exec (Stmt.For (Expr.Name (Str.ofString "k") _) _ _ _ _) _) _ _ _); (rename Fr _ _ _ _ => lF'); (with_unfolding_all refine' For_rgC lF' ?k0 ?_; (case k0 => exact rfl)); (try k_fold)) | walk1))))
          refine' rg_end (_, _, o3) (by assumption) (by assumption) (fun p hp => List.mem_cons_of_mem _ (List.mem_cons_of_mem _ (List.mem_cons_of_mem _ hp))) (List.mem_cons_of_mem _ (List.mem_cons_of_mem _ (List.mem_cons_self ..))) ?ho9 ?hk9 ?hr9 ⟨?hv9, rfl, _, hv3⟩
          case ho9 =>
            intro p hp
            rcases List.mem_cons.mp hp with rfl | hp
            · exact hIc
            · exact hoff p (List.mem_cons_of_mem _ hp)
          case hk9 => ((try dsimp +zetaDelta only); kst_all)
          case hr9 => ((intro z h1 h2 h3; simp only [List.forall_mem_cons, List.not_mem_nil, false_implies, implies_true, and_true, ne_eq, List.contains_cons, List.contains_nil, Bool.or_false, Bool.or_eq_false_iff, beq_eq_false_iff_ne] at h1 h2 h3; simp +zetaDelta [h1, h2, h3, kstB]))
          case hv9 => exact er.symm
        · have hys : ys = [] := by
            refine List.eq_nil_of_length_eq_zero ?_
            rw [hlen]
            have : List.filter (fun x => (1 + (i : Int)) % x == 0) [s1, s2, s3, s4] = [] := by
              refine List.filter_eq_nil_iff.mpr fun x hx hx2 => hh (List.any_eq_true.mpr ⟨x, hx, hx2⟩)
            rw [this]
            rfl
          have er : ruleV [s1, s2, s3, s4] b (i + 1) = ruleV [s1, s2, s3, s4] b i + b ^ (1 + (i : Int)).toNat := by
            show (if hits [s1, s2, s3, s4] ((i : Int) + 1) then _ else _) = _
            rw [if_neg (by rw [Int.add_comm]; exact hh), show (1 + (i : Int)).toNat = i + 1 by omega]
          subst hys
          clear hlen hh
          (first | ((with_reducible show wpAny _ _ (storeName _ _ _) _ _ _); (k_here; k_dflt (refine' storeX_LL ?F ?N ?_; (case F => k_asm); (case N => k_asm)); intro h' m' F' N')) | ((with_reducible show wpAny _ _ (execs (_ :: _) _) _ _ _); (k_here; refine execs_cons_S ?_; intro q9 s9)) | ((with_reducible show wpAny _ _ (binaryOp Operator.Pow (Value.int _ _) (Value.int _ _)) _ _ _); (k_here; (refine pow_int_small ?z1 ?z2 ?z3 ?_); (case z1 => assumption); (case z2 => assumption); (case z3 => assumption))) | ((with_reducible show RgPost _ _ _ _ _ _ _ _ _ _ _ _ _ _ _); (dsimp only [RgPost])) | (k_here; (with_reducible show wpAny _ _ (exec (Stmt.For (Expr.Name (Str.ofString "k") _) _ _ _ _) _) _ _ _); (rename Fr _ _ _ _ => lF'); (with_unfolding_all refine' For_rgC lF' ?k0 ?_; (case k0 => exact rfl)); (try k_fold)) | walk1)
          (first | ((with_reducible show wpAny _ _ (storeName _ _ _) _ _ _); (k_here; k_dflt (refine' storeX_LL ?F ?N ?_; (case F => k_asm); (case N => k_asm)); intro h' m' F' N')) | ((with_reducible show wpAny _ _ (execs (_ :: _) _) _ _ _); (k_here; refine execs_cons_S ?_; intro q9 s9)) | ((with_reducible show wpAny _ _ (binaryOp Operator.Pow (Value.int _ _) (Value.int _ _)) _ _ _); (k_here; (refine pow_int_small ?z1 ?z2 ?z3 ?_); (case z1 => assumption); (case z2 => assumption); (case z3 => assumption))) | ((with_reducible show RgPost _ _ _ _ _ _ _ _ _ _ _ _ _ _ _); (dsimp only [RgPost])) | (k_here; (with_reducible show wpAny _ _ (exec (Stmt.For (Expr.Name (Str.ofString "k") _) _ _ _ _) _) _ _ _); (rename Fr _ _ _ _ => lF'); (with_unfolding_all refine' For_rgC lF' ?k0 ?_; (case k0 => exact rfl)); (try k_fold)) | walk1)
          (first | ((with_reducible show wpAny _ _ (storeName _ _ _) _ _ _); (k_here; k_dflt (refine' storeX_LL ?F ?N ?_; (case F => k_asm); (case N => k_asm)); intro h' m' F' N')) | ((with_reducible show wpAny _ _ (execs (_ :: _) _) _ _ _); (k_here; refine execs_cons_S ?_; intro q9 s9)) | ((with_reducible show wpAny _ _ (binaryOp Operator.Pow (Value.int _ _) (Value.int _ _)) _ _ _); (k_here; (refine pow_int_small ?z1 ?z2 ?z3 ?_); (case z1 => assumption); (case z2 => assumption); (case z3 => assumption))) | ((with_reducible show RgPost _ _ _ _ _ _ _ _ _ _ _ _ _ _ _); (dsimp only [RgPost])) | (k_here; (with_reducible show wpAny _ _ (exec (Stmt.For (Expr.Name (Str.ofString "k") _) _ _ _ _) _) _ _ _); (rename Fr _ _ _ _ => lF'); (with_unfolding_all refine' For_rgC lF' ?k0 ?_; (case k0 => exact rfl)); (try k_fold)) | walk1)
          rename Fr _ _ _ _ => F7
          rename News _ _ _ _ => N7
          refine PySem.SeqAt.eq_listAt (e := fun _ => true) (News.isList N7 (List.mem_cons_of_mem _ (List.mem_cons_self ..))) (News.isList N7 (List.mem_cons_self ..)) rfl (by ktr_units) (fun j h1 => absurd h1 (by simp)) ?_
          rw [show (List.range (List.toArray ([] : List Value)).size).all (fun _ => true) = true from rfl]
          have hq1 : (0 : Int) ≤ 1 + (i : Int) := by omega
          have hq2 : 1 + (i : Int) ≤ 1000000 := by omega
          have hq3 : b.natAbs < 2 ^ 64 := by omega
          (repeat' (first | (with_reducible show RgEnd _ _ _ _ _ _ _ _ _ _ _ _ _; fail) | (k_unfold; (try dsimp only)) | (first | ((with_reducible show wpAny _ _ (storeName _ _ _) _ _ _); (k_here; k_dflt (refine' storeX_LL ?F ?N ?_; (case F => k_asm); (case N => k_asm)); intro h' m' F' N')) | ((with_reducible show wpAny _ _ (execs (_ :: _) _) _ _ _); (k_here; refine execs_cons_S ?_; intro q9 s9)) | ((with_reducible show wpAny _ _ (binaryOp Operator.Pow (Value.int _ _) (Value.int _ _)) _ _ _); (k_here; (refine pow_int_small ?z1 ?z2 ?z3 ?_); (case z1 => assumption); (case z2 => assumption); (case z3 => assumption))) | ((with_reducible show RgPost _ _ _ _ _ _ _ _ _ _ _ _ _ _ _); (dsimp only [RgPost])) | (k_here; (with_reducible show wpAny _ _ (exec (Stmt.For (Expr.Name (Str.ofString "k") _) _ _ _ _) _) _ _ _); (rename Fr _ _ _ _ => lF'); (with_unfolding_all refine' For_rgC lF' ?k0 ?_; (case k0 => exact rfl)); (try k_fold)) | walk1) | (dsimp only; (first | ((with_reducible show wpAny _ _ (storeName _ _ _) _ _ _); (k_here; k_dflt (refine' storeX_LL ?F ?N ?_; (case F => k_asm); (case N => k_asm)); intro h' m' F' N')) | ((with_reducible show wpAny _ _ (execs (_ :: _) _) _ _ _); (k_here; refine execs_cons_S ?_; intro q9 s9)) | ((with_reducible show wpAny _ _ (binaryOp Operator.Pow (Value.int _ _) (Value.int _ _)) _ _ _); (k_here; (refine pow_int_small ?z1 ?z2 ?z3 ?_); (case z1 => assumption); (case z2 => assumption); (case z3 => assumption))) | ((with_reducible show RgPost _ _ _ _ _ _ _ _ _ _ _ _ _ _ _); (dsimp only [RgPost])) | (k_here; (with_reducible show wpAny _ _ (exec (Stmt.For (Expr.Name (Str.ofString "k") _) _ _ _ _) _) _ _ _); (rename Fr _ _ _ _ => lF'); (with_unfolding_all refine' For_rgC lF' ?k0 ?_; (case k0 => exact rfl)); (try k_fold)) | walk1))))
          refine' rg_end (_, _, o3) (by assumption) (by assumption) (fun p hp => List.mem_cons_of_mem _ (List.mem_cons_of_mem _ (List.mem_cons_of_mem _ hp))) (List.mem_cons_of_mem _ (List.mem_cons_of_mem _ (List.mem_cons_self ..))) ?ho9 ?hk9 ?hr9 ⟨?hv9, rfl, _, hv3⟩
          case ho9 =>
            intro p hp
            rcases List.mem_cons.mp hp with rfl | hp
            · exact hIc
            · exact hoff p (List.mem_cons_of_mem _ hp)
          case hk9 => ((try dsimp +zetaDelta only); kst_all)
          case hr9 => ((intro z h1 h2 h3; simp only [List.forall_mem_cons, List.not_mem_nil, false_implies, implies_true, and_true, ne_eq, List.contains_cons, List.contains_nil, Bool.or_false, Bool.or_eq_false_iff, beq_eq_false_iff_ne] at h1 h2 h3; simp +zetaDelta [h1, h2, h3, kstB]))
          case hv9 => exact er.symm
  case done =>
    rintro ⟨t1, tv, o1⟩ u h tk gs ⟨he, rfl, v1, hv1⟩ F2 N2
    dsimp only at he
    subst he
    clear F1 N1
    (repeat' (first | (with_reducible show RgAtC _ _ _ _ _ _ _ _ _ _ _ _; fail) | (k_unfold; (try dsimp only)) | (first | ((with_reducible show wpAny _ _ (storeName _ _ _) _ _ _); (k_here; k_dflt (refine' storeX_LL ?F ?N ?_; (case F => k_asm); (case N => k_asm)); intro h' m' F' N')) | ((with_reducible show wpAny _ _ (execs (_ :: _) _) _ _ _); (k_here; refine execs_cons_S ?_; intro q9 s9)) | ((with_reducible show wpAny _ _ (binaryOp Operator.Pow (Value.int _ _) (Value.int _ _)) _ _ _); (k_here; (refine pow_int_small ?z1 ?z2 ?z3 ?_); (case z1 => assumption); (case z2 => assumption); (case z3 => assumption))) | ((with_reducible show RgPost _ _ _ _ _ _ _ _ _ _ _ _ _ _ _); (dsimp only [RgPost])) | (k_here; (with_reducible show wpAny _ _ (exec (Stmt.For (Expr.Name (Str.ofString "k") _) _ _ _ _) _) _ _ _); (rename Fr _ _ _ _ => lF'); (with_unfolding_all refine' For_rgC lF' ?k0 ?_; (case k0 => exact rfl)); (try k_fold)) | walk1) | (dsimp only; (first | ((with_reducible show wpAny _ _ (storeName _ _ _) _ _ _); (k_here; k_dflt (refine' storeX_LL ?F ?N ?_; (case F => k_asm); (case N => k_asm)); intro h' m' F' N')) | ((with_reducible show wpAny _ _ (execs (_ :: _) _) _ _ _); (k_here; refine execs_cons_S ?_; intro q9 s9)) | ((with_reducible show wpAny _ _ (binaryOp Operator.Pow (Value.int _ _) (Value.int _ _)) _ _ _); (k_here; (refine pow_int_small ?z1 ?z2 ?z3 ?_); (case z1 => assumption); (case z2 => assumption); (case z3 => assumption))) | ((with_reducible show RgPost _ _ _ _ _ _ _ _ _ _ _ _ _ _ _); (dsimp only [RgPost])) | (k_here; (with_reducible show wpAny _ _ (exec (Stmt.For (Expr.Name (Str.ofString "k") _) _ _ _ _) _) _ _ _); (rename Fr _ _ _ _ => lF'); (with_unfolding_all refine' For_rgC lF' ?k0 ?_; (case k0 => exact rfl)); (try k_fold)) | walk1))))
    exact hret _ _ _ _ (by assumption) (fun p hp => (by assumption : News h₀ L _ _) p (List.mem_cons_of_mem _ hp)) hg
end Mine
-- part Pure
namespace Mine
theorem tot_succ (b : Int) : ∀ k, tot b (k + 1) = tot b k + b ^ (k + 2)
  | 0 => by
    show (b + 1) * b = b + b ^ 2
    rw [Int.pow_succ, Int.pow_one, Int.add_mul, Int.one_mul, Int.add_comm]
  | k + 1 => by
    show (tot b (k + 1) + 1) * b = (tot b k + 1) * b + b ^ (k + 2 + 1)
    rw [tot_succ b k, Int.pow_succ b (k + 2), ← Int.add_mul, Int.add_right_comm]
theorem tot_rule (b : Int) : ∀ k, tot b k = ruleV [] b (k + 1)
  | 0 => by
    show b = 0 + b ^ 1
    rw [Int.pow_one, Int.zero_add]
  | k + 1 => by
    rw [tot_succ, tot_rule b k]
    rfl
theorem hits_mul {sz : List Int} {q m : Int} (hc : ∀ x ∈ sz, Nat.Coprime x.natAbs q.natAbs) : hits sz (q * m) = hits sz m := by
  unfold hits
  refine Bool.eq_iff_iff.mpr ?_
  simp only [List.any_eq_true, beq_iff_eq]
  constructor
  · rintro ⟨x, hx, h⟩
    refine ⟨x, hx, ?_⟩
    have h1 := Int.dvd_of_emod_eq_zero h
    have h2 := Int.natAbs_dvd_natAbs.mpr h1
    rw [Int.natAbs_mul] at h2
    exact Int.emod_eq_zero_of_dvd (Int.natAbs_dvd_natAbs.mp (Nat.Coprime.dvd_of_dvd_mul_left (hc x hx) h2))
  · rintro ⟨x, hx, h⟩
    refine ⟨x, hx, ?_⟩
    exact Int.emod_eq_zero_of_dvd (Int.dvd_trans (Int.dvd_of_emod_eq_zero h) (Int.dvd_mul_left ..))
theorem sieve {sz : List Int} {q : Nat} (b : Int) (hq : 1 ≤ q) (hc : ∀ x ∈ sz, Nat.Coprime x.natAbs q) :
    ∀ n, ruleV ((q : Int) :: sz) b n + ruleV sz (b ^ q) (n / q) = ruleV sz b n
  | 0 => by
    rw [Nat.zero_div]
    rfl
  | n + 1 => by
    have ih := sieve b hq hc n
    show (if hits ((q : Int) :: sz) ((n : Int) + 1) then ruleV ((q : Int) :: sz) b n else ruleV ((q : Int) :: sz) b n + b ^ (n + 1)) + _ = (if hits sz ((n : Int) + 1) then ruleV sz b n else ruleV sz b n + b ^ (n + 1))
    rw [Nat.succ_div]
    by_cases hd : q ∣ n + 1
    · obtain ⟨m, hm⟩ := hd
      have hmi : (n : Int) + 1 = (q : Int) * (m : Int) := by
        rw [← Int.natCast_mul, ← hm]; rfl
      have hm1 : n / q + 1 = m := by
        have h1 : (n + 1) / q = n / q + 1 := by rw [Nat.succ_div, if_pos ⟨m, hm⟩]
        rw [← h1, hm, Nat.mul_div_cancel_left _ hq]
      have h1 : hits ((q : Int) :: sz) ((n : Int) + 1) = true := by
        unfold hits
        rw [List.any_cons, hmi, Int.mul_emod_right]
        rfl
      rw [if_pos h1, if_pos ⟨m, hm⟩]
      show _ + (if hits sz (((n / q : Nat) : Int) + 1) then ruleV sz (b ^ q) (n / q) else ruleV sz (b ^ q) (n / q) + (b ^ q) ^ (n / q + 1)) = _
      have h2 : (((n / q : Nat) : Int) + 1) = (m : Int) := by rw [← hm1]; rfl
      have h3 : hits sz ((n : Int) + 1) = hits sz (m : Int) := by
        rw [hmi]
        exact hits_mul (by simpa using hc)
      rw [h2, h3, hm1, ← Int.pow_mul, ← hm]
      split <;> omega
    · have h1 : hits ((q : Int) :: sz) ((n : Int) + 1) = hits sz ((n : Int) + 1) := by
        unfold hits
        rw [List.any_cons]
        have : (((n : Int) + 1) % (q : Int) == 0) = false := by
          rw [beq_eq_false_iff_ne]
          intro h
          exact hd (Int.natCast_dvd_natCast.mp (Int.dvd_of_emod_eq_zero (by exact_mod_cast h)))
        rw [this, Bool.false_or]
      rw [h1, if_neg hd]
      simp only [Nat.add_zero]
      split <;> omega
/-- the size of a lot -/
def sizeOf' (x : Int × Int × Int) : Int := x.2.1 ^ x.2.2.toNat
noncomputable def CopAll : List (Int × Int × Int) → Prop
  | [] => True
  | x :: r => (∀ y ∈ r, Nat.Coprime (sizeOf' y).natAbs (sizeOf' x).natAbs) ∧ CopAll r
theorem left_rule : ∀ (lots : List (Int × Int × Int)) (n b : Int), (∀ x ∈ lots, LotOk x.1 x.2.1 x.2.2) → CopAll lots → 1 ≤ n → leftV lots n b = ruleV (lots.map sizeOf') b n.toNat
  | [], n, b, _, _, hn => by
    show tot b (n - 1).toNat = ruleV [] b n.toNat
    rw [tot_rule, show (n - 1).toNat + 1 = n.toNat by omega]
  | (h, p, t) :: r, n, b, ok, hc, hn => by
    have o := ok (h, p, t) (List.mem_cons_self ..)
    have hp1 := o.p1
    have ih := fun n b hn => left_rule r n b (fun x hx => ok x (List.mem_cons_of_mem _ hx)) hc.2 hn
    have hq := one_le_pow hp1 t.toNat
    have hcop := hc.1
    show (if shareV p t n = 0 then leftV r n b else leftV r n b - leftV r (shareV p t n) (b ^ (p ^ t.toNat).toNat)) = ruleV (p ^ t.toNat :: r.map sizeOf') b n.toNat
    rw [shareV_eq hp1 o.t12, ih n b hn]
    have hcop2 : ∀ y ∈ r, Nat.Coprime (sizeOf' y).natAbs (p ^ t.toNat).natAbs := hcop
    generalize p ^ t.toNat = q at hq hcop2 ⊢
    obtain ⟨qn, rfl⟩ := Int.eq_ofNat_of_zero_le (show 0 ≤ q by omega)
    obtain ⟨nn, rfl⟩ := Int.eq_ofNat_of_zero_le (show 0 ≤ n by omega)
    have hs := sieve (sz := r.map sizeOf') (q := qn) b (by omega) (by
      intro x hx
      obtain ⟨y, hy, rfl⟩ := List.mem_map.mp hx
      exact hcop2 y hy) nn
    have e : (nn : Int) / (qn : Int) = ((nn / qn : Nat) : Int) := rfl
    rw [e]
    simp only [Int.toNat_natCast]
    by_cases hz : nn / qn = 0
    · rw [hz] at hs ⊢
      rw [if_pos (show ((0 : Nat) : Int) = 0 from rfl)]
      have : ruleV (r.map sizeOf') (b ^ qn) 0 = 0 := rfl
      omega
    · have hz1 : (1 : Int) ≤ ((nn / qn : Nat) : Int) := Int.ofNat_le.mpr (Nat.pos_of_ne_zero hz)
      rw [if_neg (fun h => by rw [h] at hz1; exact absurd hz1 (by decide)), ih _ _ hz1, Int.toNat_natCast]
      omega
end Mine
-- part DB_sums
namespace Mine
local macro_rules | `(tactic| k_room) => `(tactic| ktr_room)
local macro_rules | `(tactic| k_units) => `(tactic| ktr_units)
abbrev frm {h₀ h : Heap} {L : Addr} {m : Str → Option Value} (_ : Fr h₀ L h m) : Str → Option Value := m
def unI : Value → Int
  | .int n _ => n
  | _ => 0
theorem unI_are : ∀ (ws : List Value), (∀ v ∈ ws, ∃ n t, v = .int n t) → IntsAre ws (ws.map unI)
  | [], _ => .nil
  | v :: r, h => by
    obtain ⟨n, t, rfl⟩ := h v (List.mem_cons_self ..)
    exact .cons n t (unI_are r fun x hx => h x (List.mem_cons_of_mem _ hx))
theorem int_mem : ∀ {vs : List Value} {ns : List Int}, IntsAre vs ns → ∀ v ∈ vs, ∃ n t, v = .int n t
  | _, _, .nil, _, h => nomatch h
  | _, _, .cons n t r, v, h => by
    rcases List.mem_cons.mp h with rfl | h
    · exact ⟨n, t, rfl⟩
    · exact int_mem r v h
def cut (vs : List Value) (lo hi st : Option Int) : List Int := (slicePick vs.toArray lo hi st).toList.map unI
theorem cut_are {vs : List Value} {ns : List Int} (hI : IntsAre vs ns) (lo hi st : Option Int) : IntsAre (slicePick vs.toArray lo hi st).toList (cut vs lo hi st) := by
  refine unI_are _ fun v hv => int_mem hI v ?_
  unfold slicePick at hv
  simp only [List.mem_filterMap] at hv
  obtain ⟨i, _, hi⟩ := hv
  exact List.mem_of_getElem? (by simpa using hi)
section
variable {prog : Program} {w : World} {A : Around} {E : Value → Shared → Prop} {s : Shared}
theorem slice3I {h₀ : Heap} {L l : Addr} {m : Str → Option Value} {news : List (Addr × Obj)} {value slice : PySem.Expr} {vs : List Value} {ns : List Int} {vl vu vk : Value} {lo hi st : Option Int} {ops : List Value} {Q : Value → Shared → Prop}
    (F : Fr h₀ L s.heap m) (N : News h₀ L s.heap news) (hl : s.heap.IsList l vs.toArray) (pl : IsPart vl lo) (pu : IsPart vu hi) (pk : IsPart vk st) (h0 : st ≠ some 0) (hI : IntsAre vs ns) (hlen : ns.length ≤ 63)
    (h : ∀ D ws h', Fr h₀ L h' m → News h₀ L h' ((D, listOf (List.toArray ws) 0) :: news) → (∀ p ∈ news, p.1 < D) → IntsAre ws (cut vs lo hi st) → (cut vs lo hi st).length ≤ 63 → Q (.ref D) { s with heap := h' })
    (hs : subscripted slice false (.ref l) (.ref s.heap.objs.size) = operate ops (getItem (.ref l) (.ref s.heap.objs.size))) (ht : ∀ r, letTemporaryGo value (.ref l) r = pure ()) :
    wpAny (model prog w) A (subscriptTail value slice (.ref l) (.ref s.heap.objs.size)) Q E { s with heap := s.heap.push { cls := .type "slice", data := .fields #[vl, vu, vk] } } := by
  have q := slicePick_size_le vs.toArray lo hi st
  have e := hI.length
  refine kmk_slice3_lit F N hl pl pu pk h0 rfl (fun D h' F' N' l1 => h D _ h' F' N' l1 (cut_are hI lo hi st) ?_) hs ht ?_
  · unfold cut
    have q2 : vs.toArray.size = vs.length := List.size_toArray ..
    rw [List.length_map]
    have q3 : (slicePick vs.toArray lo hi st).toList.length = (slicePick vs.toArray lo hi st).size := Array.length_toList
    omega
  · have q2 : vs.toArray.size = vs.length := List.size_toArray ..
    rw [sizeLine_eq]
    omega
theorem comp_turns {h₀ : Heap} {L : Addr} {m : Str → Option Value} {env : Env} {elt : Expr} {x : Str} {scope : Scope} {cl : List (Str × Addr)} {S : List (Addr × Obj) → Prop} {P : Nat → Value → Prop} {Fin : List Value → List (Addr × Obj) → Prop} {news : List (Addr × Obj)} {n : Nat}
    (J : List Value → Prop) (h0 : J [])
    (turn : ∀ (i : Nat) (ys : List Value) v I oI C oC D m₂ h tk (E' : Value → Shared → Prop), i < n → ys.length = i → J ys → P i v → LCg.NsObj oC m₂ → m₂ x = some v → Fr h₀ L h m → News h₀ L h ((I, oI) :: (C, oC) :: (D, LCg.lst ys) :: news) → LCg.Off3 I C D news → ((@Ne Nat I C) ∧ (@Ne Nat I D) ∧ (@Ne Nat C D)) →
      wpAny (model prog w) A (eval elt (compEnvC scope cl C env)) (LCg.CompEnd h₀ L m { s with heap := h, toks := tk } I oI C oC D (LCg.lst ys) S (fun y news' => news' = news ∧ J (ys ++ [y]))) E' { s with heap := h, toks := tk })
    (fin : ∀ ys : List Value, ys.length = n → J ys → Fin ys news) :
    LCg.CompRest prog w A h₀ L m env elt x scope cl s S P Fin n 0 [] news := by
  have key : ∀ (k i : Nat) (ys : List Value), i + k = n → ys.length = i → J ys → LCg.CompRest prog w A h₀ L m env elt x scope cl s S P Fin k i ys news := by
    intro k
    induction k with
    | zero =>
      intro i ys hi hy ha
      exact LCg.CompRest.zero (fin ys (by omega) ha)
    | succ k ih =>
      intro i ys hi hy ha
      refine LCg.CompRest.succ ?_
      intro v I oI C oC D m₂ h tk E' hP hC hx F N off ne
      refine wpAny_mono (turn i ys v I oI C oC D m₂ h tk E' (by omega) hy ha hP hC hx F N off ne) (fun y s' q => ?_) fun _ _ e => e
      obtain ⟨h', tk', news', e1, F', N', off', hS, rfl, hJ'⟩ := q
      exact ⟨h', tk', _, e1, F', N', off', hS, ih (i + 1) _ (by omega) (by rw [List.length_append, hy]; rfl) hJ'⟩
  exact key n 0 [] (by omega) rfl h0
end
local macro_rules | `(tactic| walk_at "subscriptTail Name Slice ref ref") => `(tactic| (k_here; k_dflt (refine' slice3I ?zF ?zN ?zl ?zp ?zq ?zr ?zo ?zi ?zm ?_ ?zs ?zt); (case zF => k_asm); (case zN => k_asm); (case zl => exact Fr.lst (by k_asm) (by assumption)); (case zp => kmk_part); (case zq => kmk_part); (case zr => kmk_part); (case zo => decide); (case zi => assumption); (case zm => assumption); (case zs => with_unfolding_all rfl); (case zt => kmk_pure); intro D' ws' h' F' N' l1 i1 i2; (try k_lt l1); (try k_sweep)))
set_option maxRecDepth 100000 in
set_option maxHeartbeats 8000000 in
theorem sums_ok {w : World} {mean : ExcName → Option Value} {mg mb : Str → Option Value}
    {dp un : Nat} {gd : Option (List Code)} {cn : Str} {cs : Scope} {a : Addr} {ccd : Value} {cl : List (Str × Addr)} {outer : List Env} {A₀ : Around} {base h₀ : Heap} {L : Addr} {m : Str → Option Value} {rest : List (Addr × Obj)} {s : Shared} {Q E : Value → Shared → Prop} {sa ta : Addr} {k : Nat} {vs : List Value} {ns : List Int} {v0 v1 v2 v3 v4 : Int} {u0 u1 u2 u3 u4 : Tok}
    (B : Below A₀ base outer h₀) (F : Fr h₀ L s.heap m) (X : (Mine.hq.hd.heap_39 w.params).In h₀) (N : News h₀ L s.heap ((ta, ({ cls := .type "tuple", data := .seq (List.toArray [.int v0 u0, .int v1 u1, .int v2 u2, .int v3 u3, .int v4 u4]) k } : Obj)) :: rest))
    (T : Top Mine.hq.hd.view_39 [Str.ofString "Whitespace", Str.ofString "EXACT_TOKEN_TYPES"] mean mg mb h₀) (hk : cs.kind = .function)
    (hL : h₀.IsList sa vs.toArray) (hI : IntsAre vs ns) (hlen : ns.length ≤ 63)
    (hd : dp + 6 < recursionLimit) (hu : un + 60 < cLine)
    (hret : ∀ (D : Addr) (x0 x1 x2 x3 x4 : Int) (t0 t1 t2 t3 t4 : Tok) (kk : Nat) (h' : Heap) (tk' : Nat), Fr h₀ L h' m → News h₀ L h' ((D, ({ cls := .type "list", data := .seq (List.toArray [.int x0 t0, .int x1 t1, .int x2 t2, .int x3 t3, .int x4 t4]) kk } : Obj)) :: (ta, ({ cls := .type "tuple", data := .seq (List.toArray [.int v0 u0, .int v1 u1, .int v2 u2, .int v3 u3, .int v4 u4]) k } : Obj)) :: rest) → Q (.ref D) { s with heap := h', toks := tk' }) :
    wpAny (model PySem.Challenge.rw_wo0066_01.prog w) (ktrTop dp un gd cn cs L a ccd cl outer) (call (.ref 141) [.ref sa, .ref ta]) Q E s := by
  w_top off
  revert X; k_fill; intro X
  refine wpAny_call ?_
  refine' code_defC (binds := [(Str.ofString "script", .ref _), (Str.ofString "starts", .ref _)]) ?k1 ?k2 ?k3 ?k4 ?k5 ?kA ?kF ?kK ?k6 ?k7 ?k8 ?k9 ?kB ?kD ?_ ?c2 ?c3 ?c4
  (case kA => exact rfl)
  (case kF => exact rfl)
  (case kK => assumption)
  (case k1 => k_asm)
  (case k2 => k_asm)
  (case k3 => k_asm)
  (case k4 => k_asm)
  (case k5 => k_asm)
  (case k6 => k_is)
  (case k7 => k_is)
  (case k8 => ktr_room)
  (case k9 => first | exact BindsTo.of_eq rfl | exact BindsTo.of_eq (by with_unfolding_all rfl) | exact BindsTo.of_eq (by decide))
  (case kB => exact rfl)
  (case kD => decide +kernel)
  (case c2 => exact rfl)
  (case c3 => exact rfl)
  (case c4 => exact rfl)
  k_whole
  intro g1 L1 h1 tk1 cells1 FG1 F1 N1 Y1 B1 X1 T1 l1
  k_cells Y1
  try simp only [List.cons_append, List.nil_append] at N1
  try dsimp only
  try k_lift B1
  try k_fold
  have hL1 : g1.IsList sa vs.toArray := Fr.lst FG1 hL
  rename _ = Data.cell _ => d2
  replace d2 : _ = Data.cell (some (Value.ref sa)) := d2
  revert d2
  rename _ = Data.cell _ => d1
  replace d1 : _ = Data.cell (some (Value.ref ta)) := d1
  intro d2
  walk1
  walk1
  refine LCg.ListComp_U (F₀ := F1) (by with_unfolding_all rfl) (by decide) (by rfl) (by decide) (by rfl) ?_ (by intro _; with_unfolding_all rfl)
  (repeat' (first | ((fail_if_success (with_reducible show LCg.CompSrc _ _ _ _ _ _ _ _ _ _ _ _ _ _)); first | (k_unfold; (try dsimp only)) | walk1 | (dsimp only; (fail_if_success (with_reducible show LCg.CompSrc _ _ _ _ _ _ _ _ _ _ _ _ _ _)); walk1))))
  rename IsRange _ _ _ _ _ _ _ _ => hR
  rename Fr _ _ _ _ => F4
  rename News _ _ _ _ => N4
  refine LCg.CompSrc.range (n := 5) (by rfl) F4 N4 hR (by decide) (by decide) (by decide) ?_
  intro g'
  refine comp_turns (fun ys => ∀ v ∈ ys, ∃ n t, v = Value.int n t) (by intro v hv; cases hv) ?turn ?fin
  case turn =>
    intro i ys v I oI C oC D m₂ h2 tk2 E2 hi hys hJ hP hC hx F5 N5 hoff hne
    obtain ⟨t9, rfl⟩ := hP
    clear hR F4 N4
    have hoff0 := hoff
    simp only [LCg.Off3] at hoff
    (repeat' (first | (k_unfold; (try dsimp only)) | walk1 | (dsimp only; walk1)))
    refine LCg.CompEnd.intro (by assumption) (by assumption) _ (fun p hp => List.mem_cons_of_mem _ (List.mem_cons_of_mem _ hp)) hoff0 trivial ⟨rfl, ?_⟩
    intro v hv
    rcases List.mem_append.mp hv with hv | hv
    · exact hJ v hv
    · rw [List.mem_singleton.mp hv]
      exact ⟨_, _, rfl⟩
  case fin =>
    intro ys hlen hJ
    unfold LCg.FinE
    intro D h9 tk9 F9 N9 o9
    clear hR F4 N4 o9
    obtain ⟨y0, y1, y2, y3, y4, rfl⟩ := five hlen
    obtain ⟨x0, t0, rfl⟩ := hJ y0 (by simp)
    obtain ⟨x1, t1, rfl⟩ := hJ y1 (by simp)
    obtain ⟨x2, t2, rfl⟩ := hJ y2 (by simp)
    obtain ⟨x3, t3, rfl⟩ := hJ y3 (by simp)
    obtain ⟨x4, t4, rfl⟩ := hJ y4 (by simp)
    clear hJ
    try dsimp only
    repeat' (first | (k_unfold; (try dsimp only)) | walk1 | (dsimp only; walk1))
    refine hret D x0 x1 x2 x3 x4 t0 t1 t2 t3 t4 5 _ _ (by assumption) ?_
    intro p hp
    refine (by assumption : News h₀ L _ _) p ?_
    rcases List.mem_cons.mp hp with rfl | hp
    · exact List.mem_cons_self ..
    · exact List.mem_cons_of_mem _ (List.mem_cons_of_mem _ (List.mem_cons_of_mem _ hp))
end Mine
-- part DC_order
namespace Mine
local macro_rules | `(tactic| k_room) => `(tactic| ktr_room)
local macro_rules | `(tactic| k_units) => `(tactic| ktr_units)
theorem IntsAre_erase {us : List Value} {l : List Int} (h : IntsAre us l) : ∀ i, IntsAre (us.eraseIdx i) (l.eraseIdx i) := by
  induction h with
  | nil => intro i; exact .nil
  | cons n t r ih =>
    intro i
    cases i with
    | zero => exact r
    | succ i => exact .cons n t (ih i)
theorem IntsAre_split {us : List Value} {l : List Int} (h : IntsAre us l) : ∀ i, i < l.length → ∃ p t q, us = p ++ Value.int (l.getD i 0) t :: q ∧ p.length = i := by
  induction h with
  | nil => intro i hi; exact absurd hi (Nat.not_lt_zero _)
  | cons n t r ih =>
    intro i hi
    cases i with
    | zero => exact ⟨[], t, _, rfl, rfl⟩
    | succ i =>
      obtain ⟨p, t', q, e, hp⟩ := ih i (Nat.lt_of_succ_lt_succ hi)
      exact ⟨.int n t :: p, t', q, by rw [e]; rfl, by rw [List.length_cons, hp]⟩
theorem kcut_of {p q : List Value} {y : Value} : kl_cut (p ++ y :: q) p.length = some (p, y, q) := by
  induction p with
  | nil => rfl
  | cons x p ih =>
    show (match kl_cut (p ++ y :: q) p.length with | some (a, z, b) => some (x :: a, z, b) | none => none) = _
    rw [ih]
section
variable {prog : Program} {w : World} {A : Around} {E : Value → Shared → Prop} {s : Shared} {h₀ : Heap} {L D : Addr} {m : Str → Option Value} {news news' : List (Addr × Obj)} {n : Nat}
theorem pop_sym {us : List Value} {l : List Int} {i : Int} {u : Tok} {k : Nat} {newsF : List Value → List (Addr × Obj)} {Q : Value → Shared → Prop} (F : Fr h₀ L s.heap m) (N : News h₀ L s.heap news) (_hm : (D, listOf us.toArray n) ∈ news) (hi : IntsAre us l) (hk : l.length = k + 1) (h0 : 0 ≤ i) (h1 : i < ((k + 1 : Nat) : Int)) (hz : k ≤ 62)
    (U : ∀ us', Upd D (listOf us.toArray n) (listOf us'.toArray (n + 1)) news (newsF us'))
    (h : ∀ h' t us' l' y, Fr h₀ L h' m → News h₀ L h' (newsF us') → IntsAre us' l' → l'.length = k → l' = l.eraseIdx i.toNat → y = l.getD i.toNat 0 → Q (.int y t) { s with heap := h' }) : wpAny (model prog w) A (call (.builtin "list.pop") [.ref D, .int i u]) Q E s := by
  obtain ⟨p, t, q, e, hp⟩ := IntsAre_split hi i.toNat (by omega)
  have hlen := hi.length
  have e2 : us.eraseIdx i.toNat = p ++ q := by rw [e, ← hp, kl_eraseL]
  have hI := IntsAre_erase hi i.toNat
  refine kl_popAt (k := i.toNat) (p := p) (q := q) F N ?_ ?_ ?_ (U (p ++ q)) ?_ fun h' F' N' => h h' t (p ++ q) (l.eraseIdx i.toNat) _ F' N' (e2 ▸ hI) ?_ rfl rfl
  · unfold Builtin.List.listFitsIndex
    simp
    omega
  · unfold seqIndex?
    simp
    omega
  · show kl_cut us i.toNat = _
    rw [e, ← hp]
    exact kcut_of
  · show us.length ≤ sizeLine
    rw [sizeLine_eq]
    omega
  · rw [List.length_eraseIdx, if_pos (by omega)]
    omega
theorem fm_lo {x f : Int} {k : Nat} (h : f = ((k + 1 : Nat) : Int)) : 0 ≤ x.fmod f := by
  rw [Int.fmod_eq_emod_of_nonneg _ (by omega)]
  exact Int.emod_nonneg _ (by omega)
theorem fm_hi {x f : Int} {k : Nat} (h : f = ((k + 1 : Nat) : Int)) : x.fmod f < ((k + 1 : Nat) : Int) := by
  rw [Int.fmod_eq_emod_of_nonneg _ (by omega), h]
  exact Int.emod_lt_of_pos _ (by omega)
end
def Dist4 (a0 a1 a2 a3 : Int) : Prop := (0 ≤ a0 ∧ a0 ≤ 3) ∧ (0 ≤ a1 ∧ a1 ≤ 3) ∧ (0 ≤ a2 ∧ a2 ≤ 3) ∧ (0 ≤ a3 ∧ a3 ≤ 3) ∧ a0 ≠ a1 ∧ a0 ≠ a2 ∧ a0 ≠ a3 ∧ a1 ≠ a2 ∧ a1 ≠ a3 ∧ a2 ≠ a3
theorem dist_all {c y0 y1 y2 y3 : Int} {l1 l2 l3 : List Int} (hc0 : 0 ≤ c) (hc : c < 24) (e0 : y0 = [0, 1, 2, 3].getD (c.fmod 4).toNat 0) (f1 : l1 = [0, 1, 2, 3].eraseIdx (c.fmod 4).toNat)
    (e1 : y1 = l1.getD ((c.fdiv 4).fmod 3).toNat 0) (f2 : l2 = l1.eraseIdx ((c.fdiv 4).fmod 3).toNat) (e2 : y2 = l2.getD (((c.fdiv 4).fdiv 3).fmod 2).toNat 0) (f3 : l3 = l2.eraseIdx (((c.fdiv 4).fdiv 3).fmod 2).toNat)
    (e3 : y3 = l3.getD ((((c.fdiv 4).fdiv 3).fdiv 2).fmod 1).toNat 0) : Dist4 y0 y1 y2 y3 := by
  obtain ⟨n, rfl⟩ := Int.eq_ofNat_of_zero_le hc0
  subst e0 f1 e1 f2 e2 f3 e3
  have H : ∀ n : Fin 24, (fun c : Int => (fun (i0 i1 i2 i3 : Nat) => (fun (l1 : List Int) => (fun (l2 : List Int) => (fun (l3 : List Int) => (fun (a0 a1 a2 a3 : Int) => (0 ≤ a0 ∧ a0 ≤ 3) ∧ (0 ≤ a1 ∧ a1 ≤ 3) ∧ (0 ≤ a2 ∧ a2 ≤ 3) ∧ (0 ≤ a3 ∧ a3 ≤ 3) ∧ a0 ≠ a1 ∧ a0 ≠ a2 ∧ a0 ≠ a3 ∧ a1 ≠ a2 ∧ a1 ≠ a3 ∧ a2 ≠ a3)
    (([0, 1, 2, 3] : List Int).getD i0 0) (l1.getD i1 0) (l2.getD i2 0) (l3.getD i3 0)) (l2.eraseIdx i2)) (l1.eraseIdx i1)) (([0, 1, 2, 3] : List Int).eraseIdx i0))
    (c.fmod 4).toNat ((c.fdiv 4).fmod 3).toNat (((c.fdiv 4).fdiv 3).fmod 2).toNat ((((c.fdiv 4).fdiv 3).fdiv 2).fmod 1).toNat) ((n.val : Nat) : Int) := by decide
  exact H ⟨n, by omega⟩
set_option maxRecDepth 100000 in
set_option maxHeartbeats 8000000 in
theorem order_ok {w : World} {c : Int} {tc : Tok} (hc0 : 0 ≤ c) (hc : c < 24) {mean : ExcName → Option Value} {mg mb : Str → Option Value}
    {dp un : Nat} {gd : Option (List Code)} {cn : Str} {cs : Scope} {a : Addr} {ccd : Value} {cl : List (Str × Addr)} {outer : List Env} {A₀ : Around} {base h₀ : Heap} {L : Addr} {m : Str → Option Value} {news : List (Addr × Obj)} {s : Shared} {Q E : Value → Shared → Prop}
    (B : Below A₀ base outer h₀) (F : Fr h₀ L s.heap m) (X : (Mine.hq.hd.heap_39 w.params).In h₀) (N : News h₀ L s.heap news)
    (T : Top Mine.hq.hd.view_39 [Str.ofString "Whitespace", Str.ofString "EXACT_TOKEN_TYPES"] mean mg mb h₀) (hk : cs.kind = .function)
    (hd : dp + 6 < recursionLimit)
    (hret : ∀ (D : Addr) (a0 a1 a2 a3 : Int) (t0 t1 t2 t3 : Tok) (kk : Nat) (h' : Heap) (tk' : Nat), Dist4 a0 a1 a2 a3 → LCg.Off1 D news → Fr h₀ L h' m → News h₀ L h' ((D, ({ cls := .type "list", data := .seq (List.toArray [.int a0 t0, .int a1 t1, .int a2 t2, .int a3 t3]) kk } : Obj)) :: news) → Q (.ref D) { s with heap := h', toks := tk' }) :
    wpAny (model PySem.Challenge.rw_wo0066_01.prog w) (ktrTop dp un gd cn cs L a ccd cl outer) (call (.ref 148) [.int c tc]) Q E s := by
  w_top off
  revert X; k_fill; intro X
  refine wpAny_call ?_
  k_dflt (((refine' code_def0 (binds := [(Str.ofString "code", .int _ _)]) ?k1 ?k2 ?k3 ?k4 ?k5 ?kA ?kF ?kK ?k6 ?k7 ?k8 ?k9 ?kB ?kD ?kE ?_ ?c2 ?c3 ?c4; (case kA => exact rfl); (case kF => exact rfl); (case kK => assumption); (case k1 => k_asm); (case k2 => k_asm); (case k3 => k_asm); (case k4 => k_asm); (case k5 => k_asm); (case k6 => k_is); (case k7 => k_is); (case k8 => ktr_room); (case k9 => first | exact BindsTo.of_eq rfl | exact BindsTo.of_eq (by with_unfolding_all rfl) | exact BindsTo.of_eq (by decide)); (case kB => exact rfl); (case kD => decide +kernel); (case kE => exact fun _ => rfl); (case c2 => exact rfl); (case c3 => exact rfl); (case c4 => exact rfl); k_whole; intro g' L' h' tk' FG' F' N' B' X' T' hg9 hl9; (try dsimp only); (try k_lift B'); (try k_fold))))
  repeat' (first | (k_unfold; (try dsimp only)) | (first | ((with_reducible show wpAny _ _ (storeName _ _ _) _ _ _); (k_here; k_dflt (refine' storeX_LL ?F ?N ?_; (case F => k_asm); (case N => k_asm)); intro h' m' F' N')) | ((with_reducible show wpAny _ _ (execs (_ :: _) _) _ _ _); (k_here; refine execs_cons_S ?_; intro q9 s9)) | (k_here; (with_reducible show wpAny _ _ (call (Value.builtin "list.pop") [Value.ref _, Value.int _ _]) _ _ _); k_dflt (refine' pop_sym ?kF ?kN ?km ?ki ?kk ?k0 ?k1 ?kz ?kU ?_; (case kF => k_asm); (case kN => k_asm); (case km => k_mem); (case ki => first | (with_reducible assumption) | exact .cons _ _ (.cons _ _ (.cons _ _ (.cons _ _ .nil)))); (case kk => first | (with_reducible assumption) | assumption | exact rfl); (case k0 => exact fm_lo rfl); (case k1 => exact fm_hi rfl); (case kz => decide); (case kU => (intro us9; k_upd))); intro h' t' us' l' y' F' N' hI' hl' he' hy'; (try dsimp only [List.nil_append, List.cons_append] at N')) | walk1) | (dsimp only; (first | ((with_reducible show wpAny _ _ (storeName _ _ _) _ _ _); (k_here; k_dflt (refine' storeX_LL ?F ?N ?_; (case F => k_asm); (case N => k_asm)); intro h' m' F' N')) | ((with_reducible show wpAny _ _ (execs (_ :: _) _) _ _ _); (k_here; refine execs_cons_S ?_; intro q9 s9)) | (k_here; (with_reducible show wpAny _ _ (call (Value.builtin "list.pop") [Value.ref _, Value.int _ _]) _ _ _); k_dflt (refine' pop_sym ?kF ?kN ?km ?ki ?kk ?k0 ?k1 ?kz ?kU ?_; (case kF => k_asm); (case kN => k_asm); (case km => k_mem); (case ki => first | (with_reducible assumption) | exact .cons _ _ (.cons _ _ (.cons _ _ (.cons _ _ .nil)))); (case kk => first | (with_reducible assumption) | assumption | exact rfl); (case k0 => exact fm_lo rfl); (case k1 => exact fm_hi rfl); (case kz => decide); (case kU => (intro us9; k_upd))); intro h' t' us' l' y' F' N' hI' hl' he' hy'; (try dsimp only [List.nil_append, List.cons_append] at N')) | walk1)))
  rename News h₀ L _ news => Na
  revert Na
  rename News h₀ L _ _ => kN
  revert kN
  rename News _ _ _ _ => kG
  intro kN Na
  have dd := dist_all hc0 hc (by assumption) (by assumption) (by assumption) (by assumption) (by assumption) (by assumption) (by assumption)
  rename (∀ p ∈ news, Heap.get? _ p.1 = some p.2) => hg9
  refine hret _ _ _ _ _ ?t0 ?t1 ?t2 ?t3 ?kk _ _ dd ?oo (by assumption) ?nn
  case oo => exact off1_of hg9 kG (by k_dflt k_mem)
  case nn =>
    intro p hp
    rcases List.mem_cons.mp hp with rfl | hp
    · exact kN _ (by k_dflt k_mem)
    · exact Na p hp
end Mine
-- part DL_lots
namespace Mine
local macro_rules | `(tactic| k_room) => `(tactic| ktr_room)
local macro_rules | `(tactic| k_units) => `(tactic| ktr_units)
section
variable {prog : Program} {w : World} {A : Around} {E : Value → Shared → Prop} {s : Shared} {h₀ : Heap} {L l : Addr} {m : Str → Option Value} {news : List (Addr × Obj)} {value slice : PySem.Expr} {k : Int} {u : Tok} {Q : Value → Shared → Prop}
theorem item_b {vs : List Value} {v : Value} {ks : Nat} (F : Fr h₀ L s.heap m) (hg : h₀.get? l = some ({ cls := .type "list", data := .seq (List.toArray vs) ks } : Obj)) (h0 : 0 ≤ k) (h1 : k < 2 ^ 63) (hx : vs[k.toNat]? = some v) (h : Q v s)
    (hs : subscripted slice false (.ref l) (.int k u) = operate [.ref l, .int k u] (getItem (.ref l) (.int k u)) := by with_unfolding_all rfl) (hgo : ∀ r, letTemporaryGo value (.ref l) r = pure () := by intro _; with_unfolding_all rfl) :
    wpAny (model prog w) A (subscriptTail value slice (.ref l) (.int k u)) Q E s :=
  item_listL ⟨_, F.keep _ _ hg, rfl, _, rfl⟩ h0 h1 hx h hs hgo
theorem item_menuT {vs : List Value} {kt : Nat} (N : News h₀ L s.heap news) (hm : (l, ({ cls := .type "tuple", data := .seq (List.toArray vs) kt } : Obj)) ∈ news) (h0 : 0 ≤ k) (h1 : k < (vs.length : Int)) (hz : vs.length ≤ 100) (h : ∀ x, vs[k.toNat]? = some x → Q x s)
    (hs : subscripted slice false (.ref l) (.int k u) = operate [.ref l, .int k u] (getItem (.ref l) (.int k u)) := by with_unfolding_all rfl) :
    wpAny (model prog w) A (subscriptTail value slice (.ref l) (.int k u)) Q E s := by
  have hlt : k.toNat < vs.length := by omega
  have e : vs[k.toNat]? = some vs[k.toNat] := List.getElem?_eq_getElem hlt
  refine item_tupleT (j := k.toNat) (News.isTup N hm) (by omega) (by omega) ?_ e (h _ e) hs
  unfold seqIndex?
  simp
  omega
structure PairOk (a b : Int) : Prop where
  mem : (a, b) ∈ ([(5, 7), (7, 5), (5, 11), (11, 5), (7, 11), (25, 7), (35, 11), (13, 7)] : List (Int × Int))
def PairAt (h : Heap) (x : Value) : Prop := ∃ P a b ta tb, x = .ref P ∧ IsTup h P (List.toArray [.int a ta, .int b tb]) ∧ PairOk a b
theorem item_pairs {vs : List Value} {kt : Nat} (N : News h₀ L s.heap news) (hm : (l, ({ cls := .type "tuple", data := .seq (List.toArray vs) kt } : Obj)) ∈ news) (h0 : 0 ≤ k) (h1 : k < (vs.length : Int)) (hz : vs.length ≤ 100)
    (hp : ∀ x ∈ vs, PairAt s.heap x) (h : ∀ P a b ta tb, IsTup s.heap P (List.toArray [.int a ta, .int b tb]) → PairOk a b → Q (.ref P) s)
    (hs : subscripted slice false (.ref l) (.int k u) = operate [.ref l, .int k u] (getItem (.ref l) (.int k u)) := by with_unfolding_all rfl) :
    wpAny (model prog w) A (subscriptTail value slice (.ref l) (.int k u)) Q E s := by
  refine item_menuT N hm h0 h1 hz (fun x hx => ?_) hs
  obtain ⟨P, a, b, ta, tb, rfl, ht, ho⟩ := hp x (List.mem_of_getElem? hx)
  exact h P a b ta tb ht ho
theorem news_nil {h : Heap} (_N : News h₀ L h news) : News h₀ L h [] := fun p hp => nomatch hp
theorem dist_b {a0 a1 a2 a3 : Int} (d : Dist4 a0 a1 a2 a3) : (0 ≤ a0 ∧ a0 ≤ 3) ∧ (0 ≤ a1 ∧ a1 ≤ 3) ∧ (0 ≤ a2 ∧ a2 ≤ 3) ∧ (0 ≤ a3 ∧ a3 ≤ 3) := ⟨d.1, d.2.1, d.2.2.1, d.2.2.2.1⟩
structure MenuOk (ns : List Int) (k y : Int) : Prop where
  eq : y = ns.getD k.toNat 0
theorem news_put {h : Heap} {x : Addr × Obj} {led rest : List (Addr × Obj)} (N : News h₀ L h led) (hm : x ∈ led) (r : News h₀ L h rest) : News h₀ L h (x :: rest) := by
  intro p hp
  rcases List.mem_cons.mp hp with rfl | hp
  · exact N _ hm
  · exact r p hp
def T12 (c : Int) : Prop := c = 1 ∨ c = 2
theorem t12 (x : Int) : T12 (1 + x.fmod 2) := by
  rw [Int.fmod_eq_emod_of_nonneg _ (by omega)]
  unfold T12
  omega
theorem ints_at {vs : List Value} {ns : List Int} (h : IntsAre vs ns) : ∀ i x, vs[i]? = some x → ∃ t, x = Value.int (ns.getD i 0) t := by
  induction h with
  | nil => intro i x e; simp at e
  | cons n t r ih =>
    intro i x e
    cases i with
    | zero => simp at e; exact ⟨t, e.symm⟩
    | succ i => simpa using ih i x (by simpa using e)
theorem item_ints {vs : List Value} {ns : List Int} {kt : Nat} (N : News h₀ L s.heap news) (hm : (l, ({ cls := .type "tuple", data := .seq (List.toArray vs) kt } : Obj)) ∈ news) (hi : IntsAre vs ns) (h0 : 0 ≤ k) (h1 : k < (ns.length : Int)) (hz : ns.length ≤ 100) (h : ∀ y t, MenuOk ns k y → Q (.int y t) s)
    (hs : subscripted slice false (.ref l) (.int k u) = operate [.ref l, .int k u] (getItem (.ref l) (.int k u)) := by with_unfolding_all rfl) :
    wpAny (model prog w) A (subscriptTail value slice (.ref l) (.int k u)) Q E s := by
  have hlen := hi.length
  refine item_menuT N hm h0 (by omega) (by omega) (fun x hx => ?_) hs
  obtain ⟨t, rfl⟩ := ints_at hi _ _ hx
  exact h _ t ⟨rfl⟩
end
def LotsRaw (a0 a1 a2 a3 p0 p1 p2 p3 c0 c1 c2 c3 : Int) : Prop :=
  ∃ u v, Dist4 a0 a1 a2 a3 ∧ PairOk u v ∧ MenuOk [2, 3, u, v] a0 p0 ∧ MenuOk [2, 3, u, v] a1 p1 ∧ MenuOk [2, 3, u, v] a2 p2 ∧ MenuOk [2, 3, u, v] a3 p3 ∧ T12 c0 ∧ T12 c1 ∧ T12 c2 ∧ T12 c3
set_option maxRecDepth 100000 in
set_option maxHeartbeats 8000000 in
theorem lots_ok {w : World} {S : Addr} {x0 x1 x2 x3 x4 : Int} {u0 u1 u2 u3 u4 : Tok} {ks : Nat} {mean : ExcName → Option Value} {mg mb : Str → Option Value}
    {dp un : Nat} {gd : Option (List Code)} {cn : Str} {cs : Scope} {a : Addr} {ccd : Value} {cl : List (Str × Addr)} {outer : List Env} {A₀ : Around} {base h₀ : Heap} {L : Addr} {m : Str → Option Value} {news : List (Addr × Obj)} {s : Shared} {Q E : Value → Shared → Prop}
    (B : Below A₀ base outer h₀) (F : Fr h₀ L s.heap m) (X : (Mine.hq.hd.heap_39 w.params).In h₀) (N : News h₀ L s.heap news)
    (T : Top Mine.hq.hd.view_39 [Str.ofString "Whitespace", Str.ofString "EXACT_TOKEN_TYPES"] mean mg mb h₀) (hk : cs.kind = .function)
    (hS : (S, ({ cls := .type "list", data := .seq (List.toArray [.int x0 u0, .int x1 u1, .int x2 u2, .int x3 u3, .int x4 u4]) ks } : Obj)) ∈ news)
    (hd : dp + 8 < recursionLimit)
    (hret : ∀ (D T0 T1 T2 T3 : Addr) (a0 a1 a2 a3 p0 p1 p2 p3 c0 c1 c2 c3 : Int) (ta0 ta1 ta2 ta3 tp0 tp1 tp2 tp3 tc0 tc1 tc2 tc3 : Tok) (kk k0 k1 k2 k3 : Nat) (h' : Heap) (tk' : Nat), LotsRaw a0 a1 a2 a3 p0 p1 p2 p3 c0 c1 c2 c3 → Fr h₀ L h' m →
      News h₀ L h' ((D, ({ cls := .type "list", data := .seq (List.toArray [.ref T0, .ref T1, .ref T2, .ref T3]) kk } : Obj)) :: (T0, ({ cls := .type "tuple", data := .seq (List.toArray [.int a0 ta0, .int p0 tp0, .int c0 tc0]) k0 } : Obj)) :: (T1, ({ cls := .type "tuple", data := .seq (List.toArray [.int a1 ta1, .int p1 tp1, .int c1 tc1]) k1 } : Obj)) ::
        (T2, ({ cls := .type "tuple", data := .seq (List.toArray [.int a2 ta2, .int p2 tp2, .int c2 tc2]) k2 } : Obj)) :: (T3, ({ cls := .type "tuple", data := .seq (List.toArray [.int a3 ta3, .int p3 tp3, .int c3 tc3]) k3 } : Obj)) :: news) → Q (.ref D) { s with heap := h', toks := tk' }) :
    wpAny (model PySem.Challenge.rw_wo0066_01.prog w) (ktrTop dp un gd cn cs L a ccd cl outer) (call (.ref 155) [.ref S]) Q E s := by
  w_top off
  revert X; k_fill; intro X
  refine wpAny_call ?_
  k_dflt (((refine' code_def0 (binds := [(Str.ofString "sums", .ref _)]) ?k1 ?k2 ?k3 ?k4 ?k5 ?kA ?kF ?kK ?k6 ?k7 ?k8 ?k9 ?kB ?kD ?kE ?_ ?c2 ?c3 ?c4; (case kA => exact rfl); (case kF => exact rfl); (case kK => assumption); (case k1 => k_asm); (case k2 => k_asm); (case k3 => k_asm); (case k4 => k_asm); (case k5 => k_asm); (case k6 => k_is); (case k7 => k_is); (case k8 => ktr_room); (case k9 => first | exact BindsTo.of_eq rfl | exact BindsTo.of_eq (by with_unfolding_all rfl) | exact BindsTo.of_eq (by decide)); (case kB => exact rfl); (case kD => decide +kernel); (case kE => exact fun _ => rfl); (case c2 => exact rfl); (case c3 => exact rfl); (case c4 => exact rfl); k_whole; intro g' L' h' tk' FG' F' N' B' X' T' hg9 hl9; (try dsimp only); (try k_lift B'); (try k_fold))))
  rename (∀ p ∈ news, _) => hg9
  have hS9 := hg9 _ hS
  clear hg9
  (repeat' (first | ((fail_if_success (with_reducible show wpAny _ _ (execs (Stmt.Assign [Expr.Name (Str.ofString "lots") _] _ _ :: _) _) _ _ _)); first | (k_unfold; (try dsimp only)) | (first | ((with_reducible show wpAny _ _ (storeName _ _ _) _ _ _); (k_here; k_dflt (refine' storeX_LL ?F ?N ?_; (case F => k_asm); (case N => k_asm)); intro h' m' F' N')) | ((with_reducible show wpAny _ _ (execs (_ :: _) _) _ _ _); (k_here; refine execs_cons_S ?_; intro q9 s9)) | ((with_reducible show wpAny _ _ (call (Value.ref _) _) _ _ _); (k_here; k_dflt (show wpAny _ _ (call (Value.ref 148) [Value.int _ _]) _ _ _); k_dflt (refine' order_ok (fm_lo rfl) (fm_hi rfl) ?zB ?zF ?zX ?zN ?zT ?zk ?zd ?_); (case zB => k_asm); (case zF => k_asm); (case zX => k_asm); (case zN => k_asm); (case zT => k_asm); (case zk => first | exact rfl | assumption); (case zd => ktr_room); intro D9 a9 b9 c9 d9 t9 t9 t9 t9 k9 h9 tk9 dd9 oo9 F9 N9; (try simp only [LCg.Off1, and_true] at oo9); (obtain ⟨⟨q0, q1⟩, ⟨q2, q3⟩, ⟨q4, q5⟩, ⟨q6, q7⟩⟩ := dist_b dd9); (try dsimp only); (try k_fold))) | (k_here; (with_reducible show wpAny _ _ (subscriptTail _ (Expr.Name (Str.ofString "hand") _) (Value.ref _) (Value.int _ _)) _ _ _); k_dflt (refine' item_ints ?kN ?km ?ki ?k0 ?k1 ?kz ?_; (case kN => k_asm); (case km => k_mem); (case ki => exact .cons _ _ (.cons _ _ (.cons _ _ (.cons _ _ .nil)))); (case k0 => omega); (case k1 => (simp only [List.length_cons, List.length_nil]; omega)); (case kz => exact Nat.le_of_ble_eq_true rfl); (intro y9 t9 hy9))) | (k_here; (with_reducible show wpAny _ _ (subscriptTail _ (Expr.BinOp _ _ _ _) (Value.ref _) (Value.int _ _)) _ _ _); k_dflt (refine' item_pairs ?kN ?km ?k0 ?k1 ?kz ?kp ?_; (case kN => k_asm); (case km => k_mem); (case k0 => exact fm_lo rfl); (case k1 => exact fm_hi rfl); (case kz => exact Nat.le_of_ble_eq_true rfl); (case kp => (repeat' (first | exact List.forall_mem_nil _ | refine List.forall_mem_cons.mpr ⟨?_, ?_⟩ | exact ⟨_, _, _, _, _, rfl, News.isTup (by k_asm) (by k_mem), ⟨by decide⟩⟩)))); (intro P9 pa9 pb9 pta9 ptb9 hP9 hok9); (try dsimp only at hP9)) | (k_here; (with_reducible show wpAny _ _ (subscriptTail (Expr.Name (Str.ofString "sums") _) _ (Value.ref _) (Value.int _ _)) _ _ _); k_dflt (refine' item_b ?kF ?kg ?k0 ?k1 ?kx ?_); (case kF => k_asm); (case kg => assumption); (case k0 => decide); (case k1 => decide); (case kx => rfl)) | walk1) | (dsimp only; (fail_if_success (with_reducible show wpAny _ _ (execs (Stmt.Assign [Expr.Name (Str.ofString "lots") _] _ _ :: _) _) _ _ _)); (first | ((with_reducible show wpAny _ _ (storeName _ _ _) _ _ _); (k_here; k_dflt (refine' storeX_LL ?F ?N ?_; (case F => k_asm); (case N => k_asm)); intro h' m' F' N')) | ((with_reducible show wpAny _ _ (execs (_ :: _) _) _ _ _); (k_here; refine execs_cons_S ?_; intro q9 s9)) | ((with_reducible show wpAny _ _ (call (Value.ref _) _) _ _ _); (k_here; k_dflt (show wpAny _ _ (call (Value.ref 148) [Value.int _ _]) _ _ _); k_dflt (refine' order_ok (fm_lo rfl) (fm_hi rfl) ?zB ?zF ?zX ?zN ?zT ?zk ?zd ?_); (case zB => k_asm); (case zF => k_asm); (case zX => k_asm); (case zN => k_asm); (case zT => k_asm); (case zk => first | exact rfl | assumption); (case zd => ktr_room); intro D9 a9 b9 c9 d9 t9 t9 t9 t9 k9 h9 tk9 dd9 oo9 F9 N9; (try simp only [LCg.Off1, and_true] at oo9); (obtain ⟨⟨q0, q1⟩, ⟨q2, q3⟩, ⟨q4, q5⟩, ⟨q6, q7⟩⟩ := dist_b dd9); (try dsimp only); (try k_fold))) | (k_here; (with_reducible show wpAny _ _ (subscriptTail _ (Expr.Name (Str.ofString "hand") _) (Value.ref _) (Value.int _ _)) _ _ _); k_dflt (refine' item_ints ?kN ?km ?ki ?k0 ?k1 ?kz ?_; (case kN => k_asm); (case km => k_mem); (case ki => exact .cons _ _ (.cons _ _ (.cons _ _ (.cons _ _ .nil)))); (case k0 => omega); (case k1 => (simp only [List.length_cons, List.length_nil]; omega)); (case kz => exact Nat.le_of_ble_eq_true rfl); (intro y9 t9 hy9))) | (k_here; (with_reducible show wpAny _ _ (subscriptTail _ (Expr.BinOp _ _ _ _) (Value.ref _) (Value.int _ _)) _ _ _); k_dflt (refine' item_pairs ?kN ?km ?k0 ?k1 ?kz ?kp ?_; (case kN => k_asm); (case km => k_mem); (case k0 => exact fm_lo rfl); (case k1 => exact fm_hi rfl); (case kz => exact Nat.le_of_ble_eq_true rfl); (case kp => (repeat' (first | exact List.forall_mem_nil _ | refine List.forall_mem_cons.mpr ⟨?_, ?_⟩ | exact ⟨_, _, _, _, _, rfl, News.isTup (by k_asm) (by k_mem), ⟨by decide⟩⟩)))); (intro P9 pa9 pb9 pta9 ptb9 hP9 hok9); (try dsimp only at hP9)) | (k_here; (with_reducible show wpAny _ _ (subscriptTail (Expr.Name (Str.ofString "sums") _) _ (Value.ref _) (Value.int _ _)) _ _ _); k_dflt (refine' item_b ?kF ?kg ?k0 ?k1 ?kx ?_); (case kF => k_asm); (case kg => assumption); (case k0 => decide); (case k1 => decide); (case kx => rfl)) | walk1)))))
  rename News _ _ _ _ => N1
  have N0 := news_nil N1
  rename IsTup _ _ _ => hT1
  clear N1 hT1
  refine wpAny_execs_cons ?_
  dsimp only
  repeat' (first | (k_unfold; (try dsimp only)) | (first | ((with_reducible show wpAny _ _ (storeName _ _ _) _ _ _); (k_here; k_dflt (refine' storeX_LL ?F ?N ?_; (case F => k_asm); (case N => k_asm)); intro h' m' F' N')) | ((with_reducible show wpAny _ _ (execs (_ :: _) _) _ _ _); (k_here; refine execs_cons_S ?_; intro q9 s9)) | ((with_reducible show wpAny _ _ (call (Value.ref _) _) _ _ _); (k_here; k_dflt (show wpAny _ _ (call (Value.ref 148) [Value.int _ _]) _ _ _); k_dflt (refine' order_ok (fm_lo rfl) (fm_hi rfl) ?zB ?zF ?zX ?zN ?zT ?zk ?zd ?_); (case zB => k_asm); (case zF => k_asm); (case zX => k_asm); (case zN => k_asm); (case zT => k_asm); (case zk => first | exact rfl | assumption); (case zd => ktr_room); intro D9 a9 b9 c9 d9 t9 t9 t9 t9 k9 h9 tk9 dd9 oo9 F9 N9; (try simp only [LCg.Off1, and_true] at oo9); (obtain ⟨⟨q0, q1⟩, ⟨q2, q3⟩, ⟨q4, q5⟩, ⟨q6, q7⟩⟩ := dist_b dd9); (try dsimp only); (try k_fold))) | (k_here; (with_reducible show wpAny _ _ (subscriptTail _ (Expr.Name (Str.ofString "hand") _) (Value.ref _) (Value.int _ _)) _ _ _); k_dflt (refine' item_ints ?kN ?km ?ki ?k0 ?k1 ?kz ?_; (case kN => k_asm); (case km => k_mem); (case ki => exact .cons _ _ (.cons _ _ (.cons _ _ (.cons _ _ .nil)))); (case k0 => omega); (case k1 => (simp only [List.length_cons, List.length_nil]; omega)); (case kz => exact Nat.le_of_ble_eq_true rfl); (intro y9 t9 hy9))) | (k_here; (with_reducible show wpAny _ _ (subscriptTail _ (Expr.BinOp _ _ _ _) (Value.ref _) (Value.int _ _)) _ _ _); k_dflt (refine' item_pairs ?kN ?km ?k0 ?k1 ?kz ?kp ?_; (case kN => k_asm); (case km => k_mem); (case k0 => exact fm_lo rfl); (case k1 => exact fm_hi rfl); (case kz => exact Nat.le_of_ble_eq_true rfl); (case kp => (repeat' (first | exact List.forall_mem_nil _ | refine List.forall_mem_cons.mpr ⟨?_, ?_⟩ | exact ⟨_, _, _, _, _, rfl, News.isTup (by k_asm) (by k_mem), ⟨by decide⟩⟩)))); (intro P9 pa9 pb9 pta9 ptb9 hP9 hok9); (try dsimp only at hP9)) | (k_here; (with_reducible show wpAny _ _ (subscriptTail (Expr.Name (Str.ofString "sums") _) _ (Value.ref _) (Value.int _ _)) _ _ _); k_dflt (refine' item_b ?kF ?kg ?k0 ?k1 ?kx ?_); (case kF => k_asm); (case kg => assumption); (case k0 => decide); (case k1 => decide); (case kx => rfl)) | walk1) | (dsimp only; (first | ((with_reducible show wpAny _ _ (storeName _ _ _) _ _ _); (k_here; k_dflt (refine' storeX_LL ?F ?N ?_; (case F => k_asm); (case N => k_asm)); intro h' m' F' N')) | ((with_reducible show wpAny _ _ (execs (_ :: _) _) _ _ _); (k_here; refine execs_cons_S ?_; intro q9 s9)) | ((with_reducible show wpAny _ _ (call (Value.ref _) _) _ _ _); (k_here; k_dflt (show wpAny _ _ (call (Value.ref 148) [Value.int _ _]) _ _ _); k_dflt (refine' order_ok (fm_lo rfl) (fm_hi rfl) ?zB ?zF ?zX ?zN ?zT ?zk ?zd ?_); (case zB => k_asm); (case zF => k_asm); (case zX => k_asm); (case zN => k_asm); (case zT => k_asm); (case zk => first | exact rfl | assumption); (case zd => ktr_room); intro D9 a9 b9 c9 d9 t9 t9 t9 t9 k9 h9 tk9 dd9 oo9 F9 N9; (try simp only [LCg.Off1, and_true] at oo9); (obtain ⟨⟨q0, q1⟩, ⟨q2, q3⟩, ⟨q4, q5⟩, ⟨q6, q7⟩⟩ := dist_b dd9); (try dsimp only); (try k_fold))) | (k_here; (with_reducible show wpAny _ _ (subscriptTail _ (Expr.Name (Str.ofString "hand") _) (Value.ref _) (Value.int _ _)) _ _ _); k_dflt (refine' item_ints ?kN ?km ?ki ?k0 ?k1 ?kz ?_; (case kN => k_asm); (case km => k_mem); (case ki => exact .cons _ _ (.cons _ _ (.cons _ _ (.cons _ _ .nil)))); (case k0 => omega); (case k1 => (simp only [List.length_cons, List.length_nil]; omega)); (case kz => exact Nat.le_of_ble_eq_true rfl); (intro y9 t9 hy9))) | (k_here; (with_reducible show wpAny _ _ (subscriptTail _ (Expr.BinOp _ _ _ _) (Value.ref _) (Value.int _ _)) _ _ _); k_dflt (refine' item_pairs ?kN ?km ?k0 ?k1 ?kz ?kp ?_; (case kN => k_asm); (case km => k_mem); (case k0 => exact fm_lo rfl); (case k1 => exact fm_hi rfl); (case kz => exact Nat.le_of_ble_eq_true rfl); (case kp => (repeat' (first | exact List.forall_mem_nil _ | refine List.forall_mem_cons.mpr ⟨?_, ?_⟩ | exact ⟨_, _, _, _, _, rfl, News.isTup (by k_asm) (by k_mem), ⟨by decide⟩⟩)))); (intro P9 pa9 pb9 pta9 ptb9 hP9 hok9); (try dsimp only at hP9)) | (k_here; (with_reducible show wpAny _ _ (subscriptTail (Expr.Name (Str.ofString "sums") _) _ (Value.ref _) (Value.int _ _)) _ _ _); k_dflt (refine' item_b ?kF ?kg ?k0 ?k1 ?kx ?_); (case kF => k_asm); (case kg => assumption); (case k0 => decide); (case k1 => decide); (case kx => rfl)) | walk1)))
  rename News h₀ L _ news => Na
  revert Na
  rename News h₀ L _ _ => kN
  intro Na
  refine' hret _ _ _ _ _ _ _ _ _ _ _ _ _ _ _ _ _ _ _ _ _ _ _ _ _ _ _ _ _ _ _ _ _ _ _ _ ?ff (by assumption) ?nn
  case nn => exact news_put kN (by k_dflt k_mem) (news_put kN (by k_dflt k_mem) (news_put kN (by k_dflt k_mem) (news_put kN (by k_dflt k_mem) (news_put kN (by k_dflt k_mem) Na))))
  case ff => exact ⟨_, _, by assumption, by assumption, by assumption, by assumption, by assumption, by assumption, t12 _, t12 _, t12 _, t12 _⟩
end Mine
-- part DM_pure
namespace Mine
def pairsL : List (Int × Int) := [(5, 7), (7, 5), (5, 11), (11, 5), (7, 11), (25, 7), (35, 11), (13, 7)]
theorem menu_cop : ∀ x ∈ pairsL, ∀ a b : Fin 4, a ≠ b → Nat.Coprime (([2, 3, x.1, x.2] : List Int).getD a.val 0).natAbs (([2, 3, x.1, x.2] : List Int).getD b.val 0).natAbs := by decide
theorem menu_lo : ∀ x ∈ pairsL, ∀ a : Fin 4, 1 ≤ ([2, 3, x.1, x.2] : List Int).getD a.val 0 ∧ ([2, 3, x.1, x.2] : List Int).getD a.val 0 ≤ 40 := by decide
theorem lot_ok {u v a p c : Int} (h0 : 0 ≤ a) (h3 : a ≤ 3) (hp : PairOk u v) (hm : MenuOk [2, 3, u, v] a p) (hc : T12 c) : LotOk a p c := by
  have h := menu_lo (u, v) hp.mem ⟨a.toNat, by omega⟩
  have e := hm.eq
  dsimp only at h
  rw [← e] at h
  refine ⟨h0, h3, h.1, h.2, ?_, ?_, hc⟩
  · intro h; subst h; exact e
  · intro h; subst h; exact e
theorem cop2 {u v a b p q : Int} (a0 : 0 ≤ a ∧ a ≤ 3) (b0 : 0 ≤ b ∧ b ≤ 3) (hne : b ≠ a) (hp : PairOk u v) (ha : MenuOk [2, 3, u, v] a p) (hb : MenuOk [2, 3, u, v] b q) (c d : Int) : Nat.Coprime (q ^ d.toNat).natAbs (p ^ c.toNat).natAbs := by
  have h := menu_cop (u, v) hp.mem ⟨b.toNat, by omega⟩ ⟨a.toNat, by omega⟩ (by intro e; have := Fin.mk.inj e; omega)
  dsimp only at h
  rw [← ha.eq, ← hb.eq] at h
  rw [Int.natAbs_pow, Int.natAbs_pow]
  exact Nat.Coprime.pow _ _ h
theorem lots_pure {a0 a1 a2 a3 p0 p1 p2 p3 c0 c1 c2 c3 : Int} (h : LotsRaw a0 a1 a2 a3 p0 p1 p2 p3 c0 c1 c2 c3) :
    (∀ x ∈ ([(a0, p0, c0), (a1, p1, c1), (a2, p2, c2), (a3, p3, c3)] : List (Int × Int × Int)), LotOk x.1 x.2.1 x.2.2) ∧ CopAll [(a0, p0, c0), (a1, p1, c1), (a2, p2, c2), (a3, p3, c3)] := by
  obtain ⟨u, v, ⟨r0, r1, r2, r3, n01, n02, n03, n12, n13, n23⟩, hp, m0, m1, m2, m3, t0, t1, t2, t3⟩ := h
  constructor
  · intro x hx
    simp only [List.mem_cons, List.not_mem_nil, or_false] at hx
    rcases hx with rfl | rfl | rfl | rfl
    · exact lot_ok r0.1 r0.2 hp m0 t0
    · exact lot_ok r1.1 r1.2 hp m1 t1
    · exact lot_ok r2.1 r2.2 hp m2 t2
    · exact lot_ok r3.1 r3.2 hp m3 t3
  · refine ⟨?_, ?_, ?_, ?_, trivial⟩
    · intro y hy
      simp only [List.mem_cons, List.not_mem_nil, or_false] at hy
      rcases hy with rfl | rfl | rfl
      · exact cop2 r0 r1 (Ne.symm n01) hp m0 m1 _ _
      · exact cop2 r0 r2 (Ne.symm n02) hp m0 m2 _ _
      · exact cop2 r0 r3 (Ne.symm n03) hp m0 m3 _ _
    · intro y hy
      simp only [List.mem_cons, List.not_mem_nil, or_false] at hy
      rcases hy with rfl | rfl
      · exact cop2 r1 r2 (Ne.symm n12) hp m1 m2 _ _
      · exact cop2 r1 r3 (Ne.symm n13) hp m1 m3 _ _
    · intro y hy
      simp only [List.mem_cons, List.not_mem_nil, or_false] at hy
      subst hy
      exact cop2 r2 r3 (Ne.symm n23) hp m2 m3 _ _
    · intro y hy
      cases hy
theorem top_base {x0 x4 : Int} : BaseOk (20 + x0.fmod 29) (2 + x4.fmod 9) := by
  rw [Int.fmod_eq_emod_of_nonneg _ (by omega), Int.fmod_eq_emod_of_nonneg _ (by omega)]
  refine ⟨by omega, by omega, by omega, ?_⟩
  have h1 : (2 + x4 % 9) ≤ 10 := by omega
  have h2 : (0 : Int) ≤ 2 + x4 % 9 := by omega
  refine Int.le_trans (pow_le_pow (by omega) (k := 48) (by omega)) ?_
  unfold Big
  generalize 2 + x4 % 9 = b at h1 h2
  have : ∀ k : Nat, b ^ k ≤ 10 ^ k := by
    intro k
    induction k with
    | zero => simp
    | succ k ih =>
      rw [Int.pow_succ, Int.pow_succ]
      exact Int.mul_le_mul ih h1 h2 (Int.pow_nonneg (by decide))
  exact this 48
end Mine
-- part DT_top
namespace Mine
theorem top_n1 {x : Int} : 1 ≤ 20 + x.fmod 29 := (top_base (x0 := x) (x4 := 0)).n1
theorem top_n48 {x : Int} : 20 + x.fmod 29 ≤ 48 := (top_base (x0 := x) (x4 := 0)).n48
theorem top_b2 {x : Int} : 2 ≤ 2 + x.fmod 9 := (top_base (x0 := 0) (x4 := x)).b2
theorem top_b10 {x : Int} : 2 + x.fmod 9 ≤ 10 := by
  rw [Int.fmod_eq_emod_of_nonneg _ (by omega)]
  omega
theorem pow1 {a p c : Int} (h : LotOk a p c) : 1 ≤ p ^ c.toNat := one_le_pow h.p1 _
theorem lots4 {x0 x1 x2 x3 : Int × Int × Int} (h : ∀ x ∈ [x0, x1, x2, x3], LotOk x.1 x.2.1 x.2.2) : LotOk x0.1 x0.2.1 x0.2.2 ∧ LotOk x1.1 x1.2.1 x1.2.2 ∧ LotOk x2.1 x2.2.1 x2.2.2 ∧ LotOk x3.1 x3.2.1 x3.2.2 :=
  ⟨h _ (by simp), h _ (by simp), h _ (by simp), h _ (by simp)⟩
theorem lots_in4 {news : List (Addr × Obj)} {l T0 T1 T2 T3 : Addr} {kk k0 k1 k2 k3 : Nat} {a0 a1 a2 a3 p0 p1 p2 p3 c0 c1 c2 c3 : Int} {ta0 ta1 ta2 ta3 tp0 tp1 tp2 tp3 tc0 tc1 tc2 tc3 : Tok}
    (h : (l, ({ cls := .type "list", data := .seq (List.toArray [.ref T0, .ref T1, .ref T2, .ref T3]) kk } : Obj)) ∈ news) (h0 : (T0, ({ cls := .type "tuple", data := .seq (List.toArray [.int a0 ta0, .int p0 tp0, .int c0 tc0]) k0 } : Obj)) ∈ news)
    (h1 : (T1, ({ cls := .type "tuple", data := .seq (List.toArray [.int a1 ta1, .int p1 tp1, .int c1 tc1]) k1 } : Obj)) ∈ news) (h2 : (T2, ({ cls := .type "tuple", data := .seq (List.toArray [.int a2 ta2, .int p2 tp2, .int c2 tc2]) k2 } : Obj)) ∈ news)
    (h3 : (T3, ({ cls := .type "tuple", data := .seq (List.toArray [.int a3 ta3, .int p3 tp3, .int c3 tc3]) k3 } : Obj)) ∈ news) : LotsIn news l [(a0, p0, c0), (a1, p1, c1), (a2, p2, c2), (a3, p3, c3)] :=
  ⟨_, _, h, by
    show (_ ∧ _ ∧ _ ∧ _ ∧ True)
    exact ⟨⟨_, _, _, _, _, rfl, h0⟩, ⟨_, _, _, _, _, rfl, h1⟩, ⟨_, _, _, _, _, rfl, h2⟩, ⟨_, _, _, _, _, rfl, h3⟩, trivial⟩⟩
theorem left4 {w : World} {x0 x1 x2 x3 : Int × Int × Int} (h : ∀ x ∈ [x0, x1, x2, x3], LotOk x.1 x.2.1 x.2.2) (n b : Int) (tn tb : Tok) (l : Addr) (hb : BaseOk n b) :
    Cal w 183 14 112 (fun news => LotsIn news l [x0, x1, x2, x3]) [.int n tn, .ref l, .int b tb] (fun t => .int (leftV [x0, x1, x2, x3] n b) t) := left_ok w _ h (Nat.le_of_ble_eq_true rfl) n b tn tb l hb
theorem goodWG_bool {c : ClaimW} {cl : Str → Option Addr} {mean : ExcName → Option Value} {args : List WData} {s₁ s' : Shared} {L : Addr} {m : Str → Option Value} {b : Bool} (hb : b = true) (F : Fr s₁.heap L s'.heap m) (hg : AllBare s'.gens) (hn : ∀ cls, c.raises args cls = false)
    (hp : c.post args (.bool true) args = true) (hos : s'.os = s₁.os) : GoodWG c cl mean args s₁ (.ok (.ret (.bool b))) s' := by
  subst hb
  exact ⟨.inl ⟨_, _, [], rfl, hn, .bool true, hp, fun _ => ⟨List.nodup_nil, fun a ha => nomatch ha⟩⟩, .of_keep F.keep, hos, hg⟩
theorem snocJ {l : List Int} {ys : List Value} {i : Nat} {z : Int} {t : Tok} (hJ : ∀ j y, ys[j]? = some y → ∃ t, y = Value.int (l.getD j 0) t) (hi : ys.length = i) (hz : z = l.getD i 0) :
    ∀ j y, (ys ++ [Value.int z t])[j]? = some y → ∃ t, y = Value.int (l.getD j 0) t := by
  intro j y hy
  rcases Nat.lt_trichotomy j ys.length with h | h | h
  · rw [List.getElem?_append_left h] at hy
    exact hJ j y hy
  · rw [List.getElem?_append_right (by omega)] at hy
    have : j - ys.length = 0 := by omega
    rw [this] at hy
    simp at hy
    subst hy
    exact ⟨t, by rw [hz, ← hi, h]⟩
  · rw [List.getElem?_append_right (by omega), List.getElem?_eq_none (by simp; omega)] at hy
    cases hy
section
variable {prog : Program} {w : World} {A : Around} {E : Value → Shared → Prop} {s : Shared} {Q : Value → Shared → Prop}
theorem pow_lot {a p c : Int} {t u : Tok} (h : LotOk a p c) (hq : Q (.int (p ^ c.toNat) s.toks) { s with toks := s.toks + 1 }) : wpAny (model prog w) A (binaryOp .Pow (.int p t) (.int c u)) Q E s := by
  have h1 := h.p1
  have h2 := h.p40
  refine pow_int_small ?_ ?_ ?_ hq
  · rcases h.t12 with e | e <;> omega
  · rcases h.t12 with e | e <;> omega
  · omega
end
abbrev frm4 {h₀ h : Heap} {L : Addr} {m : Str → Option Value} (_ : Fr h₀ L h m) : Str → Option Value := m
set_option maxRecDepth 100000 in
set_option maxHeartbeats 8000000 in
theorem top_ok : PySem.Challenge.rw_wo0066_01.Holds := hq.hd (by
  k_fill
  intro w s₀ s₁ mg mb G Y fa o pm cd doc dV kV ho hd hcd hD hmg hg args vals as hpre hlay hrd hwl hlo
  have KX := kIn_of Y
  have X := (Ground.X G).1
  have V := (Ground.X G).2
  refine Ground.open G ?_
  intro T B D TE TW
  obtain ⟨_, _, M⟩ := bmod_of_top T
  have TA := at_of_top T
  obtain ⟨_, _, he, B0⟩ := based_of_top T rfl hmg ho hd; have he' : cd = _ := he; subst he'; clear he
  clear hmg
  wrow_args hpre hlay hrd hwl hlo
  have hgb : AllBare s₁.gens := AllBare.of_eq hg
  refine enter_call ?_
  w_top on
  have K0 : Below callerA s₁.heap [] s₁.heap := below_caller _
  w_call any ho hd hcd hD T F
  clear hd TA
  k_drop
  all_goals (try k_fold)
  (repeat' (first | ((fail_if_success (with_reducible show wpAny _ _ (call (Value.ref _) [Value.ref _]) _ _ _)); first | (k_unfold; (try dsimp only)) | (first | ((with_reducible show wpAny _ _ (storeName _ _ _) _ _ _); (k_here; k_dflt (refine' storeX_LL ?F ?N ?_; (case F => k_asm); (case N => k_asm)); intro h' m' F' N')) | ((with_reducible show wpAny _ _ (execs (_ :: _) _) _ _ _); (k_here; refine execs_cons_S ?_; intro q9 s9)) | (k_here; (with_reducible show wpAny _ _ (call (Value.ref _) [Value.int _ _, Value.ref _, Value.int _ _]) _ _ _); k_dflt (k_dflt (show wpAny _ _ (call (Value.ref 188) _) _ _ _); k_dflt (refine' Cal.use (rule_ok top_n1 top_n48 top_b2 top_b10 ?z1 ?z2 ?z3 ?z4) ?zB ?zF ?zX ?zN ?zT ?zk ?zp ?zg ?zd ?zu ?_); (((case zB => k_asm); (case zF => k_asm); (case zX => k_asm); (case zN => k_asm); (case zT => k_asm); (case zk => k_dflt (first | exact rfl | assumption)))); (case zp => k_dflt k_mem); (case z1 => exact pow1 (by assumption)); (case z2 => exact pow1 (by assumption)); (case z3 => exact pow1 (by assumption)); (case z4 => exact pow1 (by assumption)); (case zg => (first | assumption | (dsimp only; assumption))); (case zd => ktr_room); (case zu => ktr_units)); intro t9 h9 tk9 gs9 F9 N9 hg9; (try dsimp only); (try k_fold)) | (k_here; (with_reducible show wpAny _ _ (call (Value.ref _) [Value.int _ _, Value.ref _, Value.int _ _]) _ _ _); k_dflt (k_dflt (show wpAny _ _ (call (Value.ref 183) _) _ _ _); k_dflt (refine' Cal.use (left4 ?z1 _ _ _ _ _ ?z3) ?zB ?zF ?zX ?zN ?zT ?zk ?zp ?zg ?zd ?zu ?_); (case z1 => k_dflt assumption); (case z3 => exact top_base); (((case zB => k_asm); (case zF => k_asm); (case zX => k_asm); (case zN => k_asm); (case zT => k_asm); (case zk => k_dflt (first | exact rfl | assumption)))); (case zp => exact lots_in4 (by k_dflt k_mem) (by k_dflt k_mem) (by k_dflt k_mem) (by k_dflt k_mem) (by k_dflt k_mem)); (case zg => (first | assumption | (dsimp only; assumption))); (case zd => ktr_room); (case zu => ktr_units)); intro t9 h9 tk9 gs9 F9 N9 hg9; (try dsimp only); (try k_fold)) | (k_here; (with_reducible show wpAny _ _ (call (Value.ref _) [Value.ref _, Value.ref _]) _ _ _); k_dflt (k_dflt (show wpAny _ _ (call (Value.ref 141) _) _ _ _); k_dflt (refine' sums_ok ?zB ?zF ?zX ?zN ?zT ?zk ?zL ?zI ?zl ?zd ?zu ?_); (((case zB => k_asm); (case zF => k_asm); (case zX => k_asm); (case zN => k_asm); (case zT => k_asm); (case zk => k_dflt (first | exact rfl | assumption)))); (case zL => k_dflt assumption); (case zI => k_dflt assumption); (case zl => k_dflt (first | assumption | omega)); (case zd => ktr_room); (case zu => ktr_units)); intro D9 x0 x1 x2 x3 x4 t0 t1 t2 t3 t4 k9 h9 tk9 F9 N9; (try dsimp only); (try k_fold)) | ((with_reducible show wpAny _ _ (binaryOp Operator.Pow (Value.int _ _) (Value.int _ _)) _ _ _); (k_here; k_dflt (refine' pow_lot ?kh ?_; (case kh => assumption)))) | (k_here; (with_reducible show wpAny _ _ (subscriptTail (Expr.Name (Str.ofString "one") _) _ (Value.ref _) (Value.int _ _)) _ _ _); k_dflt (refine' item_tupleT (News.isTup ?kN ?km) ?k0 ?k1 ?kj ?kx ?_; (case kN => k_asm); (case km => k_mem); (case k0 => decide); (case k1 => decide); (case kj => rfl); (case kx => rfl))) | (k_here; (with_reducible show wpAny _ _ (subscriptTail (Expr.Name (Str.ofString "heaps") _) _ (Value.ref _) (Value.int _ _)) _ _ _); k_dflt (refine' kim_list ?kN ?km ?kc ?kd ?k0 ?k1 ?kx ?_; (case kN => k_asm); (case km => k_mem); (case kc => rfl); (case kd => rfl); (case k0 => decide); (case k1 => decide); (case kx => rfl))) | walk1) | (dsimp only; (fail_if_success (with_reducible show wpAny _ _ (call (Value.ref _) [Value.ref _]) _ _ _)); (first | ((with_reducible show wpAny _ _ (storeName _ _ _) _ _ _); (k_here; k_dflt (refine' storeX_LL ?F ?N ?_; (case F => k_asm); (case N => k_asm)); intro h' m' F' N')) | ((with_reducible show wpAny _ _ (execs (_ :: _) _) _ _ _); (k_here; refine execs_cons_S ?_; intro q9 s9)) | (k_here; (with_reducible show wpAny _ _ (call (Value.ref _) [Value.int _ _, Value.ref _, Value.int _ _]) _ _ _); k_dflt (k_dflt (show wpAny _ _ (call (Value.ref 188) _) _ _ _); k_dflt (refine' Cal.use (rule_ok top_n1 top_n48 top_b2 top_b10 ?z1 ?z2 ?z3 ?z4) ?zB ?zF ?zX ?zN ?zT ?zk ?zp ?zg ?zd ?zu ?_); (((case zB => k_asm); (case zF => k_asm); (case zX => k_asm); (case zN => k_asm); (case zT => k_asm); (case zk => k_dflt (first | exact rfl | assumption)))); (case zp => k_dflt k_mem); (case z1 => exact pow1 (by assumption)); (case z2 => exact pow1 (by assumption)); (case z3 => exact pow1 (by assumption)); (case z4 => exact pow1 (by assumption)); (case zg => (first | assumption | (dsimp only; assumption))); (case zd => ktr_room); (case zu => ktr_units)); intro t9 h9 tk9 gs9 F9 N9 hg9; (try dsimp only); (try k_fold)) | (k_here; (with_reducible show wpAny _ _ (call (Value.ref _) [Value.int _ _, Value.ref _, Value.int _ _]) _ _ _); k_dflt (k_dflt (show wpAny _ _ (call (Value.ref 183) _) _ _ _); k_dflt (refine' Cal.use (left4 ?z1 _ _ _ _ _ ?z3) ?zB ?zF ?zX ?zN ?zT ?zk ?zp ?zg ?zd ?zu ?_); (case z1 => k_dflt assumption); (case z3 => exact top_base); (((case zB => k_asm); (case zF => k_asm); (case zX => k_asm); (case zN => k_asm); (case zT => k_asm); (case zk => k_dflt (first | exact rfl | assumption)))); (case zp => exact lots_in4 (by k_dflt k_mem) (by k_dflt k_mem) (by k_dflt k_mem) (by k_dflt k_mem) (by k_dflt k_mem)); (case zg => (first | assumption | (dsimp only; assumption))); (case zd => ktr_room); (case zu => ktr_units)); intro t9 h9 tk9 gs9 F9 N9 hg9; (try dsimp only); (try k_fold)) | (k_here; (with_reducible show wpAny _ _ (call (Value.ref _) [Value.ref _, Value.ref _]) _ _ _); k_dflt (k_dflt (show wpAny _ _ (call (Value.ref 141) _) _ _ _); k_dflt (refine' sums_ok ?zB ?zF ?zX ?zN ?zT ?zk ?zL ?zI ?zl ?zd ?zu ?_); (((case zB => k_asm); (case zF => k_asm); (case zX => k_asm); (case zN => k_asm); (case zT => k_asm); (case zk => k_dflt (first | exact rfl | assumption)))); (case zL => k_dflt assumption); (case zI => k_dflt assumption); (case zl => k_dflt (first | assumption | omega)); (case zd => ktr_room); (case zu => ktr_units)); intro D9 x0 x1 x2 x3 x4 t0 t1 t2 t3 t4 k9 h9 tk9 F9 N9; (try dsimp only); (try k_fold)) | ((with_reducible show wpAny _ _ (binaryOp Operator.Pow (Value.int _ _) (Value.int _ _)) _ _ _); (k_here; k_dflt (refine' pow_lot ?kh ?_; (case kh => assumption)))) | (k_here; (with_reducible show wpAny _ _ (subscriptTail (Expr.Name (Str.ofString "one") _) _ (Value.ref _) (Value.int _ _)) _ _ _); k_dflt (refine' item_tupleT (News.isTup ?kN ?km) ?k0 ?k1 ?kj ?kx ?_; (case kN => k_asm); (case km => k_mem); (case k0 => decide); (case k1 => decide); (case kj => rfl); (case kx => rfl))) | (k_here; (with_reducible show wpAny _ _ (subscriptTail (Expr.Name (Str.ofString "heaps") _) _ (Value.ref _) (Value.int _ _)) _ _ _); k_dflt (refine' kim_list ?kN ?km ?kc ?kd ?k0 ?k1 ?kx ?_; (case kN => k_asm); (case km => k_mem); (case kc => rfl); (case kd => rfl); (case k0 => decide); (case k1 => decide); (case kx => rfl))) | walk1)))))
  k_dflt (refine' lots_ok ?zB ?zF ?zX ?zN ?zT ?zk ?zS ?zd ?_)
  (((case zB => k_asm); (case zF => k_asm); (case zX => k_asm); (case zN => k_asm); (case zT => k_asm); (case zk => k_dflt (first | exact rfl | assumption))))
  (case zS => k_dflt k_mem)
  (case zd => ktr_room)
  intro Dl T0 T1 T2 T3 a0 a1 a2 a3 p0 p1 p2 p3 c0 c1 c2 c3 ta0 ta1 ta2 ta3 tp0 tp1 tp2 tp3 tc0 tc1 tc2 tc3 kk k0 k1 k2 k3 h9 tk9 hraw F9 N9
  obtain ⟨lp1, lp2⟩ := lots_pure hraw
  obtain ⟨lk0, lk1, lk2, lk3⟩ := lots4 lp1
  dsimp only at lk0 lk1 lk2 lk3
  clear hraw
  try dsimp only
  try k_fold
  (repeat' (first | ((fail_if_success (with_reducible show wpAny _ _ (eval (Expr.ListComp _ _ _ _) _) _ _ _)); first | (k_unfold; (try dsimp only)) | (first | ((with_reducible show wpAny _ _ (storeName _ _ _) _ _ _); (k_here; k_dflt (refine' storeX_LL ?F ?N ?_; (case F => k_asm); (case N => k_asm)); intro h' m' F' N')) | ((with_reducible show wpAny _ _ (execs (_ :: _) _) _ _ _); (k_here; refine execs_cons_S ?_; intro q9 s9)) | (k_here; (with_reducible show wpAny _ _ (call (Value.ref _) [Value.int _ _, Value.ref _, Value.int _ _]) _ _ _); k_dflt (k_dflt (show wpAny _ _ (call (Value.ref 188) _) _ _ _); k_dflt (refine' Cal.use (rule_ok top_n1 top_n48 top_b2 top_b10 ?z1 ?z2 ?z3 ?z4) ?zB ?zF ?zX ?zN ?zT ?zk ?zp ?zg ?zd ?zu ?_); (((case zB => k_asm); (case zF => k_asm); (case zX => k_asm); (case zN => k_asm); (case zT => k_asm); (case zk => k_dflt (first | exact rfl | assumption)))); (case zp => k_dflt k_mem); (case z1 => exact pow1 (by assumption)); (case z2 => exact pow1 (by assumption)); (case z3 => exact pow1 (by assumption)); (case z4 => exact pow1 (by assumption)); (case zg => (first | assumption | (dsimp only; assumption))); (case zd => ktr_room); (case zu => ktr_units)); intro t9 h9 tk9 gs9 F9 N9 hg9; (try dsimp only); (try k_fold)) | (k_here; (with_reducible show wpAny _ _ (call (Value.ref _) [Value.int _ _, Value.ref _, Value.int _ _]) _ _ _); k_dflt (k_dflt (show wpAny _ _ (call (Value.ref 183) _) _ _ _); k_dflt (refine' Cal.use (left4 ?z1 _ _ _ _ _ ?z3) ?zB ?zF ?zX ?zN ?zT ?zk ?zp ?zg ?zd ?zu ?_); (case z1 => k_dflt assumption); (case z3 => exact top_base); (((case zB => k_asm); (case zF => k_asm); (case zX => k_asm); (case zN => k_asm); (case zT => k_asm); (case zk => k_dflt (first | exact rfl | assumption)))); (case zp => exact lots_in4 (by k_dflt k_mem) (by k_dflt k_mem) (by k_dflt k_mem) (by k_dflt k_mem) (by k_dflt k_mem)); (case zg => (first | assumption | (dsimp only; assumption))); (case zd => ktr_room); (case zu => ktr_units)); intro t9 h9 tk9 gs9 F9 N9 hg9; (try dsimp only); (try k_fold)) | (k_here; (with_reducible show wpAny _ _ (call (Value.ref _) [Value.ref _, Value.ref _]) _ _ _); k_dflt (k_dflt (show wpAny _ _ (call (Value.ref 141) _) _ _ _); k_dflt (refine' sums_ok ?zB ?zF ?zX ?zN ?zT ?zk ?zL ?zI ?zl ?zd ?zu ?_); (((case zB => k_asm); (case zF => k_asm); (case zX => k_asm); (case zN => k_asm); (case zT => k_asm); (case zk => k_dflt (first | exact rfl | assumption)))); (case zL => k_dflt assumption); (case zI => k_dflt assumption); (case zl => k_dflt (first | assumption | omega)); (case zd => ktr_room); (case zu => ktr_units)); intro D9 x0 x1 x2 x3 x4 t0 t1 t2 t3 t4 k9 h9 tk9 F9 N9; (try dsimp only); (try k_fold)) | ((with_reducible show wpAny _ _ (binaryOp Operator.Pow (Value.int _ _) (Value.int _ _)) _ _ _); (k_here; k_dflt (refine' pow_lot ?kh ?_; (case kh => assumption)))) | (k_here; (with_reducible show wpAny _ _ (subscriptTail (Expr.Name (Str.ofString "one") _) _ (Value.ref _) (Value.int _ _)) _ _ _); k_dflt (refine' item_tupleT (News.isTup ?kN ?km) ?k0 ?k1 ?kj ?kx ?_; (case kN => k_asm); (case km => k_mem); (case k0 => decide); (case k1 => decide); (case kj => rfl); (case kx => rfl))) | (k_here; (with_reducible show wpAny _ _ (subscriptTail (Expr.Name (Str.ofString "heaps") _) _ (Value.ref _) (Value.int _ _)) _ _ _); k_dflt (refine' kim_list ?kN ?km ?kc ?kd ?k0 ?k1 ?kx ?_; (case kN => k_asm); (case km => k_mem); (case kc => rfl); (case kd => rfl); (case k0 => decide); (case k1 => decide); (case kx => rfl))) | walk1) | (dsimp only; (fail_if_success (with_reducible show wpAny _ _ (eval (Expr.ListComp _ _ _ _) _) _ _ _)); (first | ((with_reducible show wpAny _ _ (storeName _ _ _) _ _ _); (k_here; k_dflt (refine' storeX_LL ?F ?N ?_; (case F => k_asm); (case N => k_asm)); intro h' m' F' N')) | ((with_reducible show wpAny _ _ (execs (_ :: _) _) _ _ _); (k_here; refine execs_cons_S ?_; intro q9 s9)) | (k_here; (with_reducible show wpAny _ _ (call (Value.ref _) [Value.int _ _, Value.ref _, Value.int _ _]) _ _ _); k_dflt (k_dflt (show wpAny _ _ (call (Value.ref 188) _) _ _ _); k_dflt (refine' Cal.use (rule_ok top_n1 top_n48 top_b2 top_b10 ?z1 ?z2 ?z3 ?z4) ?zB ?zF ?zX ?zN ?zT ?zk ?zp ?zg ?zd ?zu ?_); (((case zB => k_asm); (case zF => k_asm); (case zX => k_asm); (case zN => k_asm); (case zT => k_asm); (case zk => k_dflt (first | exact rfl | assumption)))); (case zp => k_dflt k_mem); (case z1 => exact pow1 (by assumption)); (case z2 => exact pow1 (by assumption)); (case z3 => exact pow1 (by assumption)); (case z4 => exact pow1 (by assumption)); (case zg => (first | assumption | (dsimp only; assumption))); (case zd => ktr_room); (case zu => ktr_units)); intro t9 h9 tk9 gs9 F9 N9 hg9; (try dsimp only); (try k_fold)) | (k_here; (with_reducible show wpAny _ _ (call (Value.ref _) [Value.int _ _, Value.ref _, Value.int _ _]) _ _ _); k_dflt (k_dflt (show wpAny _ _ (call (Value.ref 183) _) _ _ _); k_dflt (refine' Cal.use (left4 ?z1 _ _ _ _ _ ?z3) ?zB ?zF ?zX ?zN ?zT ?zk ?zp ?zg ?zd ?zu ?_); (case z1 => k_dflt assumption); (case z3 => exact top_base); (((case zB => k_asm); (case zF => k_asm); (case zX => k_asm); (case zN => k_asm); (case zT => k_asm); (case zk => k_dflt (first | exact rfl | assumption)))); (case zp => exact lots_in4 (by k_dflt k_mem) (by k_dflt k_mem) (by k_dflt k_mem) (by k_dflt k_mem) (by k_dflt k_mem)); (case zg => (first | assumption | (dsimp only; assumption))); (case zd => ktr_room); (case zu => ktr_units)); intro t9 h9 tk9 gs9 F9 N9 hg9; (try dsimp only); (try k_fold)) | (k_here; (with_reducible show wpAny _ _ (call (Value.ref _) [Value.ref _, Value.ref _]) _ _ _); k_dflt (k_dflt (show wpAny _ _ (call (Value.ref 141) _) _ _ _); k_dflt (refine' sums_ok ?zB ?zF ?zX ?zN ?zT ?zk ?zL ?zI ?zl ?zd ?zu ?_); (((case zB => k_asm); (case zF => k_asm); (case zX => k_asm); (case zN => k_asm); (case zT => k_asm); (case zk => k_dflt (first | exact rfl | assumption)))); (case zL => k_dflt assumption); (case zI => k_dflt assumption); (case zl => k_dflt (first | assumption | omega)); (case zd => ktr_room); (case zu => ktr_units)); intro D9 x0 x1 x2 x3 x4 t0 t1 t2 t3 t4 k9 h9 tk9 F9 N9; (try dsimp only); (try k_fold)) | ((with_reducible show wpAny _ _ (binaryOp Operator.Pow (Value.int _ _) (Value.int _ _)) _ _ _); (k_here; k_dflt (refine' pow_lot ?kh ?_; (case kh => assumption)))) | (k_here; (with_reducible show wpAny _ _ (subscriptTail (Expr.Name (Str.ofString "one") _) _ (Value.ref _) (Value.int _ _)) _ _ _); k_dflt (refine' item_tupleT (News.isTup ?kN ?km) ?k0 ?k1 ?kj ?kx ?_; (case kN => k_asm); (case km => k_mem); (case k0 => decide); (case k1 => decide); (case kj => rfl); (case kx => rfl))) | (k_here; (with_reducible show wpAny _ _ (subscriptTail (Expr.Name (Str.ofString "heaps") _) _ (Value.ref _) (Value.int _ _)) _ _ _); k_dflt (refine' kim_list ?kN ?km ?kc ?kd ?k0 ?k1 ?kx ?_; (case kN => k_asm); (case km => k_mem); (case kc => rfl); (case kd => rfl); (case k0 => decide); (case k1 => decide); (case kx => rfl))) | walk1)))))
  rename Fr _ _ _ _ => F1
  refine LCg.ListComp_U (F₀ := F1) (by with_unfolding_all rfl) (by decide) (by rfl) (by decide) (by rfl) ?_ (by intro _; with_unfolding_all rfl)
  (repeat' (first | ((fail_if_success (with_reducible show LCg.CompSrc _ _ _ _ _ _ _ _ _ _ _ _ _ _)); first | (k_unfold; (try dsimp only)) | (first | ((with_reducible show wpAny _ _ (storeName _ _ _) _ _ _); (k_here; k_dflt (refine' storeX_LL ?F ?N ?_; (case F => k_asm); (case N => k_asm)); intro h' m' F' N')) | ((with_reducible show wpAny _ _ (execs (_ :: _) _) _ _ _); (k_here; refine execs_cons_S ?_; intro q9 s9)) | (k_here; (with_reducible show wpAny _ _ (call (Value.ref _) [Value.int _ _, Value.ref _, Value.int _ _]) _ _ _); k_dflt (k_dflt (show wpAny _ _ (call (Value.ref 188) _) _ _ _); k_dflt (refine' Cal.use (rule_ok top_n1 top_n48 top_b2 top_b10 ?z1 ?z2 ?z3 ?z4) ?zB ?zF ?zX ?zN ?zT ?zk ?zp ?zg ?zd ?zu ?_); (((case zB => k_asm); (case zF => k_asm); (case zX => k_asm); (case zN => k_asm); (case zT => k_asm); (case zk => k_dflt (first | exact rfl | assumption)))); (case zp => k_dflt k_mem); (case z1 => exact pow1 (by assumption)); (case z2 => exact pow1 (by assumption)); (case z3 => exact pow1 (by assumption)); (case z4 => exact pow1 (by assumption)); (case zg => (first | assumption | (dsimp only; assumption))); (case zd => ktr_room); (case zu => ktr_units)); intro t9 h9 tk9 gs9 F9 N9 hg9; (try dsimp only); (try k_fold)) | (k_here; (with_reducible show wpAny _ _ (call (Value.ref _) [Value.int _ _, Value.ref _, Value.int _ _]) _ _ _); k_dflt (k_dflt (show wpAny _ _ (call (Value.ref 183) _) _ _ _); k_dflt (refine' Cal.use (left4 ?z1 _ _ _ _ _ ?z3) ?zB ?zF ?zX ?zN ?zT ?zk ?zp ?zg ?zd ?zu ?_); (case z1 => k_dflt assumption); (case z3 => exact top_base); (((case zB => k_asm); (case zF => k_asm); (case zX => k_asm); (case zN => k_asm); (case zT => k_asm); (case zk => k_dflt (first | exact rfl | assumption)))); (case zp => exact lots_in4 (by k_dflt k_mem) (by k_dflt k_mem) (by k_dflt k_mem) (by k_dflt k_mem) (by k_dflt k_mem)); (case zg => (first | assumption | (dsimp only; assumption))); (case zd => ktr_room); (case zu => ktr_units)); intro t9 h9 tk9 gs9 F9 N9 hg9; (try dsimp only); (try k_fold)) | (k_here; (with_reducible show wpAny _ _ (call (Value.ref _) [Value.ref _, Value.ref _]) _ _ _); k_dflt (k_dflt (show wpAny _ _ (call (Value.ref 141) _) _ _ _); k_dflt (refine' sums_ok ?zB ?zF ?zX ?zN ?zT ?zk ?zL ?zI ?zl ?zd ?zu ?_); (((case zB => k_asm); (case zF => k_asm); (case zX => k_asm); (case zN => k_asm); (case zT => k_asm); (case zk => k_dflt (first | exact rfl | assumption)))); (case zL => k_dflt assumption); (case zI => k_dflt assumption); (case zl => k_dflt (first | assumption | omega)); (case zd => ktr_room); (case zu => ktr_units)); intro D9 x0 x1 x2 x3 x4 t0 t1 t2 t3 t4 k9 h9 tk9 F9 N9; (try dsimp only); (try k_fold)) | ((with_reducible show wpAny _ _ (binaryOp Operator.Pow (Value.int _ _) (Value.int _ _)) _ _ _); (k_here; k_dflt (refine' pow_lot ?kh ?_; (case kh => assumption)))) | (k_here; (with_reducible show wpAny _ _ (subscriptTail (Expr.Name (Str.ofString "one") _) _ (Value.ref _) (Value.int _ _)) _ _ _); k_dflt (refine' item_tupleT (News.isTup ?kN ?km) ?k0 ?k1 ?kj ?kx ?_; (case kN => k_asm); (case km => k_mem); (case k0 => decide); (case k1 => decide); (case kj => rfl); (case kx => rfl))) | (k_here; (with_reducible show wpAny _ _ (subscriptTail (Expr.Name (Str.ofString "heaps") _) _ (Value.ref _) (Value.int _ _)) _ _ _); k_dflt (refine' kim_list ?kN ?km ?kc ?kd ?k0 ?k1 ?kx ?_; (case kN => k_asm); (case km => k_mem); (case kc => rfl); (case kd => rfl); (case k0 => decide); (case k1 => decide); (case kx => rfl))) | walk1) | (dsimp only; (fail_if_success (with_reducible show LCg.CompSrc _ _ _ _ _ _ _ _ _ _ _ _ _ _)); (first | ((with_reducible show wpAny _ _ (storeName _ _ _) _ _ _); (k_here; k_dflt (refine' storeX_LL ?F ?N ?_; (case F => k_asm); (case N => k_asm)); intro h' m' F' N')) | ((with_reducible show wpAny _ _ (execs (_ :: _) _) _ _ _); (k_here; refine execs_cons_S ?_; intro q9 s9)) | (k_here; (with_reducible show wpAny _ _ (call (Value.ref _) [Value.int _ _, Value.ref _, Value.int _ _]) _ _ _); k_dflt (k_dflt (show wpAny _ _ (call (Value.ref 188) _) _ _ _); k_dflt (refine' Cal.use (rule_ok top_n1 top_n48 top_b2 top_b10 ?z1 ?z2 ?z3 ?z4) ?zB ?zF ?zX ?zN ?zT ?zk ?zp ?zg ?zd ?zu ?_); (((case zB => k_asm); (case zF => k_asm); (case zX => k_asm); (case zN => k_asm); (case zT => k_asm); (case zk => k_dflt (first | exact rfl | assumption)))); (case zp => k_dflt k_mem); (case z1 => exact pow1 (by assumption)); (case z2 => exact pow1 (by assumption)); (case z3 => exact pow1 (by assumption)); (case z4 => exact pow1 (by assumption)); (case zg => (first | assumption | (dsimp only; assumption))); (case zd => ktr_room); (case zu => ktr_units)); intro t9 h9 tk9 gs9 F9 N9 hg9; (try dsimp only); (try k_fold)) | (k_here; (with_reducible show wpAny _ _ (call (Value.ref _) [Value.int _ _, Value.ref _, Value.int _ _]) _ _ _); k_dflt (k_dflt (show wpAny _ _ (call (Value.ref 183) _) _ _ _); k_dflt (refine' Cal.use (left4 ?z1 _ _ _ _ _ ?z3) ?zB ?zF ?zX ?zN ?zT ?zk ?zp ?zg ?zd ?zu ?_); (case z1 => k_dflt assumption); (case z3 => exact top_base); (((case zB => k_asm); (case zF => k_asm); (case zX => k_asm); (case zN => k_asm); (case zT => k_asm); (case zk => k_dflt (first | exact rfl | assumption)))); (case zp => exact lots_in4 (by k_dflt k_mem) (by k_dflt k_mem) (by k_dflt k_mem) (by k_dflt k_mem) (by k_dflt k_mem)); (case zg => (first | assumption | (dsimp only; assumption))); (case zd => ktr_room); (case zu => ktr_units)); intro t9 h9 tk9 gs9 F9 N9 hg9; (try dsimp only); (try k_fold)) | (k_here; (with_reducible show wpAny _ _ (call (Value.ref _) [Value.ref _, Value.ref _]) _ _ _); k_dflt (k_dflt (show wpAny _ _ (call (Value.ref 141) _) _ _ _); k_dflt (refine' sums_ok ?zB ?zF ?zX ?zN ?zT ?zk ?zL ?zI ?zl ?zd ?zu ?_); (((case zB => k_asm); (case zF => k_asm); (case zX => k_asm); (case zN => k_asm); (case zT => k_asm); (case zk => k_dflt (first | exact rfl | assumption)))); (case zL => k_dflt assumption); (case zI => k_dflt assumption); (case zl => k_dflt (first | assumption | omega)); (case zd => ktr_room); (case zu => ktr_units)); intro D9 x0 x1 x2 x3 x4 t0 t1 t2 t3 t4 k9 h9 tk9 F9 N9; (try dsimp only); (try k_fold)) | ((with_reducible show wpAny _ _ (binaryOp Operator.Pow (Value.int _ _) (Value.int _ _)) _ _ _); (k_here; k_dflt (refine' pow_lot ?kh ?_; (case kh => assumption)))) | (k_here; (with_reducible show wpAny _ _ (subscriptTail (Expr.Name (Str.ofString "one") _) _ (Value.ref _) (Value.int _ _)) _ _ _); k_dflt (refine' item_tupleT (News.isTup ?kN ?km) ?k0 ?k1 ?kj ?kx ?_; (case kN => k_asm); (case km => k_mem); (case k0 => decide); (case k1 => decide); (case kj => rfl); (case kx => rfl))) | (k_here; (with_reducible show wpAny _ _ (subscriptTail (Expr.Name (Str.ofString "heaps") _) _ (Value.ref _) (Value.int _ _)) _ _ _); k_dflt (refine' kim_list ?kN ?km ?kc ?kd ?k0 ?k1 ?kx ?_; (case kN => k_asm); (case km => k_mem); (case kc => rfl); (case kd => rfl); (case k0 => decide); (case k1 => decide); (case kx => rfl))) | walk1)))))
  rename Fr _ _ _ _ => F4
  rename News _ _ _ _ => N4
  refine LCg.CompSrc.ledger (by rfl) F4 N4 (by k_dflt k_mem) (by exact Nat.le_of_ble_eq_true rfl) ?_
  intro g'
  refine comp_turns (n := 4) (fun ys => ∀ j y, ys[j]? = some y → ∃ t, y = Value.int ([p0 ^ c0.toNat, p1 ^ c1.toNat, p2 ^ c2.toNat, p3 ^ c3.toNat].getD j 0) t) (by intro j y hy; simp at hy) ?turn ?fin
  case turn =>
    intro i ys v I oI C oC D m₂ h2 tk2 E2 hi hys hJ hP hC hx F5 N5 hoff hne
    clear F4 N4
    rcases (show i = 0 ∨ i = 1 ∨ i = 2 ∨ i = 3 by omega) with rfl | rfl | rfl | rfl
    all_goals (simp at hP; subst hP; (repeat' (first | ((fail_if_success (with_reducible show LCg.CompEnd _ _ _ _ _ _ _ _ _ _ _ _ _ _)); first | (k_unfold; (try dsimp only)) | (first | ((with_reducible show wpAny _ _ (storeName _ _ _) _ _ _); (k_here; k_dflt (refine' storeX_LL ?F ?N ?_; (case F => k_asm); (case N => k_asm)); intro h' m' F' N')) | ((with_reducible show wpAny _ _ (execs (_ :: _) _) _ _ _); (k_here; refine execs_cons_S ?_; intro q9 s9)) | (k_here; (with_reducible show wpAny _ _ (call (Value.ref _) [Value.int _ _, Value.ref _, Value.int _ _]) _ _ _); k_dflt (k_dflt (show wpAny _ _ (call (Value.ref 188) _) _ _ _); k_dflt (refine' Cal.use (rule_ok top_n1 top_n48 top_b2 top_b10 ?z1 ?z2 ?z3 ?z4) ?zB ?zF ?zX ?zN ?zT ?zk ?zp ?zg ?zd ?zu ?_); (((case zB => k_asm); (case zF => k_asm); (case zX => k_asm); (case zN => k_asm); (case zT => k_asm); (case zk => k_dflt (first | exact rfl | assumption)))); (case zp => k_dflt k_mem); (case z1 => exact pow1 (by assumption)); (case z2 => exact pow1 (by assumption)); (case z3 => exact pow1 (by assumption)); (case z4 => exact pow1 (by assumption)); (case zg => (first | assumption | (dsimp only; assumption))); (case zd => ktr_room); (case zu => ktr_units)); intro t9 h9 tk9 gs9 F9 N9 hg9; (try dsimp only); (try k_fold)) | (k_here; (with_reducible show wpAny _ _ (call (Value.ref _) [Value.int _ _, Value.ref _, Value.int _ _]) _ _ _); k_dflt (k_dflt (show wpAny _ _ (call (Value.ref 183) _) _ _ _); k_dflt (refine' Cal.use (left4 ?z1 _ _ _ _ _ ?z3) ?zB ?zF ?zX ?zN ?zT ?zk ?zp ?zg ?zd ?zu ?_); (case z1 => k_dflt assumption); (case z3 => exact top_base); (((case zB => k_asm); (case zF => k_asm); (case zX => k_asm); (case zN => k_asm); (case zT => k_asm); (case zk => k_dflt (first | exact rfl | assumption)))); (case zp => exact lots_in4 (by k_dflt k_mem) (by k_dflt k_mem) (by k_dflt k_mem) (by k_dflt k_mem) (by k_dflt k_mem)); (case zg => (first | assumption | (dsimp only; assumption))); (case zd => ktr_room); (case zu => ktr_units)); intro t9 h9 tk9 gs9 F9 N9 hg9; (try dsimp only); (try k_fold)) | (k_here; (with_reducible show wpAny _ _ (call (Value.ref _) [Value.ref _, Value.ref _]) _ _ _); k_dflt (k_dflt (show wpAny _ _ (call (Value.ref 141) _) _ _ _); k_dflt (refine' sums_ok ?zB ?zF ?zX ?zN ?zT ?zk ?zL ?zI ?zl ?zd ?zu ?_); (((case zB => k_asm); (case zF => k_asm); (case zX => k_asm); (case zN => k_asm); (case zT => k_asm); (case zk => k_dflt (first | exact rfl | assumption)))); (case zL => k_dflt assumption); (case zI => k_dflt assumption); (case zl => k_dflt (first | assumption | omega)); (case zd => ktr_room); (case zu => ktr_units)); intro D9 x0 x1 x2 x3 x4 t0 t1 t2 t3 t4 k9 h9 tk9 F9 N9; (try dsimp only); (try k_fold)) | ((with_reducible show wpAny _ _ (binaryOp Operator.Pow (Value.int _ _) (Value.int _ _)) _ _ _); (k_here; k_dflt (refine' pow_lot ?kh ?_; (case kh => assumption)))) | (k_here; (with_reducible show wpAny _ _ (subscriptTail (Expr.Name (Str.ofString "one") _) _ (Value.ref _) (Value.int _ _)) _ _ _); k_dflt (refine' item_tupleT (News.isTup ?kN ?km) ?k0 ?k1 ?kj ?kx ?_; (case kN => k_asm); (case km => k_mem); (case k0 => decide); (case k1 => decide); (case kj => rfl); (case kx => rfl))) | (k_here; (with_reducible show wpAny _ _ (subscriptTail (Expr.Name (Str.ofString "heaps") _) _ (Value.ref _) (Value.int _ _)) _ _ _); k_dflt (refine' kim_list ?kN ?km ?kc ?kd ?k0 ?k1 ?kx ?_; (case kN => k_asm); (case km => k_mem); (case kc => rfl); (case kd => rfl); (case k0 => decide); (case k1 => decide); (case kx => rfl))) | walk1) | (dsimp only; (fail_if_success (with_reducible show LCg.CompEnd _ _ _ _ _ _ _ _ _ _ _ _ _ _)); (first | ((with_reducible show wpAny _ _ (storeName _ _ _) _ _ _); (k_here; k_dflt (refine' storeX_LL ?F ?N ?_; (case F => k_asm); (case N => k_asm)); intro h' m' F' N')) | ((with_reducible show wpAny _ _ (execs (_ :: _) _) _ _ _); (k_here; refine execs_cons_S ?_; intro q9 s9)) | (k_here; (with_reducible show wpAny _ _ (call (Value.ref _) [Value.int _ _, Value.ref _, Value.int _ _]) _ _ _); k_dflt (k_dflt (show wpAny _ _ (call (Value.ref 188) _) _ _ _); k_dflt (refine' Cal.use (rule_ok top_n1 top_n48 top_b2 top_b10 ?z1 ?z2 ?z3 ?z4) ?zB ?zF ?zX ?zN ?zT ?zk ?zp ?zg ?zd ?zu ?_); (((case zB => k_asm); (case zF => k_asm); (case zX => k_asm); (case zN => k_asm); (case zT => k_asm); (case zk => k_dflt (first | exact rfl | assumption)))); (case zp => k_dflt k_mem); (case z1 => exact pow1 (by assumption)); (case z2 => exact pow1 (by assumption)); (case z3 => exact pow1 (by assumption)); (case z4 => exact pow1 (by assumption)); (case zg => (first | assumption | (dsimp only; assumption))); (case zd => ktr_room); (case zu => ktr_units)); intro t9 h9 tk9 gs9 F9 N9 hg9; (try dsimp only); (try k_fold)) | (k_here; (with_reducible show wpAny _ _ (call (Value.ref _) [Value.int _ _, Value.ref _, Value.int _ _]) _ _ _); k_dflt (k_dflt (show wpAny _ _ (call (Value.ref 183) _) _ _ _); k_dflt (refine' Cal.use (left4 ?z1 _ _ _ _ _ ?z3) ?zB ?zF ?zX ?zN ?zT ?zk ?zp ?zg ?zd ?zu ?_); (case z1 => k_dflt assumption); (case z3 => exact top_base); (((case zB => k_asm); (case zF => k_asm); (case zX => k_asm); (case zN => k_asm); (case zT => k_asm); (case zk => k_dflt (first | exact rfl | assumption)))); (case zp => exact lots_in4 (by k_dflt k_mem) (by k_dflt k_mem) (by k_dflt k_mem) (by k_dflt k_mem) (by k_dflt k_mem)); (case zg => (first | assumption | (dsimp only; assumption))); (case zd => ktr_room); (case zu => ktr_units)); intro t9 h9 tk9 gs9 F9 N9 hg9; (try dsimp only); (try k_fold)) | (k_here; (with_reducible show wpAny _ _ (call (Value.ref _) [Value.ref _, Value.ref _]) _ _ _); k_dflt (k_dflt (show wpAny _ _ (call (Value.ref 141) _) _ _ _); k_dflt (refine' sums_ok ?zB ?zF ?zX ?zN ?zT ?zk ?zL ?zI ?zl ?zd ?zu ?_); (((case zB => k_asm); (case zF => k_asm); (case zX => k_asm); (case zN => k_asm); (case zT => k_asm); (case zk => k_dflt (first | exact rfl | assumption)))); (case zL => k_dflt assumption); (case zI => k_dflt assumption); (case zl => k_dflt (first | assumption | omega)); (case zd => ktr_room); (case zu => ktr_units)); intro D9 x0 x1 x2 x3 x4 t0 t1 t2 t3 t4 k9 h9 tk9 F9 N9; (try dsimp only); (try k_fold)) | ((with_reducible show wpAny _ _ (binaryOp Operator.Pow (Value.int _ _) (Value.int _ _)) _ _ _); (k_here; k_dflt (refine' pow_lot ?kh ?_; (case kh => assumption)))) | (k_here; (with_reducible show wpAny _ _ (subscriptTail (Expr.Name (Str.ofString "one") _) _ (Value.ref _) (Value.int _ _)) _ _ _); k_dflt (refine' item_tupleT (News.isTup ?kN ?km) ?k0 ?k1 ?kj ?kx ?_; (case kN => k_asm); (case km => k_mem); (case k0 => decide); (case k1 => decide); (case kj => rfl); (case kx => rfl))) | (k_here; (with_reducible show wpAny _ _ (subscriptTail (Expr.Name (Str.ofString "heaps") _) _ (Value.ref _) (Value.int _ _)) _ _ _); k_dflt (refine' kim_list ?kN ?km ?kc ?kd ?k0 ?k1 ?kx ?_; (case kN => k_asm); (case km => k_mem); (case kc => rfl); (case kd => rfl); (case k0 => decide); (case k1 => decide); (case kx => rfl))) | walk1))))))
    all_goals refine LCg.CompEnd.intro (by assumption) N5 _ (fun p hp => hp) hoff (Or.inr ⟨_, by k_dflt k_mem, rfl, _, rfl⟩) ⟨rfl, ?_⟩
    all_goals exact snocJ hJ hys rfl
  case fin =>
    intro ys hlen hJ
    unfold LCg.FinE
    intro Ds hs9 tks9 Fs9 Ns9 os9
    clear os9 F4 N4
    obtain ⟨y0, y1, y2, y3, rfl⟩ := four hlen
    obtain ⟨t0, rfl⟩ : ∃ t, y0 = Value.int (p0 ^ c0.toNat) t := hJ 0 y0 rfl
    obtain ⟨t1, rfl⟩ : ∃ t, y1 = Value.int (p1 ^ c1.toNat) t := hJ 1 y1 rfl
    obtain ⟨t2, rfl⟩ : ∃ t, y2 = Value.int (p2 ^ c2.toNat) t := hJ 2 y2 rfl
    obtain ⟨t3, rfl⟩ : ∃ t, y3 = Value.int (p3 ^ c3.toNat) t := hJ 3 y3 rfl
    clear hJ
    try dsimp only
    repeat' (first | (k_unfold; (try dsimp only)) | (first | ((with_reducible show wpAny _ _ (storeName _ _ _) _ _ _); (k_here; k_dflt (refine' storeX_LL ?F ?N ?_; (case F => k_asm); (case N => k_asm)); intro h' m' F' N')) | ((with_reducible show wpAny _ _ (execs (_ :: _) _) _ _ _); (k_here; refine execs_cons_S ?_; intro q9 s9)) | (k_here; (with_reducible show wpAny _ _ (call (Value.ref _) [Value.int _ _, Value.ref _, Value.int _ _]) _ _ _); k_dflt (k_dflt (show wpAny _ _ (call (Value.ref 188) _) _ _ _); k_dflt (refine' Cal.use (rule_ok top_n1 top_n48 top_b2 top_b10 ?z1 ?z2 ?z3 ?z4) ?zB ?zF ?zX ?zN ?zT ?zk ?zp ?zg ?zd ?zu ?_); (((case zB => k_asm); (case zF => k_asm); (case zX => k_asm); (case zN => k_asm); (case zT => k_asm); (case zk => k_dflt (first | exact rfl | assumption)))); (case zp => k_dflt k_mem); (case z1 => exact pow1 (by assumption)); (case z2 => exact pow1 (by assumption)); (case z3 => exact pow1 (by assumption)); (case z4 => exact pow1 (by assumption)); (case zg => (first | assumption | (dsimp only; assumption))); (case zd => ktr_room); (case zu => ktr_units)); intro t9 h9 tk9 gs9 F9 N9 hg9; (try dsimp only); (try k_fold)) | (k_here; (with_reducible show wpAny _ _ (call (Value.ref _) [Value.int _ _, Value.ref _, Value.int _ _]) _ _ _); k_dflt (k_dflt (show wpAny _ _ (call (Value.ref 183) _) _ _ _); k_dflt (refine' Cal.use (left4 ?z1 _ _ _ _ _ ?z3) ?zB ?zF ?zX ?zN ?zT ?zk ?zp ?zg ?zd ?zu ?_); (case z1 => k_dflt assumption); (case z3 => exact top_base); (((case zB => k_asm); (case zF => k_asm); (case zX => k_asm); (case zN => k_asm); (case zT => k_asm); (case zk => k_dflt (first | exact rfl | assumption)))); (case zp => exact lots_in4 (by k_dflt k_mem) (by k_dflt k_mem) (by k_dflt k_mem) (by k_dflt k_mem) (by k_dflt k_mem)); (case zg => (first | assumption | (dsimp only; assumption))); (case zd => ktr_room); (case zu => ktr_units)); intro t9 h9 tk9 gs9 F9 N9 hg9; (try dsimp only); (try k_fold)) | (k_here; (with_reducible show wpAny _ _ (call (Value.ref _) [Value.ref _, Value.ref _]) _ _ _); k_dflt (k_dflt (show wpAny _ _ (call (Value.ref 141) _) _ _ _); k_dflt (refine' sums_ok ?zB ?zF ?zX ?zN ?zT ?zk ?zL ?zI ?zl ?zd ?zu ?_); (((case zB => k_asm); (case zF => k_asm); (case zX => k_asm); (case zN => k_asm); (case zT => k_asm); (case zk => k_dflt (first | exact rfl | assumption)))); (case zL => k_dflt assumption); (case zI => k_dflt assumption); (case zl => k_dflt (first | assumption | omega)); (case zd => ktr_room); (case zu => ktr_units)); intro D9 x0 x1 x2 x3 x4 t0 t1 t2 t3 t4 k9 h9 tk9 F9 N9; (try dsimp only); (try k_fold)) | ((with_reducible show wpAny _ _ (binaryOp Operator.Pow (Value.int _ _) (Value.int _ _)) _ _ _); (k_here; k_dflt (refine' pow_lot ?kh ?_; (case kh => assumption)))) | (k_here; (with_reducible show wpAny _ _ (subscriptTail (Expr.Name (Str.ofString "one") _) _ (Value.ref _) (Value.int _ _)) _ _ _); k_dflt (refine' item_tupleT (News.isTup ?kN ?km) ?k0 ?k1 ?kj ?kx ?_; (case kN => k_asm); (case km => k_mem); (case k0 => decide); (case k1 => decide); (case kj => rfl); (case kx => rfl))) | (k_here; (with_reducible show wpAny _ _ (subscriptTail (Expr.Name (Str.ofString "heaps") _) _ (Value.ref _) (Value.int _ _)) _ _ _); k_dflt (refine' kim_list ?kN ?km ?kc ?kd ?k0 ?k1 ?kx ?_; (case kN => k_asm); (case km => k_mem); (case kc => rfl); (case kd => rfl); (case k0 => decide); (case k1 => decide); (case kx => rfl))) | walk1) | (dsimp only; (first | ((with_reducible show wpAny _ _ (storeName _ _ _) _ _ _); (k_here; k_dflt (refine' storeX_LL ?F ?N ?_; (case F => k_asm); (case N => k_asm)); intro h' m' F' N')) | ((with_reducible show wpAny _ _ (execs (_ :: _) _) _ _ _); (k_here; refine execs_cons_S ?_; intro q9 s9)) | (k_here; (with_reducible show wpAny _ _ (call (Value.ref _) [Value.int _ _, Value.ref _, Value.int _ _]) _ _ _); k_dflt (k_dflt (show wpAny _ _ (call (Value.ref 188) _) _ _ _); k_dflt (refine' Cal.use (rule_ok top_n1 top_n48 top_b2 top_b10 ?z1 ?z2 ?z3 ?z4) ?zB ?zF ?zX ?zN ?zT ?zk ?zp ?zg ?zd ?zu ?_); (((case zB => k_asm); (case zF => k_asm); (case zX => k_asm); (case zN => k_asm); (case zT => k_asm); (case zk => k_dflt (first | exact rfl | assumption)))); (case zp => k_dflt k_mem); (case z1 => exact pow1 (by assumption)); (case z2 => exact pow1 (by assumption)); (case z3 => exact pow1 (by assumption)); (case z4 => exact pow1 (by assumption)); (case zg => (first | assumption | (dsimp only; assumption))); (case zd => ktr_room); (case zu => ktr_units)); intro t9 h9 tk9 gs9 F9 N9 hg9; (try dsimp only); (try k_fold)) | (k_here; (with_reducible show wpAny _ _ (call (Value.ref _) [Value.int _ _, Value.ref _, Value.int _ _]) _ _ _); k_dflt (k_dflt (show wpAny _ _ (call (Value.ref 183) _) _ _ _); k_dflt (refine' Cal.use (left4 ?z1 _ _ _ _ _ ?z3) ?zB ?zF ?zX ?zN ?zT ?zk ?zp ?zg ?zd ?zu ?_); (case z1 => k_dflt assumption); (case z3 => exact top_base); (((case zB => k_asm); (case zF => k_asm); (case zX => k_asm); (case zN => k_asm); (case zT => k_asm); (case zk => k_dflt (first | exact rfl | assumption)))); (case zp => exact lots_in4 (by k_dflt k_mem) (by k_dflt k_mem) (by k_dflt k_mem) (by k_dflt k_mem) (by k_dflt k_mem)); (case zg => (first | assumption | (dsimp only; assumption))); (case zd => ktr_room); (case zu => ktr_units)); intro t9 h9 tk9 gs9 F9 N9 hg9; (try dsimp only); (try k_fold)) | (k_here; (with_reducible show wpAny _ _ (call (Value.ref _) [Value.ref _, Value.ref _]) _ _ _); k_dflt (k_dflt (show wpAny _ _ (call (Value.ref 141) _) _ _ _); k_dflt (refine' sums_ok ?zB ?zF ?zX ?zN ?zT ?zk ?zL ?zI ?zl ?zd ?zu ?_); (((case zB => k_asm); (case zF => k_asm); (case zX => k_asm); (case zN => k_asm); (case zT => k_asm); (case zk => k_dflt (first | exact rfl | assumption)))); (case zL => k_dflt assumption); (case zI => k_dflt assumption); (case zl => k_dflt (first | assumption | omega)); (case zd => ktr_room); (case zu => ktr_units)); intro D9 x0 x1 x2 x3 x4 t0 t1 t2 t3 t4 k9 h9 tk9 F9 N9; (try dsimp only); (try k_fold)) | ((with_reducible show wpAny _ _ (binaryOp Operator.Pow (Value.int _ _) (Value.int _ _)) _ _ _); (k_here; k_dflt (refine' pow_lot ?kh ?_; (case kh => assumption)))) | (k_here; (with_reducible show wpAny _ _ (subscriptTail (Expr.Name (Str.ofString "one") _) _ (Value.ref _) (Value.int _ _)) _ _ _); k_dflt (refine' item_tupleT (News.isTup ?kN ?km) ?k0 ?k1 ?kj ?kx ?_; (case kN => k_asm); (case km => k_mem); (case k0 => decide); (case k1 => decide); (case kj => rfl); (case kx => rfl))) | (k_here; (with_reducible show wpAny _ _ (subscriptTail (Expr.Name (Str.ofString "heaps") _) _ (Value.ref _) (Value.int _ _)) _ _ _); k_dflt (refine' kim_list ?kN ?km ?kc ?kd ?k0 ?k1 ?kx ?_; (case kN => k_asm); (case km => k_mem); (case kc => rfl); (case kd => rfl); (case k0 => decide); (case k1 => decide); (case kx => rfl))) | walk1)))
    rename Fr _ _ _ _ => Fz
    rename AllBare _ => hgz
    refine goodWG_bool (beq_iff_eq.mpr (left_rule [(a0, p0, c0), (a1, p1, c1), (a2, p2, c2), (a3, p3, c3)] _ _ lp1 lp2 top_n1)) Fz hgz (raisesW_false ?_) ?_ (by rfl)
    · wrow_none_raised
    · wrow_post)
end Mine
theorem PySem.Challenge.cw_wo0066_01_holds : PySem.Challenge.rw_wo0066_01.Holds :=
  Mine.top_ok
