import PyProof.Rows.All
import Wide.All
import OpenK.AllK
import Wide.FinOn
import Lean
import PySem.Challenge.RW_re0072_01
open PySem PySem.W PyProof.Rows
set_option Elab.async false
set_option maxRecDepth 100000
set_option maxHeartbeats 8000000
set_option linter.all false
local macro_rules | `(tactic| walk_at $s:str) => `(tactic| k_extra $s)

section
-- TopA
open PySem PySem.W PyProof.Rows
namespace Mine
open_top hd for PySem.Challenge.rw_re0072_01
end Mine
end

section
-- Base
open PySem PySem.W PyProof.Rows PySem.Calls PySem.Builtin PySem.Builtin.Str
namespace Mine
theorem calm_Base : True := by
  w_top off
  k_with_none
  trivial
noncomputable def Tell (w : World) (loose : List Str) (mean : ExcName → Option Value) (mg mb : Str → Option Value) (b : Nat) (f : Addr) (vs : List Value) (kw : List (Str × Value)) (news : List (Addr × Obj)) (Post : Value → List (Addr × Obj) → Prop) : Prop :=
  ∀ (dp un : Nat) (gd : Option (List Code)) (cn : Str) (cs : Scope) (a : Addr) (ccd : Value) (cl : List (Str × Addr)) (outer : List Env) (A₀ : Around) (base h₀ : Heap) (L : Addr) (m : Str → Option Value) (s : Shared) (Q E : Value → Shared → Prop),
    Below A₀ base outer h₀ → Fr h₀ L s.heap m → (Mine.hd.heap_39 w.params).In h₀ → News h₀ L s.heap news → Top topProg loose mean mg mb h₀ → cs.kind = .function → dp + b < recursionLimit → un + 20 * b < cLine →
    (∀ r news' h' tk', Fr h₀ L h' m → News h₀ L h' news' → Post r news' → Q r { s with heap := h', toks := tk' }) →
    wpAny (model PySem.Challenge.rw_re0072_01.row.prog w) (ktrTop dp un gd cn cs L a ccd cl outer) (call (.ref f) vs kw) Q E s
theorem Tell.use {w : World} {loose : List Str} {mean : ExcName → Option Value} {mg mb : Str → Option Value} {b : Nat} {f : Addr} {vs : List Value} {kw : List (Str × Value)} {news : List (Addr × Obj)} {Post : Value → List (Addr × Obj) → Prop}
    (C : Tell w loose mean mg mb b f vs kw news Post) {dp un : Nat} {gd : Option (List Code)} {cn : Str} {cs : Scope} {a : Addr} {ccd : Value} {cl : List (Str × Addr)} {outer : List Env} {A₀ : Around} {base h₀ : Heap} {L : Addr} {m : Str → Option Value} {s : Shared} {Q E : Value → Shared → Prop}
    (B : Below A₀ base outer h₀) (F : Fr h₀ L s.heap m) (X : (Mine.hd.heap_39 w.params).In h₀) (N : News h₀ L s.heap news) (T : Top topProg loose mean mg mb h₀) (hk : cs.kind = .function) (hd : dp + b < recursionLimit) (hu : un + 20 * b < cLine)
    (hret : ∀ r news' h' tk', Fr h₀ L h' m → News h₀ L h' news' → Post r news' → Q r { s with heap := h', toks := tk' }) :
    wpAny (model PySem.Challenge.rw_re0072_01.row.prog w) (ktrTop dp un gd cn cs L a ccd cl outer) (call (.ref f) vs kw) Q E s := C _ _ _ _ _ _ _ _ _ _ _ _ _ _ _ _ _ B F X N T hk hd hu hret
noncomputable def find4 (x y : Str) (i j : Int) : Int := match occurrences x y (fromIndex x.length i) (min (fromIndex x.length j) x.length) 1 with | k :: _ => (k : Int) | [] => -1
noncomputable def rfind4 (x y : Str) (i j : Int) : Int := match lastOccurrence x y (fromIndex x.length i) (min (fromIndex x.length j) x.length) with | some k => (k : Int) | none => -1
theorem gives_find4 (x y : Str) (i j : Int) (t u v z : Tok) : Gives («str.find» ⟨[.str x t, .str y u, .int i v, .int j z], []⟩) (.int (find4 x y i j)) := by
  unfold find4
  show Gives (match occurrences x y (fromIndex x.length i) (min (fromIndex x.length j) x.length) 1 with | k :: _ => retInt k | [] => (do rule "str.find.not-found"; retInt (-1))) _
  cases occurrences x y (fromIndex x.length i) (min (fromIndex x.length j) x.length) 1 with
  | nil => exact .rule (.of_eq rfl)
  | cons k _ => exact .of_eq rfl
theorem gives_rfind4 (x y : Str) (i j : Int) (t u v z : Tok) : Gives («str.rfind» ⟨[.str x t, .str y u, .int i v, .int j z], []⟩) (.int (rfind4 x y i j)) := by
  unfold rfind4
  show Gives (match lastOccurrence x y (fromIndex x.length i) (min (fromIndex x.length j) x.length) with | some k => retInt k | none => (do rule "str.rfind.not-found"; retInt (-1))) _
  cases lastOccurrence x y (fromIndex x.length i) (min (fromIndex x.length j) x.length) with
  | none => exact .rule (.of_eq rfl)
  | some k => exact .of_eq rfl
section
variable {prog : Program} {w : World} {A : Around} {E : Value → Shared → Prop} {s : Shared} {x y : Str} {t u v z : Tok} {i j r : Int} {Q : Value → Shared → Prop}
theorem call_find2 (e : Txt.find x y = r) (hq : Q (.int r s.toks) { s with toks := s.toks + 1 }) : wpAny (model prog w) A (call (.builtin "str.find") [.str x t, .str y u]) Q E s := SC.find (by rw [e]; exact hq)
theorem call_find4 (e : find4 x y i j = r) (hq : Q (.int r s.toks) { s with toks := s.toks + 1 }) : wpAny (model prog w) A (call (.builtin "str.find") [.str x t, .str y u, .int i v, .int j z]) Q E s :=
  call_gives F.slot_str_find (typeIs_str _ _ _) F.entry_str_find (F.args_str_find_4 _ _ _ _) (gives_find4 x y i j t u v z) (by rw [e]; exact hq)
theorem call_find4e {k : Int} (e : find4 x y i k = r) (hj : j = k) (hq : Q (.int r s.toks) { s with toks := s.toks + 1 }) : wpAny (model prog w) A (call (.builtin "str.find") [.str x t, .str y u, .int i v, .int j z]) Q E s := by
  subst hj; exact call_find4 e hq
theorem call_rfind4 (e : rfind4 x y i j = r) (hq : Q (.int r s.toks) { s with toks := s.toks + 1 }) : wpAny (model prog w) A (call (.builtin "str.rfind") [.str x t, .str y u, .int i v, .int j z]) Q E s :=
  call_gives F.slot_str_rfind (typeIs_str _ _ _) F.entry_str_rfind (F.args_str_rfind_4 _ _ _ _) (gives_rfind4 x y i j t u v z) (by rw [e]; exact hq)
theorem call_rfind4e {k : Int} (e : rfind4 x y i k = r) (hj : j = k) (hq : Q (.int r s.toks) { s with toks := s.toks + 1 }) : wpAny (model prog w) A (call (.builtin "str.rfind") [.str x t, .str y u, .int i v, .int j z]) Q E s := by
  subst hj; exact call_rfind4 e hq
end
/-- a stop for the walk -/
noncomputable def StopW (p : Prop) : Prop := p
theorem stopW {p : Prop} (h : StopW p) : p := h
noncomputable def optV : Option Str → Tok → Value
  | none, _ => .none
  | some x, t => .str x t
theorem fmod4 (x : Int) : 0 ≤ x.fmod 4 ∧ x.fmod 4 < 4 := by
  rw [Int.fmod_eq_emod_of_nonneg _ (by omega)]; omega
theorem intsAre_at {vs : List Value} {ns : List Int} (h : IntsAre vs ns) {i : Nat} {v : Value} (e : vs[i]? = some v) : ∃ n t, v = .int n t ∧ ns[i]? = some n := by
  obtain ⟨n, t, h1, h2⟩ := h.at i v e
  exact ⟨n, t, h1, h2⟩
theorem intsAre_snoc {vs : List Value} {ns : List Int} {n : Int} {t : Tok} (h : IntsAre vs ns) : IntsAre (vs ++ [.int n t]) (ns ++ [n]) := ksk_snoc h
section
variable {prog : Program} {w : World} {A : Around} {E : Value → Shared → Prop} {s : Shared} {h₀ : Heap} {L l : Addr} {m : Str → Option Value} {news : List (Addr × Obj)} {Q : Value → Shared → Prop}
theorem split_two {x y f b : Str} {t u : Tok} (hF : Fr h₀ L s.heap m) (hN : News h₀ L s.heap news) (hy : (y.length == 0) = false) (hsz : x.length + 2 ≤ sizeLine) (e : Txt.split x y = [f, b])
    (h : ∀ D h' k t1 t2, Fr h₀ L h' m → News h₀ L h' ((D, listOf #[.str f t1, .str b t2] 0) :: news) → (∀ p ∈ news, p.1 < D) → Q (.ref D) { s with heap := h', toks := k }) :
    wpAny (model prog w) A (call (.builtin "str.split") [.str x t, .str y u]) Q E s := by
  refine splitN1 hF hN hy (fun ps h' k e' F' N' => ?_) hsz
  rw [e] at e'
  match ps, e' with
  | [(f', t1), (b', t2)], e' =>
    simp only [List.map_cons, List.map_nil, List.cons.injEq, and_true] at e'
    obtain ⟨rfl, rfl⟩ := e'
    exact h _ h' k t1 t2 F' N' fun p hp => Heap.lt_size (hN p hp).1
theorem item_mem {value slice : PySem.Expr} {vs : List Value} {c : Nat} {k : Int} {u : Tok} {v : Value}
    (N : News h₀ L s.heap news) (hm : (l, listOf vs.toArray c) ∈ news) (h0 : 0 ≤ k) (hhi : k < 2 ^ 63) (hx : vs[k.toNat]? = some v) (h : Q v s)
    (hs : subscripted slice false (.ref l) (.int k u) = operate [.ref l, .int k u] (getItem (.ref l) (.int k u)) := by with_unfolding_all rfl) :
    wpAny (model prog w) A (subscriptTail value slice (.ref l) (.int k u)) Q E s :=
  have hl : s.heap.IsList l vs.toArray := ⟨_, (N _ hm).1, rfl, c, rfl⟩
  tail_any hl.typeIs slot_list_getitem.lookup (wpAny_getItem_list hl h0 hhi (by simpa using hx) h) hs
theorem item_opt {value slice : PySem.Expr} {a b c : Str} {t1 t2 t3 : Tok} {n : Nat} {x : Int} {u : Tok} (N : News h₀ L s.heap news) (hm : (l, listOf #[.none, .str a t1, .str b t2, .str c t3] n) ∈ news)
    (h : ∀ t, Q (optV ([none, some a, some b, some c].getD (x.fmod 4).toNat none) t) s)
    (hs : subscripted slice false (.ref l) (.int (x.fmod 4) u) = operate [.ref l, .int (x.fmod 4) u] (getItem (.ref l) (.int (x.fmod 4) u)) := by with_unfolding_all rfl) :
    wpAny (model prog w) A (subscriptTail value slice (.ref l) (.int (x.fmod 4) u)) Q E s := by
  have hk : (x.fmod 4).toNat < 4 := by have := fmod4 x; omega
  obtain ⟨v, t, hv, he⟩ : ∃ v t, [Value.none, .str a t1, .str b t2, .str c t3][(x.fmod 4).toNat]? = some v ∧ v = optV ([none, some a, some b, some c].getD (x.fmod 4).toNat none) t := by
    match (x.fmod 4).toNat, hk with
    | 0, _ => exact ⟨_, 0, rfl, rfl⟩
    | 1, _ => exact ⟨_, t1, rfl, rfl⟩
    | 2, _ => exact ⟨_, t2, rfl, rfl⟩
    | 3, _ => exact ⟨_, t3, rfl, rfl⟩
  exact item_mem (vs := [Value.none, .str a t1, .str b t2, .str c t3]) N hm (fmod4 x).1 (Int.lt_trans (fmod4 x).2 (by decide)) hv (he ▸ h t) hs
theorem item_four {value slice : PySem.Expr} {a b c d : Str} {t0 t1 t2 t3 : Tok} {n : Nat} {x : Int} {u : Tok} (N : News h₀ L s.heap news) (hm : (l, listOf #[.str a t0, .str b t1, .str c t2, .str d t3] n) ∈ news)
    (h : ∀ t, Q (.str ([a, b, c, d].getD (x.fmod 4).toNat a) t) s)
    (hs : subscripted slice false (.ref l) (.int (x.fmod 4) u) = operate [.ref l, .int (x.fmod 4) u] (getItem (.ref l) (.int (x.fmod 4) u)) := by with_unfolding_all rfl) :
    wpAny (model prog w) A (subscriptTail value slice (.ref l) (.int (x.fmod 4) u)) Q E s := by
  have hk : (x.fmod 4).toNat < 4 := by have := fmod4 x; omega
  obtain ⟨v, t, hv, he⟩ : ∃ v t, [Value.str a t0, .str b t1, .str c t2, .str d t3][(x.fmod 4).toNat]? = some v ∧ v = .str ([a, b, c, d].getD (x.fmod 4).toNat a) t := by
    match (x.fmod 4).toNat, hk with
    | 0, _ => exact ⟨_, t0, rfl, rfl⟩
    | 1, _ => exact ⟨_, t1, rfl, rfl⟩
    | 2, _ => exact ⟨_, t2, rfl, rfl⟩
    | 3, _ => exact ⟨_, t3, rfl, rfl⟩
  exact item_mem (vs := [Value.str a t0, .str b t1, .str c t2, .str d t3]) N hm (fmod4 x).1 (Int.lt_trans (fmod4 x).2 (by decide)) hv (he ▸ h t) hs
theorem len_mem {vs : List Value} {c : Nat} (N : News h₀ L s.heap news) (hm : (l, listOf vs.toArray c) ∈ news) (hfit : (vs.length : Int) < 2 ^ 63)
    (h : Q (.int (vs.length : Int) (s.toks + 1)) { s with toks := s.toks + 1 + 1 }) : wpAny (model prog w) A (call (.builtin "len") [.ref l]) Q E s := kst_len N hm rfl hfit h
end
/-- a frame as it was, but for the names told and those forgotten -/
noncomputable def FrAs (m₀ m : Str → Option Value) (ps : List (Str × Value)) (st : List Str) : Prop := (∀ p ∈ ps, m p.1 = some p.2) ∧ (∀ z, (∀ p ∈ ps, z ≠ p.1) → st.contains z = false → m z = m₀ z)
theorem FrAs.fr {h₀ h : Heap} {L : Addr} {m₀ m : Str → Option Value} {ps : List (Str × Value)} {st : List Str} (x : FrAs m₀ m ps st) (F : Fr h₀ L h m) : Fr h₀ L h (kstB (fun z => if st.contains z then m z else m₀ z) ps) := ksw_fr x.1 x.2 F
theorem FrAs.refl {m₀ : Str → Option Value} {ps : List (Str × Value)} {st : List Str} (h1 : ∀ p ∈ ps, m₀ p.1 = some p.2) : FrAs m₀ m₀ ps st := ⟨h1, fun _ _ _ => rfl⟩
theorem lookup_kst (ps : List (Str × Value)) : (fun y => List.lookup y ps) = kstB (fun _ => none) ps := by
  funext y
  induction ps with
  | nil => rfl
  | cons p r ih =>
    show (match y == p.1 with | true => some p.2 | false => List.lookup y r) = if y = p.1 then some p.2 else kstB (fun _ => none) r y
    by_cases h : y = p.1
    · rw [if_pos h, beq_iff_eq.mpr h]
    · rw [if_neg h, beq_eq_false_iff_ne.mpr h]; exact ih
theorem fr_kst {h₀ h : Heap} {L : Addr} (ps : List (Str × Value)) (F : Fr h₀ L h (fun y => List.lookup y ps)) : Fr h₀ L h (kstB (fun _ => none) ps) := lookup_kst ps ▸ F
theorem all1 {α : Type} {P : α → Prop} {a : α} (h : P a) : ∀ p ∈ [a], P p := fun p hp => by rw [List.mem_singleton.mp hp]; exact h
theorem all2 {α : Type} {P : α → Prop} {a b : α} (h : P a) (h2 : P b) : ∀ p ∈ [a, b], P p := List.forall_mem_cons.mpr ⟨h, all1 h2⟩
theorem all3 {α : Type} {P : α → Prop} {a b c : α} (h : P a) (h2 : P b) (h3 : P c) : ∀ p ∈ [a, b, c], P p := List.forall_mem_cons.mpr ⟨h, all2 h2 h3⟩
theorem offLt {d : Addr} {l : List (Addr × Obj)} (h : AllLt d l) : ∀ p ∈ l, p.1 ≠ d := fun p hp => Nat.ne_of_lt (kst_ltOf h p hp)
theorem news_rev5 {h₀ h : Heap} {L : Addr} {d e0 e1 e2 e3 e4 x : Addr × Obj} {news : List (Addr × Obj)} (N : News h₀ L h (d :: e4 :: e3 :: e2 :: e1 :: e0 :: x :: news)) : News h₀ L h (d :: e0 :: e1 :: e2 :: e3 :: e4 :: news) := fun p hp => N p (by
  simp only [List.mem_cons] at hp ⊢
  rcases hp with h | h | h | h | h | h | h
  · exact .inl h
  · exact .inr (.inr (.inr (.inr (.inr (.inl h)))))
  · exact .inr (.inr (.inr (.inr (.inl h))))
  · exact .inr (.inr (.inr (.inl h)))
  · exact .inr (.inr (.inl h))
  · exact .inr (.inl h)
  · exact .inr (.inr (.inr (.inr (.inr (.inr (.inr h)))))))
theorem news_rev3 {h₀ h : Heap} {L : Addr} {d e0 e1 e2 x : Addr × Obj} {news : List (Addr × Obj)} (N : News h₀ L h (d :: e2 :: e1 :: e0 :: x :: news)) : News h₀ L h (d :: e0 :: e1 :: e2 :: news) := fun p hp => N p (by
  simp only [List.mem_cons] at hp ⊢
  rcases hp with h | h | h | h | h
  · exact .inl h
  · exact .inr (.inr (.inr (.inl h)))
  · exact .inr (.inr (.inl h))
  · exact .inr (.inl h)
  · exact .inr (.inr (.inr (.inr (.inr h)))))
theorem compEnd_keep {h₀ : Heap} {L I C D : Addr} {m : Str → Option Value} {s₁ : Shared} {oI oC oD : Obj} {S : List (Addr × Obj) → Prop} {rest : Value → List (Addr × Obj) → Prop} {y : Value} {h' : Heap} {tk : Nat} {x a b : Addr × Obj} {old : List (Addr × Obj)}
    (F : Fr h₀ L h' m) (N : News h₀ L h' (x :: a :: b :: (I, oI) :: (C, oC) :: (D, oD) :: old)) (off : LCg.Off3 I C D old) (hx : (@Ne Nat x.1 I) ∧ (@Ne Nat x.1 C) ∧ (@Ne Nat x.1 D)) (hS : S (x :: old)) (r : rest y (x :: old)) :
    LCg.CompEnd h₀ L m s₁ I oI C oC D oD S rest y { s₁ with heap := h', toks := tk } :=
  LCg.CompEnd.intro F N (x :: old) (fun p hp => by
    simp only [List.mem_cons] at hp ⊢
    rcases hp with h | h | h | h | h
    · exact .inr (.inr (.inr (.inl h)))
    · exact .inr (.inr (.inr (.inr (.inl h))))
    · exact .inr (.inr (.inr (.inr (.inr (.inl h)))))
    · exact .inl h
    · exact .inr (.inr (.inr (.inr (.inr (.inr h)))))) ⟨hx, off⟩ hS r
theorem filter_take {α : Type} (p : α → Bool) : ∀ (xs : List α) (k : Nat), (∀ i, i < k → ∀ y, xs[i]? = some y → p y = true) → (∀ i, k ≤ i → ∀ y, xs[i]? = some y → p y = false) → xs.filter p = xs.take k
  | [], _, _, _ => by simp
  | y :: r, 0, _, h2 => by
    have h := h2 0 (Nat.le_refl 0) y rfl
    have ih := filter_take p r 0 (fun i hi => absurd hi (Nat.not_lt_zero i)) fun i _ z hz => h2 (i + 1) (Nat.zero_le _) z (by simpa using hz)
    rw [List.filter_cons_of_neg (by simp [h]), ih]; simp
  | y :: r, k + 1, h1, h2 => by
    have h := h1 0 (Nat.succ_pos k) y rfl
    have ih := filter_take p r k (fun i hi z hz => h1 (i + 1) (Nat.succ_lt_succ hi) z (by simpa using hz)) fun i hi z hz => h2 (i + 1) (Nat.succ_le_succ hi) z (by simpa using hz)
    rw [List.filter_cons_of_pos h, ih]; simp
end Mine
end

section
-- Loops
open PySem PySem.W PyProof.Rows PySem.Calls PySem.Builtin PySem.Builtin.Str
namespace Mine
theorem calm_Loops : True := by
  w_top off
  k_with_none
  trivial
/-- what a turn of a loop leaves: the iterator as it was, the ledger's kept part nx -/
noncomputable def TurnEnd (h₀ : Heap) (L I : Addr) (oI : Obj) (J : (Str → Option Value) → List (Addr × Obj) → Prop) (s₁ : Shared) (f : Flow) (s₂ : Shared) : Prop :=
  f = .next ∧ ∃ h' tk m' news' nx, s₂ = { s₁ with heap := h', toks := tk } ∧ Fr h₀ L h' m' ∧ News h₀ L h' news' ∧ (I, oI) ∈ news' ∧ (∀ p ∈ nx, p ∈ news') ∧ (∀ p ∈ nx, p.1 ≠ I) ∧ J m' nx
theorem TurnEnd.intro {h₀ : Heap} {L I : Addr} {oI : Obj} {J : (Str → Option Value) → List (Addr × Obj) → Prop} {s₁ : Shared} {h' : Heap} {tk : Nat} {m' : Str → Option Value} {news' : List (Addr × Obj)} (nx : List (Addr × Obj))
    (F : Fr h₀ L h' m') (N : News h₀ L h' news') (hI : (I, oI) ∈ news') (hs : ∀ p ∈ nx, p ∈ news') (ho : ∀ p ∈ nx, p.1 ≠ I) (hj : J m' nx) :
    TurnEnd h₀ L I oI J s₁ .next { s₁ with heap := h', toks := tk } := ⟨rfl, h', tk, m', news', nx, rfl, F, N, hI, hs, ho, hj⟩
section
variable {prog : Program} {w : World} {A : Around} {E : Value → Shared → Prop} {s : Shared} {env : Env} {h₀ : Heap} {target : Expr} {body : List Stmt} {Q : Flow → Shared → Prop}
theorem iterT_list {L : Addr} {l : Addr} {vs : List Value} {nn : Nat} {m₀ : Str → Option Value} {news : List (Addr × Obj)} (J : Nat → (Str → Option Value) → List (Addr × Obj) → Prop)
    (hL : env.locals = L) (hh : A.handled = none) (hl : (l, listOf vs.toArray nn) ∈ news) (F : Fr h₀ L s.heap m₀) (N : News h₀ L s.heap news) (hj : J 0 m₀ news)
    (hJl : ∀ i m nx, J i m nx → (l, listOf vs.toArray nn) ∈ nx)
    (turn : ∀ I oI i v m₁ nx (s₁ : Shared), vs[i]? = some v → (∀ p ∈ news, p.1 < I) → (∀ p ∈ nx, p.1 ≠ I) → J i m₁ nx → Fr h₀ L s₁.heap m₁ → News h₀ L s₁.heap ((I, oI) :: nx) →
      wpAny (model prog w) A (assign target env v) (fun _ s₃ => wpAny (model prog w) A (execs body env) (TurnEnd h₀ L I oI (J (i + 1)) s₁) E s₃) E s₁)
    (done : ∀ m₁ nx h tk, J vs.length m₁ nx → Fr h₀ L h m₁ → News h₀ L h nx → Q .next { s with heap := h, toks := tk }) :
    wpAny (model prog w) A (pyIter (.ref l)) (fun it s₂ => LoopAtT prog w A h₀ env target body Q E it s₂) E s := by
  subst hL
  have hol : s.heap.get? l = some (listOf vs.toArray nn) := (N _ hl).1
  have hls : s.heap.IsList l vs.toArray := ⟨_, hol, rfl, nn, rfl⟩
  have hne : l ≠ s.heap.objs.size := Nat.ne_of_lt (Heap.lt_size hol)
  refine wpAny_pyIter_list hls ?_
  have W := Walks.list (prog := prog) (w := w) hh s.heap.objs.size l hne vs.toArray
  have hlen : vs.toArray.size = vs.length := by simp
  rw [hlen] at W
  refine ⟨_, _, _, vs.length, _, _, m₀, news, J, rfl, W, ?_, ?_, ?_, ⟨⟨_, Heap.get?_push_size _ rfl, rfl, rfl⟩, hls.at fun o e => Heap.get?_push_of_some _ e⟩, F.push _, (fun p hp => ⟨Heap.get?_push_of_some _ (N p hp).1, (N p hp).2⟩), fun i s' v Q' st hQ' => letGo_listiter st.1 hQ', hj, ?_, ?_⟩
  · intro hm
    rcases List.mem_cons.mp hm with e | hm
    · exact absurd F.ns.lt (e ▸ Nat.lt_irrefl _)
    · exact (N _ hl).2.1 ((List.mem_singleton.mp hm).symm)
  · intro b hb
    rw [List.mem_singleton.mp hb]
    exact next_is_new F
  · intro p hp hI
    exact absurd (Heap.lt_size (N p hp).1) ((List.mem_singleton.mp hI) ▸ Nat.lt_irrefl _)
  · intro i v m₁ nx s₁ own hin hP hJ hoff hown hget hfp hst F₁ N₁
    obtain ⟨⟨oI, hoI, hcI, hdI⟩, _⟩ := hst
    have hmI : (s.heap.objs.size, oI) ∈ own := hfp _ (.head _) (next_is_new F) _ hoI
    have hl₁ := hJl i m₁ nx hJ
    have hlo : s₁.heap.get? l = some (listOf vs.toArray nn) := (N₁ _ (List.mem_append.mpr (.inr hl₁))).1
    have N₂ : News h₀ env.locals s₁.heap ((s.heap.objs.size, oI) :: nx) := fun p hp => by
      rcases List.mem_cons.mp hp with rfl | hp
      · exact N₁ _ (List.mem_append.mpr (.inl hmI))
      · exact N₁ _ (List.mem_append.mpr (.inr hp))
    refine wpAny_mono (turn s.heap.objs.size oI i v m₁ nx s₁ (by simpa using hP) (fun p hp => Heap.lt_size (N p hp).1) (fun p hp e => hoff p hp (List.mem_singleton.mpr e)) hJ F₁ N₂) (fun _ s₃ h₃ => wpAny_mono h₃ (fun f s₄ h₄ => ?_) fun _ _ e => e) fun _ _ e => e
    obtain ⟨rfl, h', tk, m', news', nx', rfl, F', N', hI', hs', ho', hj'⟩ := h₄
    refine ⟨rfl, h', tk, m', nx', rfl, F', fun p hp => ?_, fun p hp e => ho' p hp (List.mem_singleton.mp e), hj'⟩
    rcases List.mem_append.mp hp with hp | hp
    · rcases List.mem_cons.mp (hown p hp) with h2 | h2
      · have h3 := hget p hp
        rw [h2, hoI] at h3
        have h4 : p = (s.heap.objs.size, oI) := Prod.ext h2 (Option.some.inj h3).symm
        rw [h4]; exact N' _ hI'
      · have h2 := List.mem_singleton.mp h2
        have h3 := hget p hp
        rw [h2, hlo] at h3
        have h4 : p = (l, listOf vs.toArray nn) := Prod.ext h2 (Option.some.inj h3).symm
        rw [h4]; exact N' _ (hs' _ (hJl _ _ _ hj'))
    · exact N' p (hs' p hp)
  · intro h' tk m' news' F' N' _ hJ
    exact done m' news' h' tk hJ F' N'
theorem letGo_rangeiter {target : Expr} {I : Addr} {x n c : Int} {v : Value} {Q' : Unit → Shared → Prop} {s' : Shared} (hit : IsRangeIter s'.heap I x n c) (h : Q' () s') :
    wpAny (model prog w) A (letOwnedTupleGo target (.ref I) v) Q' E s' := by
  unfold letOwnedTupleGo
  cases target <;> first
    | exact wpAny_pure h
    | (cases v <;> first
        | exact wpAny_pure h
        | (refine wpAny_bind (wpAny_load hit ?_)
           exact wpAny_pure h))
theorem iterT_range {L : Addr} {r : Addr} {b₀ : Int} {t₀ u₀ v₀ : Tok} {n : Nat} {m₀ : Str → Option Value} {news : List (Addr × Obj)} (J : Nat → (Str → Option Value) → List (Addr × Obj) → Prop)
    (hL : env.locals = L) (hh : A.handled = none) (hr : IsRange s.heap r 0 b₀ 1 t₀ u₀ v₀) (hsmall : Builtin.Range.small 0 b₀ 1 = true) (hn : Builtin.Range.rangeSize 0 b₀ 1 = (n : Int)) (F : Fr h₀ L s.heap m₀) (N : News h₀ L s.heap news) (hj : J 0 m₀ news)
    (turn : ∀ I oI i t m₁ nx (s₁ : Shared), i < n → (∀ p ∈ news, p.1 < I) → (∀ p ∈ nx, p.1 ≠ I) → J i m₁ nx → Fr h₀ L s₁.heap m₁ → News h₀ L s₁.heap ((I, oI) :: nx) →
      wpAny (model prog w) A (assign target env (.int (i : Int) t)) (fun _ s₃ => wpAny (model prog w) A (execs body env) (TurnEnd h₀ L I oI (J (i + 1)) s₁) E s₃) E s₁)
    (done : ∀ m₁ nx h tk, J n m₁ nx → Fr h₀ L h m₁ → News h₀ L h nx → Q .next { s with heap := h, toks := tk }) :
    wpAny (model prog w) A (pyIter (.ref r)) (fun it s₂ => LoopAtT prog w A h₀ env target body Q E it s₂) E s := by
  subst hL
  refine wpAny_pyIter_range hr hsmall ?_
  have W : Walks prog w A s.heap.objs.size [s.heap.objs.size] [s.heap.objs.size] n (fun i v => i < n ∧ ∃ t, v = .int (0 + i * 1) t)
      (fun i h => IsRangeIter h s.heap.objs.size (0 + (i : Nat) * 1) ((n : Int) - (i : Nat)) 1) := (Walks.range hh _ 0 1 n).bound
  refine ⟨_, _, _, n, _, _, m₀, news, J, rfl, W, ?_, ?_, ?_, (by show IsRangeIter _ _ _ _ _; rw [hn]; simpa using Heap.get?_push_size _ rfl), F.push _, (fun p hp => ⟨Heap.get?_push_of_some _ (N p hp).1, (N p hp).2⟩), fun i s' v Q' st hQ' => letGo_rangeiter st hQ', hj, ?_, ?_⟩
  · intro hm
    exact absurd F.ns.lt ((List.mem_singleton.mp hm) ▸ Nat.lt_irrefl _)
  · intro b hb
    rw [List.mem_singleton.mp hb]
    exact next_is_new F
  · intro p hp hI
    exact absurd (Heap.lt_size (N p hp).1) ((List.mem_singleton.mp hI) ▸ Nat.lt_irrefl _)
  · rintro i v m₁ nx s₁ own hin ⟨_, t, rfl⟩ hJ hoff hown hget hfp hst F₁ N₁
    have hoI : s₁.heap.get? s.heap.objs.size = some _ := hst
    have hmI := hfp _ (.head _) (next_is_new F) _ hoI
    have N₂ := fun (p : Addr × Obj) (hp : p ∈ (s.heap.objs.size, _) :: nx) => (List.mem_cons.mp hp).elim (fun e => by rw [e]; exact N₁ _ (List.mem_append.mpr (.inl hmI))) fun hp => N₁ p (List.mem_append.mpr (.inr hp))
    have e1 : (0 : Int) + (i : Int) * 1 = (i : Int) := by omega
    rw [e1]
    refine wpAny_mono (turn s.heap.objs.size _ i t m₁ nx s₁ hin (fun p hp => Heap.lt_size (N p hp).1) (fun p hp e => hoff p hp (List.mem_singleton.mpr e)) hJ F₁ N₂) (fun _ s₃ h₃ => wpAny_mono h₃ (fun f s₄ h₄ => ?_) fun _ _ e => e) fun _ _ e => e
    obtain ⟨rfl, h', tk, m', news', nx', rfl, F', N', hI', hs', ho', hj'⟩ := h₄
    refine ⟨rfl, h', tk, m', nx', rfl, F', fun p hp => ?_, fun p hp e => ho' p hp (List.mem_singleton.mp e), hj'⟩
    rcases List.mem_append.mp hp with hp | hp
    · have h2 := List.mem_singleton.mp (hown p hp)
      have h3 := hget p hp
      rw [h2, hoI] at h3
      have h4 : p = (s.heap.objs.size, _) := Prod.ext h2 (Option.some.inj h3).symm
      rw [h4]; exact N' _ hI'
    · exact N' p (hs' p hp)
  · intro h' tk m' news' F' N' _ hJ
    exact done m' news' h' tk hJ F' N'
end
end Mine
end

section
-- Comp
open PySem PySem.W PyProof.Rows PySem.Calls PySem.Builtin PySem.Builtin.Str PyProof.Rows.LCg PyProof.Rows.LCt
namespace Mine
theorem calm_Comp : True := by
  w_top off
  k_with_none
  trivial
/-- the end of a comprehension's turn, the ledger's part as it was -/
noncomputable def CEnd (h₀ : Heap) (L : Addr) (m : Str → Option Value) (s₁ : Shared) (I : Addr) (oI : Obj) (C : Addr) (oC : Obj) (D : Addr) (oD : Obj) (news : List (Addr × Obj)) (K : Value → Prop) (y : Value) (s₂ : Shared) : Prop :=
  ∃ h' tk news', s₂ = { s₁ with heap := h', toks := tk } ∧ Fr h₀ L h' m ∧ News h₀ L h' news' ∧ (∀ p ∈ (I, oI) :: (C, oC) :: (D, oD) :: news, p ∈ news') ∧ K y
theorem CEnd.intro {h₀ : Heap} {L I C D : Addr} {m : Str → Option Value} {s₁ : Shared} {oI oC oD : Obj} {news news' : List (Addr × Obj)} {K : Value → Prop} {y : Value} {h' : Heap} {tk : Nat}
    (F : Fr h₀ L h' m) (N : News h₀ L h' news') (hs : ∀ p ∈ (I, oI) :: (C, oC) :: (D, oD) :: news, p ∈ news') (k : K y) : CEnd h₀ L m s₁ I oI C oC D oD news K y { s₁ with heap := h', toks := tk } := ⟨h', tk, news', rfl, F, N, hs, k⟩
theorem CEnd.end {h₀ : Heap} {L I C D : Addr} {m : Str → Option Value} {s₁ s₂ : Shared} {oI oC oD : Obj} {news : List (Addr × Obj)} {K : Value → Prop} {y : Value} {S : List (Addr × Obj) → Prop} {rest : Value → List (Addr × Obj) → Prop}
    (h : CEnd h₀ L m s₁ I oI C oC D oD news K y s₂) (off : Off3 I C D news) (hS : S news) (hr : K y → rest y news) : CompEnd h₀ L m s₁ I oI C oC D oD S rest y s₂ := by
  obtain ⟨h', tk, news', rfl, F, N, hs, k⟩ := h
  exact CompEnd.intro F N news hs off hS (hr k)
section
variable {prog : Program} {w : World} {A : Around} {E : Value → Shared → Prop} {s : Shared} {h₀ : Heap} {L : Addr} {m : Str → Option Value} {env : Env} {ct elt iter : Expr} {x y : Str} {px py : Pos} {scope : Scope} {cl : List (Str × Addr)} {pos spos : Pos}
noncomputable def SrcT (prog : Program) (w : World) (A : Around) (h₀ : Heap) (L : Addr) (m : Str → Option Value) (env : Env) (ct elt : Expr) (x : Str) (scope : Scope) (cl : List (Str × Addr)) (Fin : Shared → List Value → List (Addr × Obj) → Prop) (xv : Value) (s₁ : Shared) : Prop :=
  CompSrcT prog w A h₀ L m env ct elt x scope cl Fin xv s₁
noncomputable def SrcU (prog : Program) (w : World) (A : Around) (h₀ : Heap) (L : Addr) (m : Str → Option Value) (env : Env) (elt : Expr) (x : Str) (scope : Scope) (cl : List (Str × Addr)) (Fin : Shared → List Value → List (Addr × Obj) → Prop) (xv : Value) (s₁ : Shared) : Prop :=
  CompSrc prog w A h₀ L m env elt x scope cl Fin xv s₁
theorem comp_T {Q : Value → Shared → Prop} (F₀ : Fr h₀ L s.heap m)
    (hclos : closureFor scope env = pure cl) (hcell : ∀ y ∈ scope.names, y.2 ≠ .cell) (hkind : scope.kind = .function)
    (hnames : ∀ y ∈ scope.names, y.2 = .local → scope.names.lookup y.1 = some .local) (hx : scope.names.lookup x = some .local)
    (h : wpAny (model prog w) A (eval iter env) (SrcT prog w A h₀ L m env ct elt x scope cl (fun s₂ => FinE h₀ L m s₂ Q)) E s)
    (hs : ∀ x, foldedSetIterable iter env x = pure x := by intro _; rfl) :
    wpAny (model prog w) A (eval (.ListComp elt [⟨.Name x px, iter, [ct], 0⟩] scope pos) env) Q E s := LCt.ListComp_T F₀ hclos hcell hkind hnames hx h hs
theorem compA_T {Q : Flow → Shared → Prop} (F₀ : Fr h₀ L s.heap m) (hLe : env.locals = L)
    (hsw : swapsWith (.ListComp elt [⟨.Name x px, iter, [ct], 0⟩] scope pos) (some (.Name y py)) spos.line env = pure true)
    (hclos : closureFor scope env = pure cl) (hcell : ∀ z ∈ scope.names, z.2 ≠ .cell) (hkind : scope.kind = .function)
    (hnames : ∀ z ∈ scope.names, z.2 = .local → scope.names.lookup z.1 = some .local) (hx : scope.names.lookup x = some .local)
    (hy : env.kindOf y = some .local) (hp : (env.scope.kind == .class || (env.scope.kind == .module && env.locals != env.globals)) = false)
    (h : wpAny (model prog w) A (eval iter env) (SrcT prog w A h₀ L m env ct elt x scope cl (fun s₂ => FinA h₀ L m s₂ y Q)) E s)
    (hs : ∀ x, foldedSetIterable iter env x = pure x := by intro _; rfl) :
    wpAny (model prog w) A (exec (.Assign [.Name y py] (.ListComp elt [⟨.Name x px, iter, [ct], 0⟩] scope pos) spos) env) Q E s := LCt.Assign_ListComp_T F₀ hLe hsw hclos hcell hkind hnames hx hy hp h hs
theorem comp_U {Q : Value → Shared → Prop} (F₀ : Fr h₀ L s.heap m)
    (hclos : closureFor scope env = pure cl) (hcell : ∀ y ∈ scope.names, y.2 ≠ .cell) (hkind : scope.kind = .function)
    (hnames : ∀ y ∈ scope.names, y.2 = .local → scope.names.lookup y.1 = some .local) (hx : scope.names.lookup x = some .local)
    (h : wpAny (model prog w) A (eval iter env) (SrcU prog w A h₀ L m env elt x scope cl (fun s₂ => FinE h₀ L m s₂ Q)) E s)
    (hs : ∀ x, foldedSetIterable iter env x = pure x := by intro _; rfl) :
    wpAny (model prog w) A (eval (.ListComp elt [⟨.Name x px, iter, [], 0⟩] scope pos) env) Q E s := LCg.ListComp_U F₀ hclos hcell hkind hnames hx h hs
theorem rest_T {S : List (Addr × Obj) → Prop} {P : Nat → Value → Prop} {Fin : List Value → List (Addr × Obj) → Prop} {n : Nat} {news : List (Addr × Obj)} (J : Nat → List Value → Prop) (hS : S news)
    (step : ∀ i ys v I oI C oC D m₂ h tk (E' : Value → Shared → Prop), i < n → J i ys → P i v → NsObj oC m₂ → m₂ x = some v → Fr h₀ L h m → News h₀ L h ((I, oI) :: (C, oC) :: (D, lst ys) :: news) → Off3 I C D news → ((@Ne Nat I C) ∧ (@Ne Nat I D) ∧ (@Ne Nat C D)) →
      wpAny (model prog w) A (isTrue ct (compEnvC scope cl C env) (eval ct (compEnvC scope cl C env))) (fun ok s' => if ok = true then
        wpAny (model prog w) A (eval elt (compEnvC scope cl C env)) (CEnd h₀ L m { s with heap := h, toks := tk } I oI C oC D (lst ys) news (fun y => J (i + 1) (ys ++ [y]))) E' s'
        else CEnd h₀ L m { s with heap := h, toks := tk } I oI C oC D (lst ys) news (fun _ => J (i + 1) ys) Value.none s') E' { s with heap := h, toks := tk })
    (fin : ∀ ys, J n ys → Fin ys news) : ∀ k i ys, i + k = n → J i ys → CompRestT prog w A h₀ L m env ct elt x scope cl s S P Fin k i ys news
  | 0, i, ys, e, hj => CompRestT.zero (fin ys (by have e' : i = n := e; rw [← e']; exact hj))
  | k + 1, i, ys, e, hj => CompRestT.succ fun v I oI C oC D m₂ h tk E' hv hC hx F N off ne => by
    refine wpAny_mono (step i ys v I oI C oC D m₂ h tk E' (by omega) hj hv hC hx F N off ne) (fun ok s' hk => ?_) fun _ _ q => q
    cases ok with
    | true =>
      simp only [if_true] at hk ⊢
      exact wpAny_mono hk (fun y s₂ h₂ => h₂.end off hS fun hj' => rest_T J hS step fin k (i + 1) _ (by omega) hj') fun _ _ q => q
    | false =>
      simp only [Bool.false_eq_true, if_false] at hk ⊢
      exact hk.end off hS fun hj' => rest_T J hS step fin k (i + 1) _ (by omega) hj'
theorem rest_U {S : List (Addr × Obj) → Prop} {P : Nat → Value → Prop} {Fin : List Value → List (Addr × Obj) → Prop} {n : Nat} {news : List (Addr × Obj)} (J : Nat → List Value → Prop) (hS : S news)
    (step : ∀ i ys v I oI C oC D m₂ h tk (E' : Value → Shared → Prop), i < n → J i ys → P i v → NsObj oC m₂ → m₂ x = some v → Fr h₀ L h m → News h₀ L h ((I, oI) :: (C, oC) :: (D, lst ys) :: news) → Off3 I C D news → ((@Ne Nat I C) ∧ (@Ne Nat I D) ∧ (@Ne Nat C D)) →
      wpAny (model prog w) A (eval elt (compEnvC scope cl C env)) (CEnd h₀ L m { s with heap := h, toks := tk } I oI C oC D (lst ys) news (fun y => J (i + 1) (ys ++ [y]))) E' { s with heap := h, toks := tk })
    (fin : ∀ ys, J n ys → Fin ys news) : ∀ k i ys, i + k = n → J i ys → CompRest prog w A h₀ L m env elt x scope cl s S P Fin k i ys news
  | 0, i, ys, e, hj => CompRest.zero (fin ys (by have e' : i = n := e; rw [← e']; exact hj))
  | k + 1, i, ys, e, hj => CompRest.succ fun v I oI C oC D m₂ h tk E' hv hC hx F N off ne => by
    exact wpAny_mono (step i ys v I oI C oC D m₂ h tk E' (by omega) hj hv hC hx F N off ne) (fun y s₂ h₂ => h₂.end off hS fun hj' => rest_U J hS step fin k (i + 1) _ (by omega) hj') fun _ _ q => q
theorem SrcT.list {Fin : Shared → List Value → List (Addr × Obj) → Prop} {ax : Addr} {vs : List Value} {k : Nat} {news : List (Addr × Obj)} {s₁ : Shared} (J : Nat → List Value → Prop)
    (hh : A.handled = none) (F : Fr h₀ L s₁.heap m) (N : News h₀ L s₁.heap news) (hm : (ax, listOf vs.toArray k) ∈ news) (hsz : vs.length ≤ sizeLine) (hj : J 0 [])
    (step : ∀ (g : Heap) i ys v I oI C oC D m₂ h tk (E' : Value → Shared → Prop), i < vs.length → J i ys → vs[i]? = some v → NsObj oC m₂ → m₂ x = some v → Fr h₀ L h m → News h₀ L h ((I, oI) :: (C, oC) :: (D, lst ys) :: news) → Off3 I C D news → ((@Ne Nat I C) ∧ (@Ne Nat I D) ∧ (@Ne Nat C D)) →
      wpAny (model prog w) A (isTrue ct (compEnvC scope cl C env) (eval ct (compEnvC scope cl C env))) (fun ok s' => if ok = true then
        wpAny (model prog w) A (eval elt (compEnvC scope cl C env)) (CEnd h₀ L m { s₁ with heap := h, toks := tk } I oI C oC D (lst ys) news (fun y => J (i + 1) (ys ++ [y]))) E' s'
        else CEnd h₀ L m { s₁ with heap := h, toks := tk } I oI C oC D (lst ys) news (fun _ => J (i + 1) ys) Value.none s') E' { s₁ with heap := h, toks := tk })
    (fin : ∀ g ys, J vs.length ys → Fin { s₁ with heap := g } ys news) : SrcT prog w A h₀ L m env ct elt x scope cl Fin (.ref ax) s₁ :=
  CompSrcT.ledger hh F N hm (by simpa using hsz) fun g => rest_T (s := { s₁ with heap := g }) (n := vs.toArray.size) J (.inr ⟨_, hm, rfl, _, rfl⟩)
    (fun i ys v I oI C oC D m₂ h tk E' hi hj' hv => step g i ys v I oI C oC D m₂ h tk E' (by simpa using hi) hj' (by simpa using hv)) (fun ys hj' => fin g ys (by simpa using hj')) _ 0 [] (by simp) hj
theorem SrcU.list {Fin : Shared → List Value → List (Addr × Obj) → Prop} {ax : Addr} {vs : List Value} {k : Nat} {news : List (Addr × Obj)} {s₁ : Shared} (J : Nat → List Value → Prop)
    (hh : A.handled = none) (F : Fr h₀ L s₁.heap m) (N : News h₀ L s₁.heap news) (hm : (ax, listOf vs.toArray k) ∈ news) (hsz : vs.length ≤ sizeLine) (hj : J 0 [])
    (step : ∀ (g : Heap) i ys v I oI C oC D m₂ h tk (E' : Value → Shared → Prop), i < vs.length → J i ys → vs[i]? = some v → NsObj oC m₂ → m₂ x = some v → Fr h₀ L h m → News h₀ L h ((I, oI) :: (C, oC) :: (D, lst ys) :: news) → Off3 I C D news → ((@Ne Nat I C) ∧ (@Ne Nat I D) ∧ (@Ne Nat C D)) →
      wpAny (model prog w) A (eval elt (compEnvC scope cl C env)) (CEnd h₀ L m { s₁ with heap := h, toks := tk } I oI C oC D (lst ys) news (fun y => J (i + 1) (ys ++ [y]))) E' { s₁ with heap := h, toks := tk })
    (fin : ∀ g ys, J vs.length ys → Fin { s₁ with heap := g } ys news) : SrcU prog w A h₀ L m env elt x scope cl Fin (.ref ax) s₁ :=
  CompSrc.ledger hh F N hm (by simpa using hsz) fun g => rest_U (s := { s₁ with heap := g }) (n := vs.toArray.size) J (.inr ⟨_, hm, rfl, _, rfl⟩)
    (fun i ys v I oI C oC D m₂ h tk E' hi hj' hv => step g i ys v I oI C oC D m₂ h tk E' (by simpa using hi) hj' (by simpa using hv)) (fun ys hj' => fin g ys (by simpa using hj')) _ 0 [] (by simp) hj
theorem SrcT.range {Fin : Shared → List Value → List (Addr × Obj) → Prop} {r : Addr} {b : Int} {t u v : Tok} {n : Nat} {news : List (Addr × Obj)} {s₁ : Shared} (J : Nat → List Value → Prop)
    (hh : A.handled = none) (F : Fr h₀ L s₁.heap m) (N : News h₀ L s₁.heap news) (hr : IsRange s₁.heap r 0 b 1 t u v) (hsm : Builtin.Range.small 0 b 1 = true) (hn : Builtin.Range.rangeSize 0 b 1 = ((n : Nat) : Int)) (hsz : n ≤ sizeLine) (hj : J 0 [])
    (step : ∀ (g : Heap) i ys t I oI C oC D m₂ h tk (E' : Value → Shared → Prop), i < n → J i ys → NsObj oC m₂ → m₂ x = some (.int (i : Int) t) → Fr h₀ L h m → News h₀ L h ((I, oI) :: (C, oC) :: (D, lst ys) :: news) → Off3 I C D news → ((@Ne Nat I C) ∧ (@Ne Nat I D) ∧ (@Ne Nat C D)) →
      wpAny (model prog w) A (isTrue ct (compEnvC scope cl C env) (eval ct (compEnvC scope cl C env))) (fun ok s' => if ok = true then
        wpAny (model prog w) A (eval elt (compEnvC scope cl C env)) (CEnd h₀ L m { s₁ with heap := h, toks := tk } I oI C oC D (lst ys) news (fun y => J (i + 1) (ys ++ [y]))) E' s'
        else CEnd h₀ L m { s₁ with heap := h, toks := tk } I oI C oC D (lst ys) news (fun _ => J (i + 1) ys) Value.none s') E' { s₁ with heap := h, toks := tk })
    (fin : ∀ g ys, J n ys → Fin { s₁ with heap := g } ys news) : SrcT prog w A h₀ L m env ct elt x scope cl Fin (.ref r) s₁ :=
  CompSrcT.range hh F N hr hsm hn hsz fun g => rest_T (s := { s₁ with heap := g }) (n := n) J trivial
    (fun i ys v I oI C oC D m₂ h tk E' hi hj' ⟨t, hv⟩ hC hx => by
      have e : (0 : Int) + (i : Int) = (i : Int) := by omega
      rw [e] at hv
      subst hv
      exact step g i ys t I oI C oC D m₂ h tk E' hi hj' hC hx) (fun ys hj' => fin g ys hj') _ 0 [] (by simp) hj
end
end Mine
end

section
-- F1
open PySem PySem.W PyProof.Rows PySem.Calls PySem.Builtin PySem.Builtin.Str
namespace Mine
theorem calm_F1 : True := by
  w_top off
  k_with_none
  trivial
noncomputable def stripF (x : Str) : Str := if 0 ≤ rfind4 x (Str.ofString ".") 0 (x.length : Int) then Txt.slice x (some (rfind4 x (Str.ofString ".") 0 (x.length : Int) + 1)) (some (x.length : Int)) else Txt.slice x (some 0) (some (x.length : Int))
theorem strip_call (w : World) (loose : List Str) (mean : ExcName → Option Value) (mg mb : Str → Option Value) (news : List (Addr × Obj)) (x : Str) (t : Tok) (hx : x.length < 100) (h1 : Txt.find x (Str.ofString "\n") = -1) (h2 : find4 x (Str.ofString ":") 0 (x.length : Int) = -1) :
  Tell w loose mean mg mb 2 28 [.str x t] [] news (fun r n => n = news ∧ ∃ u, r = .str (stripF x) u) := by
  k_with_none
  k_with "call builtin:str.find" => (((with_reducible show wpAny _ _ (call (Value.builtin "str.find") [Value.str _ _, Value.str _ _, Value.int _ _, Value.int _ _]) _ _ _); (refine call_find4e (by assumption) (by omega) ?_)))
  k_with "call builtin:str.find" => (((with_reducible show wpAny _ _ (call (Value.builtin "str.find") [Value.str _ _, Value.str _ _]) _ _ _); (refine call_find2 (by assumption) ?_)))
  k_with "call builtin:str.rfind" => (((with_reducible show wpAny _ _ (call (Value.builtin "str.rfind") [Value.str _ _, Value.str _ _, Value.int _ _, Value.int _ _]) _ _ _); (refine call_rfind4e (by assumption) (by omega) ?_)))
  unfold Tell
  k_fill
  intro dp un gd cn cs a ccd cl outer A₀ base h₀ L m s Q E B F X N T hk hd hu hret
  have kMk := kstMark
  refine wpAny_call ?_
  k_dflt (refine' code_def ?k1 ?k2 ?k3 ?k4 ?k5 ?kA ?kF ?kK ?k6 ?k7 ?k8 ?k9 ?kB ?_ ?c2 ?c3 ?c4 ?c5; (case kA => exact rfl); (case kF => exact rfl); (case kK => assumption); (case k1 => k_asm); (case k2 => k_asm); (case k3 => k_asm); (case k4 => k_asm); (case k5 => k_asm); (case k6 => k_is); (case k7 => k_is); (case k8 => ktr_room); (case k9 => first | exact BindsTo.of_eq rfl | exact binds_K (by k_in) rfl (by k_is) rfl rfl rfl | (refine' kp_binds ?kx ?ke; (case kx => k_in); (case ke => exact fun _ => rfl)) | fail "k_enter: no rule for these arguments"); (case c5 => decide); (case kB => exact locs rfl); (case c2 => exact rfl); (case c3 => exact rfl); (case c4 => exact rfl); k_whole; intro g' L' h' FG' F' N' B' X' T'; (try dsimp only); (try k_lift B'); (try k_fold))
  replace F' := fr_kst [(Str.ofString "msg", _)] F'
  obtain ⟨rf, h3⟩ : ∃ r, rfind4 x (Str.ofString ".") 0 (x.length : Int) = r := ⟨_, rfl⟩
  unfold stripF at hret
  rw [h3] at hret
  k_steps
  all_goals (refine hret _ news _ _ (by assumption) (cb_drop (by assumption) (by kcj_all)) ⟨rfl, _, congrArg (fun q => Value.str q _) ?_⟩)
  · rw [if_pos (by assumption)]
    refine congrArg (fun q => Txt.slice x (some (rf + 1)) (some q)) ?_
    omega
  · rw [if_neg (by assumption)]
    refine congrArg (fun q => Txt.slice x (some 0) (some q)) ?_
    omega
end Mine
end

section
-- F2
open PySem PySem.W PyProof.Rows PySem.Calls PySem.Builtin PySem.Builtin.Str
namespace Mine
theorem calm_F2 : True := by
  w_top off
  k_with_none
  trivial
noncomputable def buildF (l e : Option Str) : Str := match e with
  | none => l.getD (Str.ofString "C")
  | some y => l.getD (Str.ofString "C") ++ Str.ofString "." ++ y
theorem build_call (w : World) (loose : List Str) (mean : ExcName → Option Value) (mg mb : Str → Option Value) (news : List (Addr × Obj)) (p : Addr) (l e : Option Str) (t u : Tok) (n : Nat) (hp : (p, { cls := .type "tuple", data := .seq #[optV l t, optV e u] n }) ∈ news) (hl : ∀ x, l = some x → x.length < 100) (he : ∀ x, e = some x → x.length < 100) :
  Tell w loose mean mg mb 2 53 [.ref p] [] news (fun r n => n = news ∧ ∃ v, r = .str (buildF l e) v) := by
  unfold Tell
  k_fill
  intro dp un gd cn cs a ccd cl outer A₀ base h₀ L m s Q E B F X N T hk hd hu hret
  have kMk := kstMark
  refine wpAny_call ?_
  k_dflt (refine' code_def ?k1 ?k2 ?k3 ?k4 ?k5 ?kA ?kF ?kK ?k6 ?k7 ?k8 ?k9 ?kB ?_ ?c2 ?c3 ?c4 ?c5; (case kA => exact rfl); (case kF => exact rfl); (case kK => assumption); (case k1 => k_asm); (case k2 => k_asm); (case k3 => k_asm); (case k4 => k_asm); (case k5 => k_asm); (case k6 => k_is); (case k7 => k_is); (case k8 => ktr_room); (case k9 => first | exact BindsTo.of_eq rfl | exact binds_K (by k_in) rfl (by k_is) rfl rfl rfl | (refine' kp_binds ?kx ?ke; (case kx => k_in); (case ke => exact fun _ => rfl)) | fail "k_enter: no rule for these arguments"); (case c5 => decide); (case kB => exact locs rfl); (case c2 => exact rfl); (case c3 => exact rfl); (case c4 => exact rfl); k_whole; intro g' L' h' FG' F' N' B' X' T'; (try dsimp only); (try k_lift B'); (try k_fold))
  replace F' := fr_kst [(Str.ofString "localetuple", _)] F'
  cases l with
  | none =>
    cases e with
    | none =>
      dsimp only [optV] at hp
      k_steps
      exact hret _ news _ _ (by assumption) (by assumption) ⟨rfl, _, rfl⟩
    | some y =>
      have hy := he y rfl
      dsimp only [optV] at hp
      k_steps
      exact hret _ news _ _ (by assumption) (by assumption) ⟨rfl, _, rfl⟩
  | some x =>
    have hx := hl x rfl
    cases e with
    | none =>
      dsimp only [optV] at hp
      k_steps
      exact hret _ news _ _ (by assumption) (by assumption) ⟨rfl, _, rfl⟩
    | some y =>
      have hy := he y rfl
      dsimp only [optV] at hp
      k_steps
      exact hret _ news _ _ (by assumption) (by assumption) ⟨rfl, _, rfl⟩
end Mine
end

section
-- F3
open PySem PySem.W PyProof.Rows PySem.Calls PySem.Builtin PySem.Builtin.Str
namespace Mine
theorem calm_F3 : True := by
  w_top off
  k_with_none
  trivial
noncomputable def fitsF (x y z : Str) : Bool := if (x.length : Int) < (y.length : Int) + (z.length : Int) then false else (Txt.slice x none (some (y.length : Int)) == y) && (Txt.slice x (some ((x.length : Int) - (z.length : Int))) none == z)
theorem fits_call (w : World) (loose : List Str) (mean : ExcName → Option Value) (mg mb : Str → Option Value) (news : List (Addr × Obj)) (x y z : Str) (t u v : Tok) (hx : x.length < 100) (hy : y.length < 100) (hz : z.length < 100) :
  Tell w loose mean mg mb 2 75 [.str x t, .str y u, .str z v] [] news (fun r n => n = news ∧ r = .bool (fitsF x y z)) := by
  unfold Tell
  k_fill
  intro dp un gd cn cs a ccd cl outer A₀ base h₀ L m s Q E B F X N T hk hd hu hret
  have kMk := kstMark
  refine wpAny_call ?_
  k_dflt (refine' code_def ?k1 ?k2 ?k3 ?k4 ?k5 ?kA ?kF ?kK ?k6 ?k7 ?k8 ?k9 ?kB ?_ ?c2 ?c3 ?c4 ?c5; (case kA => exact rfl); (case kF => exact rfl); (case kK => assumption); (case k1 => k_asm); (case k2 => k_asm); (case k3 => k_asm); (case k4 => k_asm); (case k5 => k_asm); (case k6 => k_is); (case k7 => k_is); (case k8 => ktr_room); (case k9 => first | exact BindsTo.of_eq rfl | exact binds_K (by k_in) rfl (by k_is) rfl rfl rfl | (refine' kp_binds ?kx ?ke; (case kx => k_in); (case ke => exact fun _ => rfl)) | fail "k_enter: no rule for these arguments"); (case c5 => decide); (case kB => exact locs rfl); (case c2 => exact rfl); (case c3 => exact rfl); (case c4 => exact rfl); k_whole; intro g' L' h' FG' F' N' B' X' T'; (try dsimp only); (try k_lift B'); (try k_fold))
  replace F' := fr_kst [(Str.ofString "back", _), (Str.ofString "front", _), (Str.ofString "name", _)] F'
  k_steps
  all_goals (refine hret _ news _ _ (by assumption) (by assumption) ⟨rfl, ?_⟩; unfold fitsF)
  · rw [if_pos (by assumption)]
  · rename_i h5 _ _ _ _ _ _ _ _ _ _
    rw [if_neg (by assumption)]
    simp_all
  · rw [if_neg (by assumption)]
    simp_all
end Mine
end

section
-- F4
open PySem PySem.W PyProof.Rows PySem.Calls PySem.Builtin PySem.Builtin.Str
namespace Mine
theorem calm_F4 : True := by
  w_top off
  k_with_none
  trivial
noncomputable def hitF (w : Nat) (m : Int) : Bool := decide (bitAnd m (7 - (w : Int)) ≠ 0)
noncomputable def cntF (ns : List Int) (w : Nat) : Int := (((ns.filter (hitF w)).length : Nat) : Int)
noncomputable def popF : List Int := [0, 1, 1, 2, 1, 2, 2, 3]
noncomputable def sumsF (ns : List Int) (i : Nat) : List Int := (List.range i).map fun w => popF.getD w 0 + cntF ns w
noncomputable def mostF (ns : List Int) : Int := ((sumsF ns 8).min?).getD 0
theorem mostF_is {ns : List Int} {M : Int} (h1 : M ∈ sumsF ns 8) (h2 : ∀ a ∈ sumsF ns 8, M ≤ a) : M = mostF ns := by
  unfold mostF
  rw [(List.min?_eq_some_iff).mpr ⟨h1, h2⟩]
  rfl
theorem sumsF_succ (ns : List Int) (i : Nat) : sumsF ns (i + 1) = sumsF ns i ++ [popF.getD i 0 + cntF ns i] := by simp [sumsF, List.range_succ]
theorem most_call (w : World) (loose : List Str) (mean : ExcName → Option Value) (mg mb : Str → Option Value) (news : List (Addr × Obj)) (l : Addr) (vs : List Value) (ns : List Int) (n : Nat) (hl : (l, listOf vs.toArray n) ∈ news) (hI : IntsAre vs ns) (hlen : ns.length ≤ 5) (hb : ∀ k ∈ ns, 0 ≤ k ∧ k < 8) :
  Tell w loose mean mg mb 2 87 [.ref l] [] news (fun r n => n = news ∧ ∃ t, r = .int (mostF ns) t) := by
  k_with_none
  k_with "callWith" => (((with_reducible show wpAny _ _ (callWith _ (Value.builtin "list.append") (_ :: _) _ _) _ _ _); k_dflt (refine callWith_method1 ?_)))
  k_with "eval ListComp" => ((k_here; k_dflt (refine comp_T (F₀ := by k_asm) (by with_unfolding_all rfl) (by decide) (by rfl) (by decide) (by rfl) ?_)))
  unfold Tell
  k_fill
  intro dp un gd cn cs a ccd cl outer A₀ base h₀ L m s Q E B F X N T hk hd hu hret
  have kMk := kstMark
  refine wpAny_call ?_
  k_dflt (refine' code_defC ?k1 ?k2 ?k3 ?k4 ?k5 ?kA ?kF ?kK ?k6 ?k7 ?k8 ?k9 ?kB ?kD ?_ ?c2 ?c3 ?c4; (case kA => exact rfl); (case kF => exact rfl); (case kK => assumption); (case k1 => k_asm); (case k2 => k_asm); (case k3 => k_asm); (case k4 => k_asm); (case k5 => k_asm); (case k6 => k_is); (case k7 => k_is); (case k8 => ktr_room); (case k9 => first | exact BindsTo.of_eq rfl | exact binds_K (by k_in) rfl (by k_is) rfl rfl rfl | (refine' kp_binds ?kx ?ke; (case kx => k_in); (case ke => exact fun _ => rfl)) | fail "k_enter: no rule for these arguments"); (case kB => exact rfl); (case kD => decide +kernel); (case c2 => exact rfl); (case c3 => exact rfl); (case c4 => exact rfl); k_whole; intro g' L' h' tk' cells' FG' F' N' Y' B' X' T' l1; (try k_lt l1); k_cells Y'; (try simp only [List.cons_append, List.nil_append] at N'); (try dsimp only); (try k_lift B'); (try k_fold))
  have lC : AllLt (L' + 1) news := allLt_of fun p hp => Nat.lt_succ_of_lt (l1 p hp)
  k_steps
  (rename Fr _ _ _ _ => lF')
  with_unfolding_all refine' For_invTF lF' ?_ ?hs
  case hs => intro _; rfl
  k_steps
  rename_i oC0 dC0 lS _ hlS _ _ _ _ _ _ _ _ hR F5 N5 _
  with_unfolding_all refine' iterT_range (L := L') (n := 8) (fun i m nx => ∃ (vS : List Value) (nS : Nat) (oC : Obj) (v₀ : Option Value), nx = (lS, listOf vS.toArray nS) :: (L' + 1, oC) :: news ∧ IntsAre vS (sumsF ns i) ∧ oC.data = .cell v₀ ∧ m = _) rfl rfl hR (by decide) (by rfl) F5 N5 ⟨[], 0, oC0, _, rfl, .nil, dC0, rfl⟩ ?_ ?_
  · intro I oI i t m₁ nx s₁ hi hlt hoff hPz1 F₁ N₁
    obtain ⟨vS, nS, oC, v₀, hnx, hS, hC, hm⟩ := hPz1
    subst hnx
    subst hm
    k_lt hlt
    clear F5 N5
    k_steps
    rename_i F6 N6 _ _
    have hvl : vs.length = ns.length := hI.length
    k_dflt (refine SrcT.list (vs := vs) (fun j ys => IntsAre ys ((ns.take j).filter (hitF i))) rfl F6 N6 (by kst_mem) (by rw [sizeLine_eq]; omega) .nil ?_ ?_)
    · intro g j ys v I' oI' C oC' D m₂ h tk E' hj hJ hv hC' hx F N off ne
      obtain ⟨nv, tv, rfl, hnj⟩ := intsAre_at hI hv
      have htk : ns.take (j + 1) = ns.take j ++ [nv] := by simp [List.take_add_one, hnj]
      simp only [LCg.Off3] at off
      clear F6 N6
      k_steps
      · rename_i hc
        refine CEnd.intro (by assumption) (by assumption) (fun p hp => hp) ?_
        rw [htk, List.filter_append, List.filter_cons_of_pos (by simpa [hitF] using hc), List.filter_nil]
        exact intsAre_snoc hJ
      · rename_i hc
        refine CEnd.intro (by assumption) (by assumption) (fun p hp => hp) ?_
        rw [htk, List.filter_append, List.filter_cons_of_neg (by simpa [hitF] using hc), List.filter_nil, List.append_nil]
        exact hJ
    · intro g ys hJ D h tk F N off
      have hJ' : IntsAre ys (ns.filter (hitF i)) := by rw [hvl, List.take_length] at hJ; exact hJ
      have hyl := hJ'.length
      have hfl := List.length_filter_le (hitF i) ns
      clear F6 N6 hJ
      simp only [LCg.Off1] at off
      have hvS : vS.length = i := by rw [hS.length]; simp [sumsF]
      k_steps
      rename_i F9 N9
      simp only [List.push_toArray] at N9
      refine TurnEnd.intro ((lS, _) :: (L' + 1, _) :: news) F9 N9 (by k_memK) (by kst_inAny) (fun p hp => Nat.ne_of_lt (kst_ltOf (l := (lS, _) :: (L' + 1, _) :: news) hlt p hp)) ⟨_, _, _, _, rfl, ?_, by assumption, rfl⟩
      rw [sumsF_succ]
      exact intsAre_snoc hS
  · intro m₁ nx h tk hPz2 F₁ N₁
    obtain ⟨vS, nS, oC, v₀, hnx, hS, hC, hm⟩ := hPz2
    subst hnx
    subst hm
    clear F5 N5
    have hSl : (sumsF ns 8).length = 8 := by simp [sumsF]
    k_steps
    exact hret _ news _ _ (by assumption) (cb_drop (by assumption) (by kcj_all)) ⟨rfl, _, congrArg (fun q => Value.int q _) (mostF_is (by assumption) (by assumption))⟩
end Mine
end

section
-- F5
open PySem PySem.W PyProof.Rows PySem.Calls PySem.Builtin PySem.Builtin.Str
namespace Mine
theorem calm_F5 : True := by
  w_top off
  k_with_none
  trivial
local macro_rules | `(tactic| walk_at "call builtin:str.split") => `(tactic| (k_here; k_dflt (refine' split_two ?k1 ?k2 ?k3 ?k4 ?k5 ?_; (case k1 => k_asm); (case k2 => k_asm); (case k3 => exact rfl); (case k4 => (rw [sizeLine_eq]; omega)); (case k5 => assumption); k_whole); intro D' h' k' t1' t2' F' N' l1; (try k_lt l1)))
noncomputable def ellF (f b y : Str) : Bool := if f ≠ Str.ofString "" ∧ Txt.startswith y f = false then false else if b ≠ Str.ofString "" ∧ Txt.endswith y b = false then false else if (y.length : Int) - (b.length : Int) < (f.length : Int) then false else true
theorem str_pos {b : Str} (h : ¬ b = Str.ofString "") : 0 < b.length := by
  refine Nat.pos_of_ne_zero fun e => h ?_
  have e1 : b.cps = #[] := Array.eq_empty_of_size_eq_zero e
  have e2 : Str.ofString "" = ⟨#[]⟩ := by decide +kernel
  rw [e2, ← e1]
theorem ell_nf {f b y : Str} (h : ¬ f = Str.ofString "") (h2 : Txt.startswith y f = false) : false = ellF f b y := by
  unfold ellF; rw [if_pos ⟨h, h2⟩]
theorem ell_nb {f b y : Str} (h : f = Str.ofString "" ∨ Txt.startswith y f = true) (h1 : ¬ b = Str.ofString "") (h2 : Txt.endswith y b = false) : false = ellF f b y := by
  unfold ellF
  rw [if_neg (by rcases h with h | h <;> simp [h]), if_pos ⟨h1, h2⟩]
theorem ell_short {f b y : Str} (h : f = Str.ofString "" ∨ Txt.startswith y f = true) (h1 : b = Str.ofString "" ∨ Txt.endswith y b = true) (h2 : (y.length : Int) - (b.length : Int) < (f.length : Int)) : false = ellF f b y := by
  unfold ellF
  rw [if_neg (by rcases h with h | h <;> simp [h]), if_neg (by rcases h1 with h | h <;> simp [h]), if_pos h2]
theorem ell_ok {f b y : Str} (h : f = Str.ofString "" ∨ Txt.startswith y f = true) (h1 : b = Str.ofString "" ∨ Txt.endswith y b = true) (h2 : ¬ (y.length : Int) - (b.length : Int) < (f.length : Int)) : true = ellF f b y := by
  unfold ellF
  rw [if_neg (by rcases h with h | h <;> simp [h]), if_neg (by rcases h1 with h | h <;> simp [h]), if_neg h2]
theorem ell_call (w : World) (loose : List Str) (mean : ExcName → Option Value) (mg mb : Str → Option Value) (news : List (Addr × Obj)) (x y f b : Str) (t u : Tok) (hx : x.length < 100) (hy : y.length < 100) (hf : f.length < 100) (hb : b.length < 100) (h1 : (occurrences x (Str.ofString "...") 0 x.length 1).isEmpty = false) (h2 : Txt.split x (Str.ofString "...") = [f, b]) (hfind : ∀ i j : Int, 0 ≤ i → i ≤ j → j ≤ (y.length : Int) → find4 y (Str.ofString "") i j = i) :
  Tell w loose mean mg mb 2 21 [.str x t, .str y u] [] news (fun r n => n = news ∧ r = .bool (ellF f b y)) := by
  k_with_none
  k_with "exec For" => ((with_reducible refine stopW ?_))
  k_with "exec For Name Name cons nil" => ((with_reducible refine stopW ?_))
  k_with "exec For Name Call cons nil" => ((with_reducible refine stopW ?_))
  k_with "call builtin:str.find" => (((with_reducible show wpAny _ _ (call (Value.builtin "str.find") [Value.str _ _, Value.str _ _, Value.int _ _, Value.int _ _]) _ _ _); (refine call_find4 (by assumption) ?_)))
  unfold Tell
  k_fill
  intro dp un gd cn cs a ccd cl outer A₀ base h₀ L m s Q E B F X N T hk hd hu hret
  have kMk := kstMark
  refine wpAny_call ?_
  k_dflt (refine' code_def ?k1 ?k2 ?k3 ?k4 ?k5 ?kA ?kF ?kK ?k6 ?k7 ?k8 ?k9 ?kB ?_ ?c2 ?c3 ?c4 ?c5; (case kA => exact rfl); (case kF => exact rfl); (case kK => assumption); (case k1 => k_asm); (case k2 => k_asm); (case k3 => k_asm); (case k4 => k_asm); (case k5 => k_asm); (case k6 => k_is); (case k7 => k_is); (case k8 => ktr_room); (case k9 => first | exact BindsTo.of_eq rfl | exact binds_K (by k_in) rfl (by k_is) rfl rfl rfl | (refine' kp_binds ?kx ?ke; (case kx => k_in); (case ke => exact fun _ => rfl)) | fail "k_enter: no rule for these arguments"); (case c5 => decide); (case kB => exact locs rfl); (case c2 => exact rfl); (case c3 => exact rfl); (case c4 => exact rfl); k_whole; intro g' L' h' FG' F' N' B' X' T'; (try dsimp only); (try k_lift B'); (try k_fold))
  replace F' := fr_kst [(Str.ofString "got", _), (Str.ofString "want", _)] F'
  have h00 : (Str.ofString "").length = 0 := rfl
  by_cases e1 : f = Str.ofString "" <;> by_cases e2 : b = Str.ofString ""
  · subst e1; subst e2
    k_steps
    · unfold StopW
      (rename Fr _ _ _ _ => lF'); (rename News _ _ _ _ => lN')
      with_unfolding_all refine' For_invTF lF' ?_ ?hs
      case hs => intro _; rfl
      k_steps
      with_unfolding_all refine' iterT_list (fun i m nx => nx = _ ∧ ∃ q t, q = 0 ∧ FrAs _ m [(Str.ofString "startpos", Value.int q t)] [Str.ofString "w"]) rfl rfl ?hl lF' lN' ⟨rfl, _, _, rfl, FrAs.refl (all1 rfl)⟩ ?hJl ?_ ?_
      case hl => k_memK
      case hJl => (intro _ _ _ hJ; rw [hJ.1]; k_memK)
      · intro I oI i v m₁ nx s₁ hv hlt hoff hPz1 F₁ N₁
        obtain ⟨hnx, q, tq, hq, hF⟩ := hPz1
        subst hnx
        subst hq
        have F₂ := hF.fr F₁
        clear F₁ lF' lN'
        k_lt hlt
        have hfd : find4 y (Str.ofString "") (0) ((y.length : Int)) = 0 := hfind _ _ (by omega) (by omega) (by omega)
        obtain ⟨tv, rfl⟩ : ∃ tv, v = .str (Str.ofString "") tv := by
          rcases i with _ | _ | i <;> simp at hv <;> exact ⟨_, hv.symm⟩
        k_steps
        rename_i F9 N9
        refine TurnEnd.intro _ F9 N9 (by k_memK) (by kst_inAny) ?_ ⟨rfl, _, _, ?_, all1 rfl, ?_⟩
        · refine offLt ?_; exact hlt
        · first | rfl | (simp; done) | omega
        · intro z h2 h3
          simp only [List.forall_mem_cons, List.not_mem_nil, false_implies, implies_true, and_true, ne_eq] at h2
          simp only [List.contains_cons, List.contains_nil, Bool.or_false, beq_eq_false_iff_ne, ne_eq] at h3
          simp [h2, h3, kstB]
      · intro m₁ nx h tk hPz2 F₁ N₁
        obtain ⟨hnx, q, tq, hq, hF⟩ := hPz2
        subst hnx
        clear lF' lN'
        have F₂ := hF.fr F₁
        clear F₁
        k_steps
        first | (exfalso; omega) | (refine hret _ news _ _ (by assumption) (cb_drop (by assumption) (by kcj_all)) ⟨rfl, congrArg Value.bool ?_⟩; first | exact ell_nf (by assumption) (by assumption) | exact ell_nb (by first | exact .inl rfl | exact .inr (by assumption)) (by assumption) (by assumption) | exact ell_short (by first | exact .inl rfl | exact .inr (by assumption)) (by first | exact .inl rfl | exact .inr (by assumption)) (by omega) | exact ell_ok (by first | exact .inl rfl | exact .inr (by assumption)) (by first | exact .inl rfl | exact .inr (by assumption)) (by omega))
  · subst e1
    have hbp := str_pos e2
    k_steps
    any_goals first | (exfalso; omega) | (refine hret _ news _ _ (by assumption) (cb_drop (by assumption) (by kcj_all)) ⟨rfl, congrArg Value.bool ?_⟩; first | exact ell_nf (by assumption) (by assumption) | exact ell_nb (by first | exact .inl rfl | exact .inr (by assumption)) (by assumption) (by assumption) | exact ell_short (by first | exact .inl rfl | exact .inr (by assumption)) (by first | exact .inl rfl | exact .inr (by assumption)) (by omega) | exact ell_ok (by first | exact .inl rfl | exact .inr (by assumption)) (by first | exact .inl rfl | exact .inr (by assumption)) (by omega))
    · unfold StopW
      (rename Fr _ _ _ _ => lF'); (rename News _ _ _ _ => lN')
      with_unfolding_all refine' For_invTF lF' ?_ ?hs
      case hs => intro _; rfl
      k_steps
      with_unfolding_all refine' iterT_list (fun i m nx => nx = _ ∧ ∃ q t, q = 0 ∧ FrAs _ m [(Str.ofString "startpos", Value.int q t)] [Str.ofString "w"]) rfl rfl ?hl lF' lN' ⟨rfl, _, _, rfl, FrAs.refl (all1 rfl)⟩ ?hJl ?_ ?_
      case hl => k_memK
      case hJl => (intro _ _ _ hJ; rw [hJ.1]; k_memK)
      · intro I oI i v m₁ nx s₁ hv hlt hoff hPz3 F₁ N₁
        obtain ⟨hnx, q, tq, hq, hF⟩ := hPz3
        subst hnx
        subst hq
        have F₂ := hF.fr F₁
        clear F₁ lF' lN'
        k_lt hlt
        have hfd : find4 y (Str.ofString "") (0) ((y.length : Int) - (b.length : Int)) = 0 := hfind _ _ (by omega) (by omega) (by omega)
        obtain ⟨tv, rfl⟩ : ∃ tv, v = .str (Str.ofString "") tv := by
          rcases i with _ | _ | i <;> simp at hv <;> exact ⟨_, hv.symm⟩
        k_steps
        rename_i F9 N9
        refine TurnEnd.intro _ F9 N9 (by k_memK) (by kst_inAny) ?_ ⟨rfl, _, _, ?_, all1 rfl, ?_⟩
        · refine offLt ?_; exact hlt
        · first | rfl | (simp; done) | omega
        · intro z h2 h3
          simp only [List.forall_mem_cons, List.not_mem_nil, false_implies, implies_true, and_true, ne_eq] at h2
          simp only [List.contains_cons, List.contains_nil, Bool.or_false, beq_eq_false_iff_ne, ne_eq] at h3
          simp [h2, h3, kstB]
      · intro m₁ nx h tk hPz4 F₁ N₁
        obtain ⟨hnx, q, tq, hq, hF⟩ := hPz4
        subst hnx
        clear lF' lN'
        have F₂ := hF.fr F₁
        clear F₁
        k_steps
        first | (exfalso; omega) | (refine hret _ news _ _ (by assumption) (cb_drop (by assumption) (by kcj_all)) ⟨rfl, congrArg Value.bool ?_⟩; first | exact ell_nf (by assumption) (by assumption) | exact ell_nb (by first | exact .inl rfl | exact .inr (by assumption)) (by assumption) (by assumption) | exact ell_short (by first | exact .inl rfl | exact .inr (by assumption)) (by first | exact .inl rfl | exact .inr (by assumption)) (by omega) | exact ell_ok (by first | exact .inl rfl | exact .inr (by assumption)) (by first | exact .inl rfl | exact .inr (by assumption)) (by omega))
  · subst e2
    have hfp := str_pos e1
    k_steps
    any_goals first | (exfalso; omega) | (refine hret _ news _ _ (by assumption) (cb_drop (by assumption) (by kcj_all)) ⟨rfl, congrArg Value.bool ?_⟩; first | exact ell_nf (by assumption) (by assumption) | exact ell_nb (by first | exact .inl rfl | exact .inr (by assumption)) (by assumption) (by assumption) | exact ell_short (by first | exact .inl rfl | exact .inr (by assumption)) (by first | exact .inl rfl | exact .inr (by assumption)) (by omega) | exact ell_ok (by first | exact .inl rfl | exact .inr (by assumption)) (by first | exact .inl rfl | exact .inr (by assumption)) (by omega))
    · unfold StopW
      (rename Fr _ _ _ _ => lF'); (rename News _ _ _ _ => lN')
      with_unfolding_all refine' For_invTF lF' ?_ ?hs
      case hs => intro _; rfl
      k_steps
      with_unfolding_all refine' iterT_list (fun i m nx => nx = _ ∧ ∃ q t, q = (f.length : Int) ∧ FrAs _ m [(Str.ofString "startpos", Value.int q t)] [Str.ofString "w"]) rfl rfl ?hl lF' lN' ⟨rfl, _, _, rfl, FrAs.refl (all1 rfl)⟩ ?hJl ?_ ?_
      case hl => k_memK
      case hJl => (intro _ _ _ hJ; rw [hJ.1]; k_memK)
      · intro I oI i v m₁ nx s₁ hv hlt hoff hPz5 F₁ N₁
        obtain ⟨hnx, q, tq, hq, hF⟩ := hPz5
        subst hnx
        subst hq
        have F₂ := hF.fr F₁
        clear F₁ lF' lN'
        k_lt hlt
        have hfd : find4 y (Str.ofString "") ((f.length : Int)) ((y.length : Int)) = (f.length : Int) := hfind _ _ (by omega) (by omega) (by omega)
        obtain ⟨tv, rfl⟩ : ∃ tv, v = .str (Str.ofString "") tv := by
          rcases i with _ | _ | i <;> simp at hv <;> exact ⟨_, hv.symm⟩
        k_steps
        rename_i F9 N9
        refine TurnEnd.intro _ F9 N9 (by k_memK) (by kst_inAny) ?_ ⟨rfl, _, _, ?_, all1 rfl, ?_⟩
        · refine offLt ?_; exact hlt
        · first | rfl | (simp; done) | omega
        · intro z h2 h3
          simp only [List.forall_mem_cons, List.not_mem_nil, false_implies, implies_true, and_true, ne_eq] at h2
          simp only [List.contains_cons, List.contains_nil, Bool.or_false, beq_eq_false_iff_ne, ne_eq] at h3
          simp [h2, h3, kstB]
      · intro m₁ nx h tk hPz6 F₁ N₁
        obtain ⟨hnx, q, tq, hq, hF⟩ := hPz6
        subst hnx
        clear lF' lN'
        have F₂ := hF.fr F₁
        clear F₁
        k_steps
        first | (exfalso; omega) | (refine hret _ news _ _ (by assumption) (cb_drop (by assumption) (by kcj_all)) ⟨rfl, congrArg Value.bool ?_⟩; first | exact ell_nf (by assumption) (by assumption) | exact ell_nb (by first | exact .inl rfl | exact .inr (by assumption)) (by assumption) (by assumption) | exact ell_short (by first | exact .inl rfl | exact .inr (by assumption)) (by first | exact .inl rfl | exact .inr (by assumption)) (by omega) | exact ell_ok (by first | exact .inl rfl | exact .inr (by assumption)) (by first | exact .inl rfl | exact .inr (by assumption)) (by omega))
  · have hfp := str_pos e1
    have hbp := str_pos e2
    k_steps
    any_goals first | (exfalso; omega) | (refine hret _ news _ _ (by assumption) (cb_drop (by assumption) (by kcj_all)) ⟨rfl, congrArg Value.bool ?_⟩; first | exact ell_nf (by assumption) (by assumption) | exact ell_nb (by first | exact .inl rfl | exact .inr (by assumption)) (by assumption) (by assumption) | exact ell_short (by first | exact .inl rfl | exact .inr (by assumption)) (by first | exact .inl rfl | exact .inr (by assumption)) (by omega) | exact ell_ok (by first | exact .inl rfl | exact .inr (by assumption)) (by first | exact .inl rfl | exact .inr (by assumption)) (by omega))
    · unfold StopW
      (rename Fr _ _ _ _ => lF'); (rename News _ _ _ _ => lN')
      with_unfolding_all refine' For_invTF lF' ?_ ?hs
      case hs => intro _; rfl
      k_steps
      with_unfolding_all refine' iterT_list (fun i m nx => nx = _ ∧ ∃ q t, q = (f.length : Int) ∧ FrAs _ m [(Str.ofString "startpos", Value.int q t)] [Str.ofString "w"]) rfl rfl ?hl lF' lN' ⟨rfl, _, _, rfl, FrAs.refl (all1 rfl)⟩ ?hJl ?_ ?_
      case hl => k_memK
      case hJl => (intro _ _ _ hJ; rw [hJ.1]; k_memK)
      · intro I oI i v m₁ nx s₁ hv hlt hoff hPz7 F₁ N₁
        obtain ⟨hnx, q, tq, hq, hF⟩ := hPz7
        subst hnx
        subst hq
        have F₂ := hF.fr F₁
        clear F₁ lF' lN'
        k_lt hlt
        have hfd : find4 y (Str.ofString "") ((f.length : Int)) ((y.length : Int) - (b.length : Int)) = (f.length : Int) := hfind _ _ (by omega) (by omega) (by omega)
        obtain ⟨tv, rfl⟩ : ∃ tv, v = .str (Str.ofString "") tv := by
          rcases i with _ | _ | i <;> simp at hv <;> exact ⟨_, hv.symm⟩
        k_steps
        rename_i F9 N9
        refine TurnEnd.intro _ F9 N9 (by k_memK) (by kst_inAny) ?_ ⟨rfl, _, _, ?_, all1 rfl, ?_⟩
        · refine offLt ?_; exact hlt
        · first | rfl | (simp; done) | omega
        · intro z h2 h3
          simp only [List.forall_mem_cons, List.not_mem_nil, false_implies, implies_true, and_true, ne_eq] at h2
          simp only [List.contains_cons, List.contains_nil, Bool.or_false, beq_eq_false_iff_ne, ne_eq] at h3
          simp [h2, h3, kstB]
      · intro m₁ nx h tk hPz8 F₁ N₁
        obtain ⟨hnx, q, tq, hq, hF⟩ := hPz8
        subst hnx
        clear lF' lN'
        have F₂ := hF.fr F₁
        clear F₁
        k_steps
        first | (exfalso; omega) | (refine hret _ news _ _ (by assumption) (cb_drop (by assumption) (by kcj_all)) ⟨rfl, congrArg Value.bool ?_⟩; first | exact ell_nf (by assumption) (by assumption) | exact ell_nb (by first | exact .inl rfl | exact .inr (by assumption)) (by assumption) (by assumption) | exact ell_short (by first | exact .inl rfl | exact .inr (by assumption)) (by first | exact .inl rfl | exact .inr (by assumption)) (by omega) | exact ell_ok (by first | exact .inl rfl | exact .inr (by assumption)) (by first | exact .inl rfl | exact .inr (by assumption)) (by omega))

end Mine
end

section
-- F6
open PySem PySem.W PyProof.Rows PySem.Calls PySem.Builtin PySem.Builtin.Str
namespace Mine
theorem calm_F6 : True := by
  w_top off
  k_with_none
  trivial
noncomputable def cntLt (xs : List Int) (x : Int) : Nat := (xs.filter fun y => decide (y < x)).length
theorem cntLt_is {xs : List Int} {x lo : Int} (h0 : 0 ≤ lo) (hl : lo ≤ (xs.length : Int)) (h1 : ∀ i : Nat, (i : Int) < lo → ∀ y, xs[i]? = some y → y < x) (h2 : ∀ i : Nat, lo ≤ (i : Int) → ∀ y, xs[i]? = some y → ¬ y < x) : lo = (cntLt xs x : Int) := by
  unfold cntLt
  rw [filter_take _ xs lo.toNat (fun i hi y hy => by simpa using h1 i (by omega) y hy) (fun i hi y hy => by simpa using h2 i (by omega) y hy), List.length_take]
  omega
theorem bis_call (w : World) (loose : List Str) (mean : ExcName → Option Value) (mg mb : Str → Option Value) (news : List (Addr × Obj)) (l : Addr) (vs : List Value) (xs : List Int) (n : Nat) (x : Int) (u : Tok) (hl : (l, listOf vs.toArray n) ∈ news) (hI : IntsAre vs xs) (hlen : xs.length ≤ 5) (hmono : ∀ (i j : Nat) (y z : Int), i ≤ j → xs[i]? = some y → xs[j]? = some z → y ≤ z) :
  Tell w loose mean mg mb 2 46 [.ref l, .int x u] [] news (fun r n => n = news ∧ ∃ t, r = .int (cntLt xs x : Int) t) := by
  k_with_none
  k_with "KswEnd" => ((with_reducible refine stopW ?_))
  k_with "exec While Compare cons nil" => ((with_reducible refine stopW ?_))
  k_with "exec While" => ((with_reducible refine stopW ?_))
  k_with "call builtin:len" => ((k_here; (with_reducible show wpAny _ _ (call (Value.builtin "len") [Value.ref _]) _ _ _); k_dflt (refine' len_mem ?w9k1 ?w9k2 ?w9k3 ?_; (case w9k1 => k_asm); (case w9k2 => kst_mem); (case w9k3 => omega); k_whole)))
  k_with "subscriptTail" => ((k_here; (with_reducible show wpAny _ _ (subscriptTail _ _ (Value.ref _) (Value.int _ _)) _ _ _); k_dflt (refine' item_mem ?w9k1 ?w9k2 ?w9k3 ?w9k4 ?w9k5 ?_ ?w9k6; (case w9k5 => assumption); (case w9k1 => k_asm); (case w9k2 => kst_mem); (case w9k3 => assumption); (case w9k4 => assumption); (case w9k6 => with_unfolding_all rfl); k_whole)))
  unfold Tell
  k_fill
  intro dp un gd cn cs a ccd cl outer A₀ base h₀ L m s Q E B F X N T hk hd hu hret
  have kMk := kstMark
  refine wpAny_call ?_
  k_dflt (refine' code_def ?k1 ?k2 ?k3 ?k4 ?k5 ?kA ?kF ?kK ?k6 ?k7 ?k8 ?k9 ?kB ?_ ?c2 ?c3 ?c4 ?c5; (case kA => exact rfl); (case kF => exact rfl); (case kK => assumption); (case k1 => k_asm); (case k2 => k_asm); (case k3 => k_asm); (case k4 => k_asm); (case k5 => k_asm); (case k6 => k_is); (case k7 => k_is); (case k8 => ktr_room); (case k9 => first | exact BindsTo.of_eq rfl | exact binds_K (by k_in) rfl (by k_is) rfl rfl rfl | (refine' kp_binds ?kx ?ke; (case kx => k_in); (case ke => exact fun _ => rfl)) | fail "k_enter: no rule for these arguments"); (case c5 => decide); (case kB => exact locs rfl); (case c2 => exact rfl); (case c3 => exact rfl); (case c4 => exact rfl); k_whole; intro g' L' h' FG' F' N' B' X' T'; (try dsimp only); (try k_lift B'); (try k_fold))
  replace F' := fr_kst [(Str.ofString "key", _), (Str.ofString "hi", _), (Str.ofString "lo", _), (Str.ofString "x", _), (Str.ofString "a", _)] F'
  have hvl : vs.length = xs.length := hI.length
  k_steps
  unfold StopW
  (rename Fr _ _ _ _ => lF')
  (rename News _ _ _ _ => lN')
  with_unfolding_all refine' ksw_while (σ := Int × Tok × Int × Tok) (fun _ => news) (fun c => [(Str.ofString "lo", Value.int c.1 c.2.1), (Str.ofString "hi", Value.int c.2.2.1 c.2.2.2)]) (fun _ => True) [Str.ofString "mid"] (fun c => 0 ≤ c.1 ∧ c.1 ≤ c.2.2.1 ∧ c.2.2.1 ≤ (xs.length : Int) ∧ (∀ i : Nat, (i : Int) < c.1 → ∀ y, xs[i]? = some y → y < x) ∧ (∀ i : Nat, c.2.2.1 ≤ (i : Int) → ∀ y, xs[i]? = some y → ¬ y < x)) (fun c => (c.2.2.1 - c.1).toNat) ⟨0, _, (vs.length : Int), _⟩ lF' lN' trivial (all2 rfl rfl) ?kp ?_ ?hE
  case hE => passes_own
  case kp =>
    refine ⟨Int.le_refl 0, by dsimp only; omega, by dsimp only; omega, fun i hi => absurd hi (by dsimp only; omega), fun i hi y hy => ?_⟩
    have := (List.getElem?_eq_some_iff.mp hy).1
    dsimp only at hi; omega
  intro ⟨lo, tlo, hi, thi⟩ u h tk hT hP F₁ N₁
  dsimp only at hP F₁ N₁ ⊢
  clear lF' lN'
  obtain ⟨p1, p2, p3, p4, p5⟩ := hP
  by_cases hlh : lo < hi
  · have q1 : 0 ≤ (lo + hi).fdiv 2 := by rw [Int.fdiv_eq_ediv_of_nonneg _ (by omega)]; omega
    have q2 : (lo + hi).fdiv 2 < 2 ^ 63 := by rw [Int.fdiv_eq_ediv_of_nonneg _ (by omega)]; omega
    have q3 : (lo + hi).fdiv 2 < hi := by rw [Int.fdiv_eq_ediv_of_nonneg _ (by omega)]; omega
    have q4 : lo ≤ (lo + hi).fdiv 2 := by rw [Int.fdiv_eq_ediv_of_nonneg _ (by omega)]; omega
    obtain ⟨v, hv⟩ : ∃ v, vs[((lo + hi).fdiv 2).toNat]? = some v := ⟨_, List.getElem?_eq_getElem (by omega)⟩
    obtain ⟨xm, tm, rfl, hxm⟩ := intsAre_at hI hv
    k_steps
    · unfold StopW
      rename_i hc h9 F9 N9
      have hcx : xm < x := by simpa [List.getD, hxm] using hc
      refine ksw_end (⟨(lo + hi).fdiv 2 + 1, _, hi, _⟩) F9 N9 (fun p hp => hp) trivial (all2 rfl rfl) (by
        intro z h2 h3
        simp only [List.forall_mem_cons, List.not_mem_nil, false_implies, implies_true, and_true, ne_eq] at h2
        simp only [List.contains_cons, List.contains_nil, Bool.or_false, beq_eq_false_iff_ne, Bool.or_eq_false_iff, ne_eq] at h3
        simp [h2, h3, kstB]) ⟨by dsimp only; omega, by dsimp only; omega, p3, fun i hi' y hy => Int.lt_of_le_of_lt (hmono i ((lo + hi).fdiv 2).toNat y xm (by dsimp only at hi'; omega) hy hxm) hcx, p5⟩ (by dsimp only; omega)
    · unfold StopW
      rename_i hc h9 F9 N9
      have hcx : ¬ xm < x := by simpa [List.getD, hxm] using hc
      refine ksw_end (⟨lo, _, (lo + hi).fdiv 2, _⟩) F9 N9 (fun p hp => hp) trivial (all2 rfl rfl) (by
        intro z h2 h3
        simp only [List.forall_mem_cons, List.not_mem_nil, false_implies, implies_true, and_true, ne_eq] at h2
        simp only [List.contains_cons, List.contains_nil, Bool.or_false, beq_eq_false_iff_ne, Bool.or_eq_false_iff, ne_eq] at h3
        simp [h2, h3, kstB]) ⟨p1, by dsimp only; omega, by dsimp only; omega, p4, fun i hi' y hy => fun hlt => hcx (Int.lt_of_le_of_lt (hmono ((lo + hi).fdiv 2).toNat i xm y (by dsimp only at hi'; omega) hxm hy) hlt)⟩ (by dsimp only; omega)
  · k_steps
    refine hret _ news _ _ (by assumption) (by assumption) ⟨rfl, _, congrArg (fun q => Value.int q _) ?_⟩
    exact cntLt_is p1 (by omega) p4 (fun i hi' => p5 i (by omega))
end Mine
end

section
-- F7
open PySem PySem.W PyProof.Rows PySem.Calls PySem.Builtin PySem.Builtin.Str
namespace Mine
theorem calm_F7 : True := by
  w_top off
  k_with_none
  trivial
local macro_rules | `(tactic| walk_at "subscriptTail") => `(tactic| (k_here; (with_reducible show wpAny _ _ (subscriptTail _ _ (Value.ref _) (Value.int (Int.fmod _ 4) _)) _ _ _); k_dflt (refine' item_opt ?k1 ?k2 ?_ ?k6; (case k1 => k_asm); (case k2 => k_memK); (case k6 => with_unfolding_all rfl); k_whole); intro t9'))
noncomputable def lgF (x : Int) : Option Str := [none, some (Str.ofString "a"), some (Str.ofString "b"), some (Str.ofString "ab")].getD (x.fmod 4).toNat none
noncomputable def ecF (x : Int) : Option Str := [none, some (Str.ofString "a"), some (Str.ofString "b"), some (Str.ofString "ba")].getD ((x.fdiv 4).fmod 4).toNat none
noncomputable abbrev tupP (x : Int) (u v : Tok) : Obj := { cls := .type "tuple", data := .seq #[optV (lgF x) u, optV (ecF x) v] }
theorem pairs_call (w : World) (loose : List Str) (mean : ExcName → Option Value) (mg mb : Str → Option Value) (news : List (Addr × Obj)) (l : Addr) (n : Nat) (a0 a1 a2 a3 a4 : Int) (t0 t1 t2 t3 t4 : Tok) :
  Tell w loose mean mg mb 2 58 [.ref l] [] ((l, listOf #[.int a0 t0, .int a1 t1, .int a2 t2, .int a3 t3, .int a4 t4] n) :: news) (fun r nw => ∃ D p0 p1 p2 p3 p4 u0 u1 u2 u3 u4 v0 v1 v2 v3 v4, r = .ref D ∧ nw = (D, listOf #[.ref p0, .ref p1, .ref p2, .ref p3, .ref p4] 5) :: (p0, tupP a0 u0 v0) :: (p1, tupP a1 u1 v1) :: (p2, tupP a2 u2 v2) :: (p3, tupP a3 u3 v3) :: (p4, tupP a4 u4 v4) :: news) := by
  k_with_none
  k_with "CompEnd" => ((k_dflt (refine compEnd_keep (by assumption) (by assumption) (by assumption) (by omega) (.inr ⟨_, (by k_memK), rfl, _, rfl⟩) ?_)))
  unfold Tell
  k_fill
  intro dp un gd cn cs a ccd cl outer A₀ base h₀ L m s Q E B F X N T hk hd hu hret
  have kMk := kstMark
  refine wpAny_call ?_
  k_dflt (refine' code_def ?k1 ?k2 ?k3 ?k4 ?k5 ?kA ?kF ?kK ?k6 ?k7 ?k8 ?k9 ?kB ?_ ?c2 ?c3 ?c4 ?c5; (case kA => exact rfl); (case kF => exact rfl); (case kK => assumption); (case k1 => k_asm); (case k2 => k_asm); (case k3 => k_asm); (case k4 => k_asm); (case k5 => k_asm); (case k6 => k_is); (case k7 => k_is); (case k8 => ktr_room); (case k9 => first | exact BindsTo.of_eq rfl | exact binds_K (by k_in) rfl (by k_is) rfl rfl rfl | (refine' kp_binds ?kx ?ke; (case kx => k_in); (case ke => exact fun _ => rfl)) | fail "k_enter: no rule for these arguments"); (case c5 => decide); (case kB => exact locs rfl); (case c2 => exact rfl); (case c3 => exact rfl); (case c4 => exact rfl); k_whole; intro g' L' h' FG' F' N' B' X' T'; (try dsimp only); (try k_lift B'); (try k_fold))
  replace F' := fr_kst [(Str.ofString "draws", _)] F'
  k_steps
  rename_i kF kN _ _
  exact hret _ _ _ _ kF (news_rev5 kN) ⟨_, _, _, _, _, _, _, _, _, _, _, _, _, _, _, _, rfl, rfl⟩
local macro_rules | `(tactic| walk_at "subscriptTail") => `(tactic| (k_here; (with_reducible show wpAny _ _ (subscriptTail _ _ (Value.ref _) (Value.int (Int.fmod _ 4) _)) _ _ _); k_dflt (refine' item_four ?k1 ?k2 ?_ ?k6; (case k1 => k_asm); (case k2 => k_memK); (case k6 => with_unfolding_all rfl); k_whole); intro t9'))
noncomputable def wF (x : Int) : Str := [Str.ofString "", Str.ofString "a", Str.ofString "b", Str.ofString "C"].getD (x.fmod 4).toNat (Str.ofString "")
noncomputable def wB (x : Int) : Str := [Str.ofString "", Str.ofString "a", Str.ofString "b", Str.ofString ".a"].getD ((x.fdiv 4).fmod 4).toNat (Str.ofString "")
noncomputable abbrev tupW (x : Int) (u v : Tok) : Obj := { cls := .type "tuple", data := .seq #[.str (wF x) u, .str (wB x) v] }
theorem wishes_call (w : World) (loose : List Str) (mean : ExcName → Option Value) (mg mb : Str → Option Value) (news : List (Addr × Obj)) (l : Addr) (n : Nat) (a0 a1 a2 : Int) (t0 t1 t2 : Tok) :
  Tell w loose mean mg mb 2 63 [.ref l] [] ((l, listOf #[.int a0 t0, .int a1 t1, .int a2 t2] n) :: news) (fun r nw => ∃ D p0 p1 p2 u0 u1 u2 v0 v1 v2, r = .ref D ∧ nw = (D, listOf #[.ref p0, .ref p1, .ref p2] 3) :: (p0, tupW a0 u0 v0) :: (p1, tupW a1 u1 v1) :: (p2, tupW a2 u2 v2) :: news) := by
  k_with_none
  k_with "CompEnd" => ((k_dflt (refine compEnd_keep (by assumption) (by assumption) (by assumption) (by omega) (.inr ⟨_, (by k_memK), rfl, _, rfl⟩) ?_)))
  unfold Tell
  k_fill
  intro dp un gd cn cs a ccd cl outer A₀ base h₀ L m s Q E B F X N T hk hd hu hret
  have kMk := kstMark
  refine wpAny_call ?_
  k_dflt (refine' code_def ?k1 ?k2 ?k3 ?k4 ?k5 ?kA ?kF ?kK ?k6 ?k7 ?k8 ?k9 ?kB ?_ ?c2 ?c3 ?c4 ?c5; (case kA => exact rfl); (case kF => exact rfl); (case kK => assumption); (case k1 => k_asm); (case k2 => k_asm); (case k3 => k_asm); (case k4 => k_asm); (case k5 => k_asm); (case k6 => k_is); (case k7 => k_is); (case k8 => ktr_room); (case k9 => first | exact BindsTo.of_eq rfl | exact binds_K (by k_in) rfl (by k_is) rfl rfl rfl | (refine' kp_binds ?kx ?ke; (case kx => k_in); (case ke => exact fun _ => rfl)) | fail "k_enter: no rule for these arguments"); (case c5 => decide); (case kB => exact locs rfl); (case c2 => exact rfl); (case c3 => exact rfl); (case c4 => exact rfl); k_whole; intro g' L' h' FG' F' N' B' X' T'; (try dsimp only); (try k_lift B'); (try k_fold))
  replace F' := fr_kst [(Str.ofString "draws", _)] F'
  k_steps
  rename_i kF kN _ _
  exact hret _ _ _ _ kF (news_rev3 kN) ⟨_, _, _, _, _, _, _, _, _, _, rfl, rfl⟩
end Mine
end

section
-- F8
open PySem PySem.W PyProof.Rows PySem.Calls PySem.Builtin PySem.Builtin.Str
namespace Mine
theorem calm_F8 : True := by
  w_top off
  k_with_none
  trivial
noncomputable def names16 : List Str := [Str.ofString "C", Str.ofString "a", Str.ofString "b", Str.ofString "ab", Str.ofString "C.a", Str.ofString "a.a", Str.ofString "b.a", Str.ofString "ab.a", Str.ofString "C.b", Str.ofString "a.b", Str.ofString "b.b", Str.ofString "ab.b", Str.ofString "C.ba", Str.ofString "a.ba", Str.ofString "b.ba", Str.ofString "ab.ba"]
theorem isName_len {x : Str} (h : x ∈ names16) : x.length < 100 := by
  revert x; decide +kernel
theorem isName_nl {x : Str} (h : x ∈ names16) : Txt.find x (Str.ofString "\n") = -1 := by
  revert x; decide +kernel
theorem isName_co {x : Str} (h : x ∈ names16) : find4 x (Str.ofString ":") 0 (x.length : Int) = -1 := by
  revert x; decide +kernel
noncomputable def rk (x : Str) : Nat := if stripF x = Str.ofString "C" then 0 else if stripF x = Str.ofString "a" then 1 else if stripF x = Str.ofString "ab" then 2 else if stripF x = Str.ofString "b" then 3 else 4
theorem rk_lt0 : ∀ x ∈ names16, ∀ y ∈ names16, decide ((stripF x).cps.toList < (stripF y).cps.toList) = decide (rk x < rk y) := by decide +kernel
theorem rk_lt {x y : Str} (hx : x ∈ names16) (hy : y ∈ names16) : ((stripF x).cps.toList < (stripF y).cps.toList) ↔ rk x < rk y := by
  have h := rk_lt0 x hx y hy
  simpa using h
theorem strsAre_at {vs : List Value} {ns : List Str} (h : StrsAre vs ns) {i : Nat} {v : Value} (e : vs[i]? = some v) : ∃ n t, v = .str n t ∧ ns[i]? = some n := by
  induction h generalizing i with
  | nil => simp at e
  | cons x t r ih =>
    cases i with
    | zero => simp at e; exact ⟨x, t, e.symm, rfl⟩
    | succ i => simp at e; obtain ⟨n, u, h1, h2⟩ := ih e; exact ⟨n, u, h1, by simpa using h2⟩
local macro_rules | `(tactic| walk_at "call ref") => `(tactic| (k_here; k_dflt (refine' Tell.use (strip_call _ _ _ _ _ _ _ _ (isName_len ?p) (isName_nl ?p) (isName_co ?p)) ?B ?F ?X ?N ?T ?k ?d ?u ?_; (case p => assumption); (case B => k_asm); (case F => k_asm); (case X => k_asm); (case N => k_asm); (case T => k_asm); (case k => first | exact rfl | assumption); (case d => ktr_room); (case u => ktr_units); k_whole); intro r9 nw9 h9 tk9 F9' N9' P9; obtain ⟨e9, t9, e9'⟩ := P9; (rw [e9] at N9'); clear e9; subst e9'; (try dsimp only)))
theorem bisk_call (w : World) (loose : List Str) (mean : ExcName → Option Value) (mg mb : Str → Option Value) (news : List (Addr × Obj)) (l : Addr) (vs : List Value) (xs : List Str) (n : Nat) (x : Str) (t u : Tok) (hl : (l, listOf vs.toArray n) ∈ news) (hI : StrsAre vs xs) (hlen : xs.length ≤ 5) (hx : x ∈ names16) (hxs : ∀ y ∈ xs, y ∈ names16) (hmono : ∀ (i j : Nat) (y z : Str), i ≤ j → xs[i]? = some y → xs[j]? = some z → rk y ≤ rk z) :
  Tell w loose mean mg mb 4 46 [.ref l, .str (stripF x) t, .int 0 u, .none] [(Str.ofString "key", .ref 28)] news (fun r n => n = news ∧ ∃ t, r = .int (((xs.filter fun y => decide (rk y < rk x)).length : Nat) : Int) t) := by
  k_with_none
  k_with "KswEnd" => ((with_reducible refine stopW ?_))
  k_with "exec While Compare cons nil" => ((with_reducible refine stopW ?_))
  k_with "exec While" => ((with_reducible refine stopW ?_))
  k_with "call builtin:len" => ((k_here; (with_reducible show wpAny _ _ (call (Value.builtin "len") [Value.ref _]) _ _ _); k_dflt (refine' len_mem ?w9k1 ?w9k2 ?w9k3 ?_; (case w9k1 => k_asm); (case w9k2 => kst_mem); (case w9k3 => omega); k_whole)))
  k_with "subscriptTail" => ((k_here; (with_reducible show wpAny _ _ (subscriptTail _ _ (Value.ref _) (Value.int _ _)) _ _ _); k_dflt (refine' item_mem ?w9k1 ?w9k2 ?w9k3 ?w9k4 ?w9k5 ?_ ?w9k6; (case w9k5 => assumption); (case w9k1 => k_asm); (case w9k2 => kst_mem); (case w9k3 => assumption); (case w9k4 => assumption); (case w9k6 => with_unfolding_all rfl); k_whole)))
  unfold Tell
  k_fill
  intro dp un gd cn cs a ccd cl outer A₀ base h₀ L m s Q E B F X N T hk hd hu hret
  have kMk := kstMark
  refine wpAny_call ?_
  k_dflt (refine' code_def ?k1 ?k2 ?k3 ?k4 ?k5 ?kA ?kF ?kK ?k6 ?k7 ?k8 ?k9 ?kB ?_ ?c2 ?c3 ?c4 ?c5; (case kA => exact rfl); (case kF => exact rfl); (case kK => assumption); (case k1 => k_asm); (case k2 => k_asm); (case k3 => k_asm); (case k4 => k_asm); (case k5 => k_asm); (case k6 => k_is); (case k7 => k_is); (case k8 => ktr_room); (case k9 => first | exact BindsTo.of_eq rfl | exact binds_K (by k_in) rfl (by k_is) rfl rfl rfl | (refine' kp_binds ?kx ?ke; (case kx => k_in); (case ke => exact fun _ => rfl)) | fail "k_enter: no rule for these arguments"); (case c5 => decide); (case kB => exact locs rfl); (case c2 => exact rfl); (case c3 => exact rfl); (case c4 => exact rfl); k_whole; intro g' L' h' FG' F' N' B' X' T'; (try dsimp only); (try k_lift B'); (try k_fold))
  replace F' := fr_kst [(Str.ofString "key", _), (Str.ofString "hi", _), (Str.ofString "lo", _), (Str.ofString "x", _), (Str.ofString "a", _)] F'
  have hvl : vs.length = xs.length := hI.length
  k_steps
  unfold StopW
  (rename Fr _ _ _ _ => lF')
  (rename News _ _ _ _ => lN')
  with_unfolding_all refine' ksw_while (σ := Int × Tok × Int × Tok) (fun _ => news) (fun c => [(Str.ofString "lo", Value.int c.1 c.2.1), (Str.ofString "hi", Value.int c.2.2.1 c.2.2.2)]) (fun _ => True) [Str.ofString "mid"] (fun c => 0 ≤ c.1 ∧ c.1 ≤ c.2.2.1 ∧ c.2.2.1 ≤ (xs.length : Int) ∧ (∀ i : Nat, (i : Int) < c.1 → ∀ y, xs[i]? = some y → rk y < rk x) ∧ (∀ i : Nat, c.2.2.1 ≤ (i : Int) → ∀ y, xs[i]? = some y → ¬ rk y < rk x)) (fun c => (c.2.2.1 - c.1).toNat) ⟨0, _, (vs.length : Int), _⟩ lF' lN' trivial (all2 rfl rfl) ?kp ?_ ?hE
  case hE => passes_own
  case kp =>
    refine ⟨Int.le_refl 0, by dsimp only; omega, by dsimp only; omega, fun i hi => absurd hi (by dsimp only; omega), fun i hi y hy => ?_⟩
    have := (List.getElem?_eq_some_iff.mp hy).1
    dsimp only at hi; omega
  intro ⟨lo, tlo, hi, thi⟩ u h tk hT hP F₁ N₁
  dsimp only at hP F₁ N₁ ⊢
  clear lF' lN'
  obtain ⟨p1, p2, p3, p4, p5⟩ := hP
  by_cases hlh : lo < hi
  · have q1 : 0 ≤ (lo + hi).fdiv 2 := by rw [Int.fdiv_eq_ediv_of_nonneg _ (by omega)]; omega
    have q2 : (lo + hi).fdiv 2 < 2 ^ 63 := by rw [Int.fdiv_eq_ediv_of_nonneg _ (by omega)]; omega
    have q3 : (lo + hi).fdiv 2 < hi := by rw [Int.fdiv_eq_ediv_of_nonneg _ (by omega)]; omega
    have q4 : lo ≤ (lo + hi).fdiv 2 := by rw [Int.fdiv_eq_ediv_of_nonneg _ (by omega)]; omega
    obtain ⟨v, hv⟩ : ∃ v, vs[((lo + hi).fdiv 2).toNat]? = some v := ⟨_, List.getElem?_eq_getElem (by omega)⟩
    obtain ⟨xm, tm, rfl, hxm⟩ := strsAre_at hI hv
    have hxmn : xm ∈ names16 := hxs _ (List.mem_of_getElem? hxm)
    k_steps
    · unfold StopW
      rename_i hc h9 F9 N9
      have hcx : rk xm < rk x := (rk_lt hxmn hx).mp hc
      refine ksw_end (⟨(lo + hi).fdiv 2 + 1, _, hi, _⟩) F9 N9 (fun p hp => hp) trivial (all2 rfl rfl) (by
        intro z h2 h3
        simp only [List.forall_mem_cons, List.not_mem_nil, false_implies, implies_true, and_true, ne_eq] at h2
        simp only [List.contains_cons, List.contains_nil, Bool.or_false, beq_eq_false_iff_ne, Bool.or_eq_false_iff, ne_eq] at h3
        simp [h2, h3, kstB]) ⟨by dsimp only; omega, by dsimp only; omega, p3, fun i hi' y hy => Nat.lt_of_le_of_lt (hmono i ((lo + hi).fdiv 2).toNat y xm (by dsimp only at hi'; omega) hy hxm) hcx, p5⟩ (by dsimp only; omega)
    · unfold StopW
      rename_i hc h9 F9 N9
      have hcx : ¬ rk xm < rk x := fun h => hc ((rk_lt hxmn hx).mpr h)
      refine ksw_end (⟨lo, _, (lo + hi).fdiv 2, _⟩) F9 N9 (fun p hp => hp) trivial (all2 rfl rfl) (by
        intro z h2 h3
        simp only [List.forall_mem_cons, List.not_mem_nil, false_implies, implies_true, and_true, ne_eq] at h2
        simp only [List.contains_cons, List.contains_nil, Bool.or_false, beq_eq_false_iff_ne, Bool.or_eq_false_iff, ne_eq] at h3
        simp [h2, h3, kstB]) ⟨p1, by dsimp only; omega, by dsimp only; omega, p4, fun i hi' y hy => fun hlt => hcx (Nat.lt_of_le_of_lt (hmono ((lo + hi).fdiv 2).toNat i xm y (by dsimp only at hi'; omega) hxm hy) hlt)⟩ (by dsimp only; omega)
  · k_steps
    refine hret _ news _ _ (by assumption) (by assumption) ⟨rfl, _, congrArg (fun q => Value.int q _) ?_⟩
    have hlo : lo = hi := by omega
    rw [filter_take _ xs lo.toNat (fun i hi' y hy => by simpa using p4 i (by omega) y hy) (fun i hi' y hy => by simpa using p5 i (by omega) y hy), List.length_take]
    omega
end Mine
end

section
-- F9
open PySem PySem.W PyProof.Rows PySem.Calls PySem.Builtin PySem.Builtin.Str
namespace Mine
theorem calm_F9 : True := by
  w_top off
  k_with_none
  trivial
local macro_rules | `(tactic| walk_at "call ref") => `(tactic| (k_here; k_dflt (refine' Tell.use (strip_call _ _ _ _ _ _ _ _ (isName_len ?p) (isName_nl ?p) (isName_co ?p)) ?B ?F ?X ?N ?T ?k ?d ?u ?_; (case p => assumption); (case B => k_asm); (case F => k_asm); (case X => k_asm); (case N => k_asm); (case T => k_asm); (case k => first | exact rfl | assumption); (case d => ktr_room); (case u => ktr_units); k_whole); intro r9 nw9 h9 tk9 F9' N9' P9; obtain ⟨e9, t9, e9'⟩ := P9; (rw [e9] at N9'); clear e9; subst e9'; (try dsimp only)))
local macro_rules | `(tactic| walk_at "call ref") => `(tactic| (k_here; (with_reducible show wpAny _ _ (PySem.call (Value.ref 46) _ _) _ _ _); k_dflt (refine' Tell.use (bisk_call _ _ _ _ _ _ _ _ _ _ _ _ _ ?p1 ?p2 ?p3 ?p4 ?p5 ?p6) ?B ?F ?X ?N ?T ?k ?d ?u ?_; (case N => k_asm); (case F => k_asm); (case p1 => k_memK); (case p2 => assumption); (case p3 => assumption); (case p4 => assumption); (case p5 => assumption); (case p6 => assumption); (case B => k_asm); (case X => k_asm); (case T => k_asm); (case k => first | exact rfl | assumption); (case d => ktr_room); (case u => ktr_units); k_whole); intro r9 nw9 h9 tk9 F9' N9' P9; obtain ⟨e9, t9, e9'⟩ := P9; (rw [e9] at N9'); clear e9; subst e9'; (try dsimp only)))
local macro_rules | `(tactic| walk_at "call builtin:list.insert") => `(tactic| (k_here; k_dflt (refine' kl_insert ?F ?N ?f rfl (Upd.head ?U) ?z ?_; (case F => k_asm); (case N => k_asm); (case U => assumption); (case f => exact fits_small (by omega)); (case z => (rw [sizeLine_eq]; simp only [List.toArray_toList]; omega)); k_whole); intro h7 F7 N7))
theorem fits_small {k : Nat} (h : k ≤ 100) : Builtin.List.listFitsIndex (k : Int) = true := by
  unfold Builtin.List.listFitsIndex; simp; omega
noncomputable def insF (xs : List Str) (x : Str) : List Str := xs.take (xs.filter fun y => decide (rk y < rk x)).length ++ x :: xs.drop (xs.filter fun y => decide (rk y < rk x)).length
theorem insort_call (w : World) (loose : List Str) (mean : ExcName → Option Value) (mg mb : Str → Option Value) (news : List (Addr × Obj)) (l : Addr) (vs : List Value) (xs : List Str) (n : Nat) (x : Str) (t : Tok) (hoff : ∀ p ∈ news, p.1 ≠ l) (hI : StrsAre vs xs) (hlen : xs.length ≤ 5) (hx : x ∈ names16) (hxs : ∀ y ∈ xs, y ∈ names16) (hmono : ∀ (i j : Nat) (y z : Str), i ≤ j → xs[i]? = some y → xs[j]? = some z → rk y ≤ rk z) :
  Tell w loose mean mg mb 6 37 [.ref l, .str x t] [(Str.ofString "key", .ref 28)] ((l, listOf vs.toArray n) :: news) (fun r nw => ∃ vs2 n2, nw = (l, listOf vs2.toArray n2) :: news ∧ StrsAre vs2 (insF xs x) ∧ r = .none) := by
  unfold Tell
  k_fill
  intro dp un gd cn cs a ccd cl outer A₀ base h₀ L m s Q E B F X N T hk hd hu hret
  have kMk := kstMark
  refine wpAny_call ?_
  k_dflt (refine' code_def ?k1 ?k2 ?k3 ?k4 ?k5 ?kA ?kF ?kK ?k6 ?k7 ?k8 ?k9 ?kB ?_ ?c2 ?c3 ?c4 ?c5; (case kA => exact rfl); (case kF => exact rfl); (case kK => assumption); (case k1 => k_asm); (case k2 => k_asm); (case k3 => k_asm); (case k4 => k_asm); (case k5 => k_asm); (case k6 => k_is); (case k7 => k_is); (case k8 => ktr_room); (case k9 => first | exact BindsTo.of_eq rfl | exact binds_K (by k_in) rfl (by k_is) rfl rfl rfl | (refine' kp_binds ?kx ?ke; (case kx => k_in); (case ke => exact fun _ => rfl)) | fail "k_enter: no rule for these arguments"); (case c5 => decide); (case kB => exact locs rfl); (case c2 => exact rfl); (case c3 => exact rfl); (case c4 => exact rfl); k_whole; intro g' L' h' FG' F' N' B' X' T'; (try dsimp only); (try k_lift B'); (try k_fold))
  replace F' := fr_kst [(Str.ofString "key", _), (Str.ofString "hi", _), (Str.ofString "lo", _), (Str.ofString "x", _), (Str.ofString "a", _)] F'
  have hvl : vs.length = xs.length := hI.length
  have hfl := List.length_filter_le (fun y => decide (rk y < rk x)) xs
  k_steps
  (rename Fr _ _ _ _ => F9); (rename News _ _ _ _ => N9)
  k_dflt (refine' kl_insert F9 N9 (fits_small (by omega)) rfl (Upd.head hoff) ?z ?_)
  case z => (show vs.length ≤ sizeLine; rw [sizeLine_eq]; omega)
  intro h7 F7 N7
  k_steps
  refine hret _ ((l, listOf (kl_ins vs _ _).toArray _) :: news) _ _ (by assumption) (by assumption) ⟨_, _, rfl, ?_, rfl⟩
  unfold kl_ins insF
  rw [if_neg (by omega), Int.toNat_natCast, Nat.min_eq_left (by omega)]
  exact StrsAre.append' (StrsAre.take' hI _) (StrsAre.cons _ _ (StrsAre.drop' hI _))
end Mine
end

section
-- F10
open PySem PySem.W PyProof.Rows PySem.Calls PySem.Builtin PySem.Builtin.Str
namespace Mine
theorem calm_F10 : True := by
  w_top off
  k_with_none
  trivial
theorem notin_mem {prog : Program} {w : World} {A : Around} {E : Value → Shared → Prop} {s : Shared} {h₀ : Heap} {L l : Addr} {news : List (Addr × Obj)} {Q : Value → Shared → Prop} {vs : List Value} {ns : List Int} {c : Nat} {k : Int} {t : Tok}
    (N : News h₀ L s.heap news) (hm : (l, listOf vs.toArray c) ∈ news) (hi : IntsAre vs ns) (h : Q (.bool (!(ns.any (· == k)))) s) : wpAny (model prog w) A (compareOp .NotIn (.int k t) (.ref l)) Q E s :=
  notin_list_ints ⟨_, (N _ hm).1, rfl, c, rfl⟩ hi h
theorem ne_mem {prog : Program} {w : World} {A : Around} {E : Value → Shared → Prop} {s : Shared} {h₀ : Heap} {L a b : Addr} {news : List (Addr × Obj)} {Q : Value → Shared → Prop} {vs us : List Value} {ns ms : List Int} {c d : Nat}
    (N : News h₀ L s.heap news) (ha : (a, listOf vs.toArray c) ∈ news) (hi : IntsAre vs ns) (hb : (b, listOf us.toArray d) ∈ news) (hi' : IntsAre us ms) (hu : A.units + 64 < cLine) (h : Q (.bool (!decide (ns = ms))) s) : wpAny (model prog w) A (compareOp .NotEq (.ref a) (.ref b)) Q E s :=
  ne_intsK ⟨_, (N _ ha).1, rfl, c, rfl⟩ hi ⟨_, (N _ hb).1, rfl, d, rfl⟩ hi' hu h
theorem eq_mem {prog : Program} {w : World} {A : Around} {E : Value → Shared → Prop} {s : Shared} {h₀ : Heap} {L a b : Addr} {news : List (Addr × Obj)} {Q : Value → Shared → Prop} {vs us : List Value} {ns ms : List Int} {c d : Nat}
    (N : News h₀ L s.heap news) (ha : (a, listOf vs.toArray c) ∈ news) (hi : IntsAre vs ns) (hb : (b, listOf us.toArray d) ∈ news) (hi' : IntsAre us ms) (hu : A.units + 64 < cLine) (h : Q (.bool (decide (ns = ms))) s) : wpAny (model prog w) A (compareOp .Eq (.ref a) (.ref b)) Q E s :=
  eq_intsK ⟨_, (N _ ha).1, rfl, c, rfl⟩ hi ⟨_, (N _ hb).1, rfl, d, rfl⟩ hi' hu h
noncomputable def oneF (mk st : Int) (k : Nat) (mS : List Int) : List Int := if bitAnd (mk.fdiv (2 ^ k)) 1 ≠ 0 ∧ bitAnd (st.fdiv (2 ^ k)) 1 = 0 ∧ (mS.any fun x => x == bitOr st (1 * 2 ^ k)) = false then mS ++ [bitOr st (1 * 2 ^ k)] else mS
noncomputable def nF (mk st : Int) (k : Nat) (mS : List Int) : List Int := (List.range k).foldl (fun a k => oneF mk st k a) mS
noncomputable def moreF (mk : Int) (sS : List Int) : List Int := sS.foldl (fun a st => nF mk st 3 a) []
noncomputable def keptS (ns : List Int) : Nat → List Int × List Int
  | 0 => ([], [0])
  | i + 1 => if moreF (ns.getD i 0) (keptS ns i).2 = [] then keptS ns i else ((keptS ns i).1 ++ [(i : Int)], moreF (ns.getD i 0) (keptS ns i).2)
theorem nF_succ (mk st : Int) (k : Nat) (mS : List Int) : nF mk st (k + 1) mS = oneF mk st k (nF mk st k mS) := by simp [nF, List.range_succ]
theorem moreF_snoc (mk : Int) (sS : List Int) (st : Int) : moreF mk (sS ++ [st]) = nF mk st 3 (moreF mk sS) := by simp [moreF]
theorem bitOr_small0 : ∀ s : Fin 8, ∀ k : Fin 3, 0 ≤ bitOr (s.val : Int) (1 * 2 ^ k.val) ∧ bitOr (s.val : Int) (1 * 2 ^ k.val) < 8 := by decide +kernel
theorem bitOr_small {st : Int} {k : Nat} (h0 : 0 ≤ st) (h1 : st < 8) (hk : k < 3) : 0 ≤ bitOr st (1 * 2 ^ k) ∧ bitOr st (1 * 2 ^ k) < 8 := by
  have h := bitOr_small0 ⟨st.toNat, by omega⟩ ⟨k, hk⟩
  have e : ((st.toNat : Nat) : Int) = st := by omega
  dsimp only at h
  rw [e] at h
  exact h
theorem oneF_a {mk st : Int} {k : Nat} {mT : List Int} (h : bitAnd (mk.fdiv (2 ^ (k : Int).toNat)) 1 = 0) : oneF mk st k mT = mT := by
  rw [Int.toNat_natCast] at h
  unfold oneF; rw [if_neg (fun q => q.1 h)]
theorem oneF_b {mk st : Int} {k : Nat} {mT : List Int} (h : bitAnd (st.fdiv (2 ^ (k : Int).toNat)) 1 ≠ 0) : oneF mk st k mT = mT := by
  rw [Int.toNat_natCast] at h
  unfold oneF; rw [if_neg (fun q => h q.2.1)]
theorem oneF_c {mk st : Int} {k : Nat} {mT : List Int} (h : (mT.any fun x => x == bitOr st (1 * 2 ^ (k : Int).toNat)) = true) : oneF mk st k mT = mT := by
  rw [Int.toNat_natCast] at h
  unfold oneF; rw [if_neg (fun q => by rw [q.2.2] at h; cases h)]
theorem oneF_d {mk st : Int} {k : Nat} {mT : List Int} (h1 : bitAnd (mk.fdiv (2 ^ (k : Int).toNat)) 1 ≠ 0) (h2 : bitAnd (st.fdiv (2 ^ (k : Int).toNat)) 1 = 0) (h3 : (mT.any fun x => x == bitOr st (1 * 2 ^ (k : Int).toNat)) = false) : oneF mk st k mT = mT ++ [bitOr st (1 * 2 ^ (k : Int).toNat)] := by
  rw [Int.toNat_natCast] at *
  unfold oneF; rw [if_pos ⟨h1, h2, h3⟩]
theorem kept_same {ns : List Int} {i : Nat} (h : moreF (ns.getD i 0) (keptS ns i).2 = []) : keptS ns (i + 1) = keptS ns i := by
  show (if _ then _ else _) = _
  rw [if_pos h]
theorem kept_more {ns : List Int} {i : Nat} (h : moreF (ns.getD i 0) (keptS ns i).2 ≠ []) : keptS ns (i + 1) = ((keptS ns i).1 ++ [(i : Int)], moreF (ns.getD i 0) (keptS ns i).2) := by
  show (if _ then _ else _) = _
  rw [if_neg h]
theorem offI {I d : Addr} {o : Obj} {l : List (Addr × Obj)} (h : (@Ne Nat d I)) (h2 : AllLt I l) : ∀ p ∈ (d, o) :: l, p.1 ≠ I := fun p hp => by
  rcases List.mem_cons.mp hp with rfl | hp
  · exact h
  · exact Nat.ne_of_lt (kst_ltOf h2 p hp)
theorem pow3 {i : Nat} (h : i < 5) : 3 ^ i ≤ 81 ∧ 3 ^ (i + 1) = 3 * 3 ^ i := by
  refine ⟨?_, by rw [Nat.pow_succ]; omega⟩
  match i, h with
  | 0, _ => decide
  | 1, _ => decide
  | 2, _ => decide
  | 3, _ => decide
  | 4, _ => decide
theorem kept_call (w : World) (loose : List Str) (mean : ExcName → Option Value) (mg mb : Str → Option Value) (news : List (Addr × Obj)) (l : Addr) (vs : List Value) (ns : List Int) (n : Nat) (hl : (l, listOf vs.toArray n) ∈ news) (hI : IntsAre vs ns) (hlen : ns.length = 5) (hb : ∀ k ∈ ns, 0 ≤ k ∧ k < 8) :
  Tell w loose mean mg mb 6 82 [.ref l] [] news (fun r nw => ∃ lk vk nk, nw = (lk, listOf vk.toArray nk) :: news ∧ IntsAre vk (keptS ns 5).1 ∧ (∀ p ∈ news, p.1 < lk) ∧ r = .ref lk) := by
  k_with_none
  k_with "exec For" => ((with_reducible refine stopW ?_))
  k_with "exec For Name Name cons nil" => ((with_reducible refine stopW ?_))
  k_with "exec For Name Call cons nil" => ((with_reducible refine stopW ?_))
  k_with "call builtin:len" => ((k_here; (with_reducible show wpAny _ _ (call (Value.builtin "len") [Value.ref _]) _ _ _); k_dflt (refine' len_mem ?w9k1 ?w9k2 ?w9k3 ?_; (case w9k1 => k_asm); (case w9k2 => kst_mem); (case w9k3 => omega); k_whole)))
  k_with "subscriptTail" => ((k_here; (with_reducible show wpAny _ _ (subscriptTail _ _ (Value.ref _) (Value.int _ _)) _ _ _); k_dflt (refine' item_mem ?w9k1 ?w9k2 ?w9k3 ?w9k4 ?w9k5 ?_ ?w9k6; (case w9k5 => assumption); (case w9k1 => k_asm); (case w9k2 => kst_mem); (case w9k3 => omega); (case w9k4 => omega); (case w9k6 => with_unfolding_all rfl); k_whole)))
  k_with "compareOp NotIn int ref" => ((k_here; k_dflt (refine' notin_mem ?w9k1 ?w9k2 ?w9k3 ?_; (case w9k1 => k_asm); (case w9k2 => k_memK); (case w9k3 => assumption); k_whole)))
  unfold Tell
  k_fill
  intro dp un gd cn cs a ccd cl outer A₀ base h₀ L m s Q E B F X N T hk hd hu hret
  have kMk := kstMark
  refine wpAny_call ?_
  k_dflt (refine' code_def ?k1 ?k2 ?k3 ?k4 ?k5 ?kA ?kF ?kK ?k6 ?k7 ?k8 ?k9 ?kB ?_ ?c2 ?c3 ?c4 ?c5; (case kA => exact rfl); (case kF => exact rfl); (case kK => assumption); (case k1 => k_asm); (case k2 => k_asm); (case k3 => k_asm); (case k4 => k_asm); (case k5 => k_asm); (case k6 => k_is); (case k7 => k_is); (case k8 => ktr_room); (case k9 => first | exact BindsTo.of_eq rfl | exact binds_K (by k_in) rfl (by k_is) rfl rfl rfl | (refine' kp_binds ?kx ?ke; (case kx => k_in); (case ke => exact fun _ => rfl)) | fail "k_enter: no rule for these arguments"); (case c5 => decide); (case kB => exact locs rfl); (case c2 => exact rfl); (case c3 => exact rfl); (case c4 => exact rfl); k_whole; intro g' L' h' FG' F' N' B' X' T'; (try dsimp only); (try k_lift B'); (try k_fold))
  replace F' := fr_kst [(Str.ofString "masks", _)] F'
  have hvl : vs.length = ns.length := hI.length
  have hIx := And.intro hI trivial
  k_steps
  unfold StopW
  (rename Fr _ _ _ _ => lF'); (rename News _ _ _ _ => lN')
  with_unfolding_all refine' For_invTF lF' ?_ ?hs
  case hs => intro _; rfl
  k_steps
  rename_i lk _ hlk _ _ ls0 _ hls0 _ _ _ _ _ _ _ _ _ hR F5 N5 _
  try clear lF'; try clear lN'
  with_unfolding_all refine' iterT_range (L := L') (n := 5) (fun i m nx => ∃ (vk : List Value) (nk : Nat) (ls : Addr) (vst : List Value) (nst : Nat), nx = (ls, listOf vst.toArray nst) :: (lk, listOf vk.toArray nk) :: news ∧ lk < ls ∧ AllLt ls news ∧ IntsAre vk (keptS ns i).1 ∧ IntsAre vst (keptS ns i).2 ∧ (keptS ns i).1.length ≤ i ∧ (keptS ns i).2.length ≤ 3 ^ i ∧ (∀ q ∈ (keptS ns i).2, 0 ≤ q ∧ q < 8) ∧ FrAs _ m [(Str.ofString "states", Value.ref ls)] [Str.ofString "place", Str.ofString "more", Str.ofString "state", Str.ofString "wish"]) rfl rfl hR (by rw [hlen]; decide) (by rw [hlen]; rfl) F5 N5 ⟨[], 0, ls0, [_], 0, rfl, hls0.1, hls0.2, .nil, .cons _ _ .nil, Nat.zero_le _, Nat.le_refl _, (by intro q hq; rw [List.mem_singleton.mp hq]; decide), FrAs.refl (all1 rfl)⟩ ?_ ?_
  · intro I oI i t m₁ nx s₁ hi hlt hoff hPz1 F₁ N₁
    obtain ⟨vk, nk, ls, vst, nst, hnx, hks, hsn, hvk, hvs, hkl, hsl, hsb, hF⟩ := hPz1
    subst hnx
    have F₂ := hF.fr F₁
    try clear F₁; try clear F5; try clear N5
    k_lt hlt
    have hIl := hoff _ (.head _)
    obtain ⟨v, hv⟩ : ∃ v, vs[i]? = some v := ⟨_, List.getElem?_eq_getElem (by omega)⟩
    obtain ⟨mk, tm, rfl, hmk⟩ := intsAre_at hIx.1 hv
    have hmb := hb mk (List.mem_of_getElem? hmk)
    have hnd : ns.getD i 0 = mk := by simp [List.getD, hmk]
    obtain ⟨sS, hsS⟩ : ∃ sS, sS = (keptS ns i).2 := ⟨_, rfl⟩
    obtain ⟨kS, hkS⟩ : ∃ kS, kS = (keptS ns i).1 := ⟨_, rfl⟩
    rw [← hsS] at hvs hsl hsb
    rw [← hkS] at hvk hkl
    have hp3 := pow3 hi
    have hvst : vst.length = sS.length := hvs.length
    have hvkl : vk.length = kS.length := hvk.length
    have hvsx := And.intro hvs trivial
    have hvkx := And.intro hvk trivial
    k_steps
    unfold StopW
    (rename Fr _ _ _ _ => lF'); (rename News _ _ _ _ => lN')
    rename_i lm _ hlm _
    with_unfolding_all refine' For_invTF lF' ?_ ?hs
    case hs => intro _; rfl
    k_steps
    with_unfolding_all refine' iterT_list (L := L') (vs := vst) (fun j m nx => ∃ (vm : List Value) (nm : Nat) (mS : List Int), mS = moreF mk (sS.take j) ∧ (∀ q ∈ mS, 0 ≤ q ∧ q < 8) ∧ nx = (lm, listOf vm.toArray nm) :: (I, oI) :: (ls, listOf vst.toArray nst) :: (lk, listOf vk.toArray nk) :: news ∧ IntsAre vm mS ∧ mS.length ≤ 3 * j ∧ FrAs _ m [] [Str.ofString "state", Str.ofString "wish"]) rfl rfl ?hl lF' lN' ⟨[], 0, [], rfl, (fun _ h => nomatch h), rfl, .nil, Nat.zero_le _, FrAs.refl (fun _ h => nomatch h)⟩ ?hJl ?_ ?_
    case hl => k_memK
    case hJl => (intro _ _ _ hJ; obtain ⟨vm, nm, mS, _, _, hnx, _⟩ := hJ; rw [hnx]; k_memK)
    · intro I2 oI2 j v2 m₂ nx s₂ hj hlt2 hoff2 hPz2 F₃ N₃
      obtain ⟨vm, nm, mS, hmS, hmb8, hnx, hvm, hml, hF2⟩ := hPz2
      subst hnx
      have F₄ := hF2.fr F₃
      try clear F₃; try clear lF'; try clear lN'; try clear F₂
      k_lt hlt2
      obtain ⟨st, ts, rfl, hst⟩ := intsAre_at hvsx.1 hj
      have hsb1 := hsb st (List.mem_of_getElem? hst)
      have hjl := (List.getElem?_eq_some_iff.mp hst).1
      have htk : sS.take (j + 1) = sS.take j ++ [st] := by simp [List.take_add_one, hst]
      k_steps
      unfold StopW
      (rename Fr _ _ _ _ => lF'); (rename News _ _ _ _ => lN')
      with_unfolding_all refine' For_invTF lF' ?_ ?hs
      case hs => intro _; rfl
      k_steps
      (rename IsRange _ _ _ _ _ _ _ _ => hR2)
      (rename Fr _ _ _ _ => F7); (rename News _ _ _ _ => N7)
      with_unfolding_all refine' iterT_range (L := L') (n := 3) (fun k m nx => ∃ (vm : List Value) (nm : Nat) (mT : List Int), mT = nF mk st k mS ∧ (∀ q ∈ mT, 0 ≤ q ∧ q < 8) ∧ nx = (lm, listOf vm.toArray nm) :: (I2, oI2) :: (I, oI) :: (ls, listOf vst.toArray nst) :: (lk, listOf vk.toArray nk) :: news ∧ IntsAre vm mT ∧ mT.length ≤ 3 * j + k ∧ FrAs _ m [] [Str.ofString "wish"]) rfl rfl hR2 (by decide) (by rfl) F7 (kst_newsOf N7 (by kst_inAny)) ⟨vm, nm, mS, rfl, hmb8, rfl, hvm, hml, FrAs.refl (fun _ h => nomatch h)⟩ ?_ ?_
      · intro I3 oI3 k3 t3 m₃ nx s₃ hk3 hlt3 hoff3 hPz3 F₅ N₅
        obtain ⟨vm, nm, mT, hmT, hmT8, hnx, hvm, hml, hF3⟩ := hPz3
        subst hnx
        have F₆ := hF3.fr F₅
        try clear F₅; try clear lF'; try clear lN'; try clear F7; try clear N7
        k_lt hlt3
        have hvml : vm.length = mT.length := hvm.length
        have hvmx := And.intro hvm trivial
        have hbo := bitOr_small hsb1.1 hsb1.2 hk3
        have hone := nF_succ mk st k3 mS
        rw [← hmT] at hone
        have e3 : ((k3 : Nat) : Int).toNat = k3 := Int.toNat_natCast k3
        k_steps
        all_goals (rename Fr _ _ _ _ => F9)
        all_goals (rename News _ _ _ _ => N9)
        · refine TurnEnd.intro ((lm, _) :: (I2, _) :: (I, _) :: (ls, _) :: (lk, _) :: news) F9 N9 (.head _) (by kst_inAny) (offLt hlt3) ⟨vm, nm, mT, (by rw [hone]; exact (oneF_b (by assumption)).symm), hmT8, rfl, hvmx.1, by omega, (fun _ h => nomatch h), (by
        intro z h2 h3
        simp only [List.contains_cons, List.contains_nil, Bool.or_false, beq_eq_false_iff_ne, Bool.or_eq_false_iff, ne_eq] at h3
        simp [h3, kstB])⟩
        · refine TurnEnd.intro ((lm, _) :: (I2, _) :: (I, _) :: (ls, _) :: (lk, _) :: news) F9 N9 (.head _) (by kst_inAny) (offLt hlt3) ⟨vm, nm, mT, (by rw [hone]; exact (oneF_c (by assumption)).symm), hmT8, rfl, hvmx.1, by omega, (fun _ h => nomatch h), (by
        intro z h2 h3
        simp only [List.contains_cons, List.contains_nil, Bool.or_false, beq_eq_false_iff_ne, Bool.or_eq_false_iff, ne_eq] at h3
        simp [h3, kstB])⟩
        · simp only [List.push_toArray] at N9
          refine TurnEnd.intro ((lm, _) :: (I2, _) :: (I, _) :: (ls, _) :: (lk, _) :: news) F9 N9 (.head _) (by kst_inAny) (offLt hlt3) ⟨_, _, mT ++ [bitOr st (1 * 2 ^ (k3 : Int).toNat)], (by rw [hone]; exact (oneF_d (by assumption) (by assumption) (by assumption)).symm), ?_, rfl, intsAre_snoc hvmx.1, (by rw [List.length_append]; simp only [List.length_singleton]; omega), (fun _ h => nomatch h), (by
        intro z h2 h3
        simp only [List.contains_cons, List.contains_nil, Bool.or_false, beq_eq_false_iff_ne, Bool.or_eq_false_iff, ne_eq] at h3
        simp [h3, kstB])⟩
          intro q hq
          rcases List.mem_append.mp hq with hq | hq
          · exact hmT8 q hq
          · rw [List.mem_singleton.mp hq, e3]; exact hbo
        · refine TurnEnd.intro ((lm, _) :: (I2, _) :: (I, _) :: (ls, _) :: (lk, _) :: news) F9 N9 (.head _) (by kst_inAny) (offLt hlt3) ⟨vm, nm, mT, (by rw [hone]; exact (oneF_a (by assumption)).symm), hmT8, rfl, hvmx.1, by omega, (fun _ h => nomatch h), (by
        intro z h2 h3
        simp only [List.contains_cons, List.contains_nil, Bool.or_false, beq_eq_false_iff_ne, Bool.or_eq_false_iff, ne_eq] at h3
        simp [h3, kstB])⟩
      · intro m₃ nx h3 tk3 hPz4 F₅ N₅
        obtain ⟨vm, nm, mT, hmT, hmT8, hnx, hvm, hml, hF3⟩ := hPz4
        subst hnx
        have F₆ := hF3.fr F₅
        try clear F₅; try clear lF'; try clear lN'; try clear F7; try clear N7
        k_steps
        refine TurnEnd.intro ((lm, _) :: (I, _) :: (ls, _) :: (lk, _) :: news) F₆ N₅ (by k_memK) (by kst_inAny) (offLt hlt2) ⟨vm, nm, mT, (by rw [htk, moreF_snoc, ← hmS]; exact hmT), hmT8, rfl, hvm, by omega, (fun _ h => nomatch h), (by
        intro z h2 h3
        simp only [List.contains_cons, List.contains_nil, Bool.or_false, beq_eq_false_iff_ne, Bool.or_eq_false_iff, ne_eq] at h3
        simp [h3, kstB])⟩
    · intro m₂ nx h2 tk2 hPz5 F₃ N₃
      obtain ⟨vm, nm, mS, hmS, hmb8, hnx, hvm, hml, hF2⟩ := hPz5
      subst hnx
      have F₄ := hF2.fr F₃
      try clear F₃; try clear lF'; try clear lN'; try clear F₂
      have hvml : vm.length = mS.length := hvm.length
      have hvmx := And.intro hvm trivial
      rw [hvst, List.take_length] at hmS
      have hnil : IntsAre ([] : List Value) [] := .nil
      k_steps
      · rename_i hdec
        (rename Fr _ _ _ _ => F9); (rename News _ _ _ _ => N9)
        have hm0 : moreF (ns.getD i 0) (keptS ns i).2 = [] := by rw [← hsS, hnd, ← hmS]; exact of_decide_eq_true hdec
        refine TurnEnd.intro ((ls, _) :: (lk, _) :: news) F9 N9 (by k_memK) (by kst_inAny) (offI hIl hlt.2) ⟨vk, nk, ls, vst, nst, rfl, hks, hsn, ?_, ?_, ?_, ?_, ?_, all1 rfl, ?_⟩
        · rw [kept_same hm0, ← hkS]; exact hvkx.1
        · rw [kept_same hm0, ← hsS]; exact hvsx.1
        · rw [kept_same hm0, ← hkS]; omega
        · rw [kept_same hm0, ← hsS]; omega
        · rw [kept_same hm0, ← hsS]; exact hsb
        · intro z h2 h3
          simp only [List.forall_mem_cons, List.not_mem_nil, false_implies, implies_true, and_true, ne_eq] at h2
          simp only [List.contains_cons, List.contains_nil, Bool.or_false, beq_eq_false_iff_ne, Bool.or_eq_false_iff, ne_eq] at h3
          simp [h2, h3, kstB]
      · rename_i hdec
        have hks' : @LT.lt Nat _ lk ls := hks
        (rename Fr _ _ _ _ => F9); (rename News _ _ _ _ => N9)
        have hm0 : moreF (ns.getD i 0) (keptS ns i).2 ≠ [] := by rw [← hsS, hnd, ← hmS]; exact of_decide_eq_false hdec
        k_dflt (refine' append_K F9 N9 (Upd.tail (by k_ne) (Upd.tail (by k_ne) (Upd.tail (by k_ne) (Upd.tail (by k_ne) (Upd.head (fun p hp => Nat.ne_of_lt (hlk p hp))))))) ?_ ?z)
        case z => (show vk.length ≤ sizeLine; rw [sizeLine_eq]; omega)
        intro h7 F7 N7
        clear F9 N9
        k_steps
        (rename Fr _ _ _ _ => F8); (rename News _ _ _ _ => N8)
        simp only [List.push_toArray] at N8
        refine TurnEnd.intro ((lm, _) :: (lk, _) :: news) F8 N8 (by k_memK) (by kst_inAny) (offI (by omega) hlt.2) ⟨_, _, lm, vm, nm, rfl, (by show @LT.lt Nat _ _ _; omega), hlm.2.2.2, ?_, ?_, ?_, ?_, ?_, all1 rfl, ?_⟩
        · rw [kept_more hm0, ← hkS]; exact intsAre_snoc hvkx.1
        · rw [kept_more hm0, ← hsS, hnd, ← hmS]; exact hvmx.1
        · rw [kept_more hm0, ← hkS, List.length_append]; simp only [List.length_singleton]; omega
        · rw [kept_more hm0, ← hsS, hnd, ← hmS]; simp only []; omega
        · rw [kept_more hm0, ← hsS, hnd, ← hmS]; exact hmb8
        · intro z h2 h3
          simp only [List.forall_mem_cons, List.not_mem_nil, false_implies, implies_true, and_true, ne_eq] at h2
          simp only [List.contains_cons, List.contains_nil, Bool.or_false, beq_eq_false_iff_ne, Bool.or_eq_false_iff, ne_eq] at h3
          simp [h2, h3, kstB]
  · intro m₁ nx h tk hPz6 F₁ N₁
    obtain ⟨vk, nk, ls, vst, nst, hnx, hks, hsn, hvk, hvs, hkl, hsl, hsb, hF⟩ := hPz6
    subst hnx
    have F₂ := hF.fr F₁
    try clear F₁; try clear F5; try clear N5
    k_steps
    exact hret _ ((lk, _) :: news) _ _ (by assumption) (cb_drop (by assumption) (by kst_inAny)) ⟨lk, vk, nk, rfl, hvk, hlk, rfl⟩
end Mine
end

section
-- P2
open PySem PySem.W PyProof.Rows PySem.Calls PySem.Builtin PySem.Builtin.Str
namespace Mine
theorem calm_P2 : True := by
  w_top off
  k_with_none
  trivial
/-- a sort's tree of questions, answered by a function; none where a place beyond n is asked for -/
noncomputable def kasRun {α : Type} (n : Nat) (c : Nat → Nat → Bool) : KasT α → Option α
  | .ret a => some a
  | .ask i j k => if i < n ∧ j < n then kasRun n c (k (c i j)) else none
theorem kas_run {α : Type} {n : Nat} {c : Nat → Nat → Bool} {cmp : Nat → Nat → (Bool → Shared → Prop) → Shared → Prop} {Q : α → Shared → Prop} {s : Shared} (hc : ∀ i j C, i < n → j < n → C (c i j) s → cmp i j C s) : ∀ (t : KasT α) (a : α), kasRun n c t = some a → Q a s → t.kasWp cmp Q s
  | .ret b, a, e, h => by
    have e' : some b = some a := e
    cases e'; exact h
  | .ask i j k, a, e, h => by
    have e' : (if i < n ∧ j < n then kasRun n c (k (c i j)) else none) = some a := e
    by_cases hij : i < n ∧ j < n
    · rw [if_pos hij] at e'
      exact hc i j _ hij.1 hij.2 (kas_run hc (k (c i j)) a e' h)
    · rw [if_neg hij] at e'; cases e'
/-- the stable insertion of a place by its rank -/
noncomputable def insI (r : Nat → Nat) (xs : List Nat) (i : Nat) : List Nat := xs.take (xs.filter fun y => decide (r y < r i)).length ++ i :: xs.drop (xs.filter fun y => decide (r y < r i)).length
noncomputable def permI (r : Nat → Nat) : List Nat := insI r (insI r (insI r (insI r (insI r [] 4) 3) 2) 1) 0
noncomputable def sortOk (a b c d e : Nat) : Bool := match kasRun 5 (fun i j => decide ([a, b, c, d, e].getD i 0 < [a, b, c, d, e].getD j 0)) (kas_sort 5) with
  | some p => p.toList == permI (fun i => [a, b, c, d, e].getD i 0)
  | none => false
theorem sort_aa : ∀ c d e : Fin 5, sortOk 0 0 c d e = true := by decide +kernel
theorem sort_ab : ∀ c d e : Fin 5, sortOk 0 1 c d e = true := by decide +kernel
theorem sort_ac : ∀ c d e : Fin 5, sortOk 0 2 c d e = true := by decide +kernel
theorem sort_ad : ∀ c d e : Fin 5, sortOk 0 3 c d e = true := by decide +kernel
theorem sort_ae : ∀ c d e : Fin 5, sortOk 0 4 c d e = true := by decide +kernel
theorem sort_ba : ∀ c d e : Fin 5, sortOk 1 0 c d e = true := by decide +kernel
theorem sort_bb : ∀ c d e : Fin 5, sortOk 1 1 c d e = true := by decide +kernel
theorem sort_bc : ∀ c d e : Fin 5, sortOk 1 2 c d e = true := by decide +kernel
theorem sort_bd : ∀ c d e : Fin 5, sortOk 1 3 c d e = true := by decide +kernel
theorem sort_be : ∀ c d e : Fin 5, sortOk 1 4 c d e = true := by decide +kernel
theorem sort_ca : ∀ c d e : Fin 5, sortOk 2 0 c d e = true := by decide +kernel
theorem sort_cb : ∀ c d e : Fin 5, sortOk 2 1 c d e = true := by decide +kernel
theorem sort_cc : ∀ c d e : Fin 5, sortOk 2 2 c d e = true := by decide +kernel
theorem sort_cd : ∀ c d e : Fin 5, sortOk 2 3 c d e = true := by decide +kernel
theorem sort_ce : ∀ c d e : Fin 5, sortOk 2 4 c d e = true := by decide +kernel
theorem sort_da : ∀ c d e : Fin 5, sortOk 3 0 c d e = true := by decide +kernel
theorem sort_db : ∀ c d e : Fin 5, sortOk 3 1 c d e = true := by decide +kernel
theorem sort_dc : ∀ c d e : Fin 5, sortOk 3 2 c d e = true := by decide +kernel
theorem sort_dd : ∀ c d e : Fin 5, sortOk 3 3 c d e = true := by decide +kernel
theorem sort_de : ∀ c d e : Fin 5, sortOk 3 4 c d e = true := by decide +kernel
theorem sort_ea : ∀ c d e : Fin 5, sortOk 4 0 c d e = true := by decide +kernel
theorem sort_eb : ∀ c d e : Fin 5, sortOk 4 1 c d e = true := by decide +kernel
theorem sort_ec : ∀ c d e : Fin 5, sortOk 4 2 c d e = true := by decide +kernel
theorem sort_ed : ∀ c d e : Fin 5, sortOk 4 3 c d e = true := by decide +kernel
theorem sort_ee : ∀ c d e : Fin 5, sortOk 4 4 c d e = true := by decide +kernel
theorem sort_ax (b c d e : Fin 5) : sortOk 0 b c d e = true := by
  obtain ⟨b, hb⟩ := b
  rcases (by omega : b = 0 ∨ b = 1 ∨ b = 2 ∨ b = 3 ∨ b = 4) with rfl | rfl | rfl | rfl | rfl
  · exact sort_aa c d e
  · exact sort_ab c d e
  · exact sort_ac c d e
  · exact sort_ad c d e
  · exact sort_ae c d e
theorem sort_bx (b c d e : Fin 5) : sortOk 1 b c d e = true := by
  obtain ⟨b, hb⟩ := b
  rcases (by omega : b = 0 ∨ b = 1 ∨ b = 2 ∨ b = 3 ∨ b = 4) with rfl | rfl | rfl | rfl | rfl
  · exact sort_ba c d e
  · exact sort_bb c d e
  · exact sort_bc c d e
  · exact sort_bd c d e
  · exact sort_be c d e
theorem sort_cx (b c d e : Fin 5) : sortOk 2 b c d e = true := by
  obtain ⟨b, hb⟩ := b
  rcases (by omega : b = 0 ∨ b = 1 ∨ b = 2 ∨ b = 3 ∨ b = 4) with rfl | rfl | rfl | rfl | rfl
  · exact sort_ca c d e
  · exact sort_cb c d e
  · exact sort_cc c d e
  · exact sort_cd c d e
  · exact sort_ce c d e
theorem sort_dx (b c d e : Fin 5) : sortOk 3 b c d e = true := by
  obtain ⟨b, hb⟩ := b
  rcases (by omega : b = 0 ∨ b = 1 ∨ b = 2 ∨ b = 3 ∨ b = 4) with rfl | rfl | rfl | rfl | rfl
  · exact sort_da c d e
  · exact sort_db c d e
  · exact sort_dc c d e
  · exact sort_dd c d e
  · exact sort_de c d e
theorem sort_ex (b c d e : Fin 5) : sortOk 4 b c d e = true := by
  obtain ⟨b, hb⟩ := b
  rcases (by omega : b = 0 ∨ b = 1 ∨ b = 2 ∨ b = 3 ∨ b = 4) with rfl | rfl | rfl | rfl | rfl
  · exact sort_ea c d e
  · exact sort_eb c d e
  · exact sort_ec c d e
  · exact sort_ed c d e
  · exact sort_ee c d e
theorem sort_ok0 (a b c d e : Fin 5) : sortOk a b c d e = true := by
  obtain ⟨a, ha⟩ := a
  rcases (by omega : a = 0 ∨ a = 1 ∨ a = 2 ∨ a = 3 ∨ a = 4) with rfl | rfl | rfl | rfl | rfl
  · exact sort_ax b c d e
  · exact sort_bx b c d e
  · exact sort_cx b c d e
  · exact sort_dx b c d e
  · exact sort_ex b c d e
end Mine
end

section
-- F11
open PySem PySem.W PyProof.Rows PySem.Calls PySem.Builtin PySem.Builtin.Str
namespace Mine
theorem calm_F11 : True := by
  w_top off
  k_with_none
  trivial
noncomputable abbrev dueT (b x : Str) (t u : Tok) (n : Nat) : Obj := { cls := .type "tuple", data := .seq #[.str b t, .str x u] n }
/-- a list of pairs (bare, name): the references, the ledger's part, the texts -/
inductive DueAre : List Value → List (Addr × Obj) → List (Str × Str) → Prop where
  | nil : DueAre [] [] []
  | cons {vs : List Value} {ts : List (Addr × Obj)} {xs : List (Str × Str)} (p : Addr) (b x : Str) (t u : Tok) (n : Nat) (r : DueAre vs ts xs) : DueAre (.ref p :: vs) ((p, dueT b x t u n) :: ts) ((b, x) :: xs)
theorem DueAre.length {vs : List Value} {ts : List (Addr × Obj)} {xs : List (Str × Str)} (h : DueAre vs ts xs) : vs.length = xs.length := by
  induction h with
  | nil => rfl
  | cons _ _ _ _ _ _ _ ih => simp [ih]
/-- the list of the pairs (language, encoding) -/
inductive PairsAre : List Value → List (Addr × Obj) → List (Option Str × Option Str) → Prop where
  | nil : PairsAre [] [] []
  | cons {vs : List Value} {ts : List (Addr × Obj)} {xs : List (Option Str × Option Str)} (p : Addr) (l e : Option Str) (t u : Tok) (n : Nat) (r : PairsAre vs ts xs) : PairsAre (.ref p :: vs) ((p, { cls := .type "tuple", data := .seq #[optV l t, optV e u] n }) :: ts) ((l, e) :: xs)
theorem PairsAre.length {vs : List Value} {ts : List (Addr × Obj)} {xs : List (Option Str × Option Str)} (h : PairsAre vs ts xs) : vs.length = xs.length := by
  induction h with
  | nil => rfl
  | cons _ _ _ _ _ _ _ ih => simp [ih]
theorem PairsAre.at {vs : List Value} {ts : List (Addr × Obj)} {xs : List (Option Str × Option Str)} (h : PairsAre vs ts xs) {i : Nat} {v : Value} (e : vs[i]? = some v) : ∃ p l c t u n, v = .ref p ∧ xs[i]? = some (l, c) ∧ (p, { cls := .type "tuple", data := .seq #[optV l t, optV c u] n }) ∈ ts := by
  induction h generalizing i with
  | nil => simp at e
  | cons p l c t u n r ih =>
    cases i with
    | zero => simp at e; exact ⟨p, l, c, t, u, n, e.symm, rfl, .head _⟩
    | succ i => simp at e; obtain ⟨p', l', c', t', u', n', h1, h2, h3⟩ := ih e; exact ⟨p', l', c', t', u', n', h1, by simpa using h2, .tail _ h3⟩
theorem comp_P {prog : Program} {w : World} {A : Around} {E : Value → Shared → Prop} {s : Shared} {h₀ : Heap} {L : Addr} {m : Str → Option Value} {env : Env} {elt iter : Expr} {x x₂ : Str} {px px₂ tp : Pos} {tk} {scope : Scope} {cl : List (Str × Addr)} {pos : Pos} {Q : Value → Shared → Prop} (F₀ : Fr h₀ L s.heap m)
    (hclos : closureFor scope env = pure cl) (hcell : ∀ y ∈ scope.names, y.2 ≠ .cell) (hkind : scope.kind = .function)
    (hnames : ∀ y ∈ scope.names, y.2 = .local → scope.names.lookup y.1 = some .local) (hx : scope.names.lookup x = some .local) (hx₂ : scope.names.lookup x₂ = some .local) (hxx : x ≠ x₂)
    (h : wpAny (model prog w) A (eval iter env) (LCp.SrcLP prog w A h₀ L m env elt x x₂ scope cl (fun s₂ => LCg.FinE h₀ L m s₂ Q)) E s)
    (hs : ∀ x, foldedSetIterable iter env x = pure x := by intro _; rfl) :
    wpAny (model prog w) A (eval (.ListComp elt [⟨.Tuple [.Name x px, .Name x₂ px₂] tk tp, iter, [], 0⟩] scope pos) env) Q E s := LCp.ListComp_P F₀ hclos hcell hkind hnames hx hx₂ hxx h hs
theorem add_mem {prog : Program} {w : World} {A : Around} {E : Value → Shared → Prop} {s : Shared} {h₀ : Heap} {L a b : Addr} {m : Str → Option Value} {news : List (Addr × Obj)} {vs ws : List Value} {c d : Nat} {Q : Value → Shared → Prop} (F : Fr h₀ L s.heap m) (N : News h₀ L s.heap news) (ha : (a, listOf vs.toArray c) ∈ news) (hb : (b, listOf ws.toArray d) ∈ news)
    (h : ∀ D h', Fr h₀ L h' m → News h₀ L h' ((D, listOf (vs ++ ws).toArray 0) :: news) → (∀ p ∈ news, p.1 < D) → Q (.ref D) { s with heap := h' })
    (hz : vs.length + ws.length ≤ sizeLine) : wpAny (model prog w) A (binaryOp .Add (.ref a) (.ref b)) Q E s :=
  kmk_add_lit F N (N.isList ha) (N.isList hb) rfl h hz
noncomputable def bareF (q : Option Str × Option Str) : Str := match q.2 with
  | none => q.1.getD (Str.ofString "C")
  | some y => y
noncomputable def dueF (qs : List (Option Str × Option Str)) : List (Str × Str) := (qs.map fun q => (bareF q, buildF q.1 q.2)).reverse
theorem dueF_snoc (qs : List (Option Str × Option Str)) (q : Option Str × Option Str) : dueF (qs ++ [q]) = (bareF q, buildF q.1 q.2) :: dueF qs := by simp [dueF]
theorem DueAre.five {vs : List Value} {ts : List (Addr × Obj)} {xs : List (Str × Str)} (h : DueAre vs ts xs) (hl : xs.length = 5) : ∃ p0 p1 p2 p3 p4 b0 b1 b2 b3 b4 x0 x1 x2 x3 x4 t0 t1 t2 t3 t4 u0 u1 u2 u3 u4 n0 n1 n2 n3 n4,
    vs = [.ref p0, .ref p1, .ref p2, .ref p3, .ref p4] ∧ ts = [(p0, dueT b0 x0 t0 u0 n0), (p1, dueT b1 x1 t1 u1 n1), (p2, dueT b2 x2 t2 u2 n2), (p3, dueT b3 x3 t3 u3 n3), (p4, dueT b4 x4 t4 u4 n4)] ∧ xs = [(b0, x0), (b1, x1), (b2, x2), (b3, x3), (b4, x4)] := by
  cases h with | nil => simp at hl | cons p0 b0 x0 t0 u0 n0 r =>
  cases r with | nil => simp at hl | cons p1 b1 x1 t1 u1 n1 r =>
  cases r with | nil => simp at hl | cons p2 b2 x2 t2 u2 n2 r =>
  cases r with | nil => simp at hl | cons p3 b3 x3 t3 u3 n3 r =>
  cases r with | nil => simp at hl | cons p4 b4 x4 t4 u4 n4 r =>
  cases r with
  | nil => exact ⟨_, _, _, _, _, _, _, _, _, _, _, _, _, _, _, _, _, _, _, _, _, _, _, _, _, _, _, _, _, _, rfl, rfl, rfl⟩
  | cons => simp at hl
theorem strsGetD {ks : List Value} {bs : List Str} (h : StrsAre ks bs) {i : Nat} (hi : i < bs.length) : ∃ t, ks.getD i .none = .str (bs.getD i (Str.ofString "")) t := by
  induction h generalizing i with
  | nil => exact absurd hi (Nat.not_lt_zero _)
  | cons x t r ih =>
    cases i with
    | zero => exact ⟨t, rfl⟩
    | succ i => exact ih (Nat.lt_of_succ_lt_succ hi)
theorem ask_strs {prog : Program} {w : World} {A : Around} {ks : List Value} {bs : List Str} (h : StrsAre ks bs) {i j : Nat} (hi : i < bs.length) (hj : j < bs.length) {C : Bool → Shared → Prop} {s : Shared} (hc : C (decide ((bs.getD i (Str.ofString "")).cps.toList < (bs.getD j (Str.ofString "")).cps.toList)) s) : kas_ask prog w A oneType' ks i j C s := by
  obtain ⟨t, e1⟩ := strsGetD h hi
  obtain ⟨u, e2⟩ := strsGetD h hj
  unfold kas_ask
  rw [e1, e2, keyLt'_oneType]
  exact oneLt_str hc
theorem rk_5 (x : Str) : rk x < 5 := by unfold rk; split <;> (try split) <;> (try split) <;> (try split) <;> omega
theorem sort_ok {a b c d e : Nat} (ha : a < 5) (hb : b < 5) (hc : c < 5) (hd : d < 5) (he : e < 5) : ∃ p, kasRun 5 (fun i j => decide ([a, b, c, d, e].getD i 0 < [a, b, c, d, e].getD j 0)) (kas_sort 5) = some p ∧ p.toList = permI (fun i => [a, b, c, d, e].getD i 0) := by
  have h := sort_ok0 ⟨a, ha⟩ ⟨b, hb⟩ ⟨c, hc⟩ ⟨d, hd⟩ ⟨e, he⟩
  unfold sortOk at h
  dsimp only at h
  split at h
  · rename_i p hp
    exact ⟨p, hp, beq_iff_eq.mp h⟩
  · cases h
theorem due_cmp {x0 x1 x2 x3 x4 b0 b1 b2 b3 b4 : Str} (h0 : x0 ∈ names16) (h1 : x1 ∈ names16) (h2 : x2 ∈ names16) (h3 : x3 ∈ names16) (h4 : x4 ∈ names16) (e0 : stripF x0 = b0) (e1 : stripF x1 = b1) (e2 : stripF x2 = b2) (e3 : stripF x3 = b3) (e4 : stripF x4 = b4) {i j : Nat} (hi : i < 5) (hj : j < 5) :
    decide (([b0, b1, b2, b3, b4].getD i (Str.ofString "")).cps.toList < ([b0, b1, b2, b3, b4].getD j (Str.ofString "")).cps.toList) = decide ([rk x0, rk x1, rk x2, rk x3, rk x4].getD i 0 < [rk x0, rk x1, rk x2, rk x3, rk x4].getD j 0) := by
  subst e0; subst e1; subst e2; subst e3; subst e4
  have key : ∀ i, i < 5 → ∃ x, x ∈ names16 ∧ [stripF x0, stripF x1, stripF x2, stripF x3, stripF x4].getD i (Str.ofString "") = stripF x ∧ [rk x0, rk x1, rk x2, rk x3, rk x4].getD i 0 = rk x := by
    intro i hi
    match i, hi with
    | 0, _ => exact ⟨_, h0, rfl, rfl⟩
    | 1, _ => exact ⟨_, h1, rfl, rfl⟩
    | 2, _ => exact ⟨_, h2, rfl, rfl⟩
    | 3, _ => exact ⟨_, h3, rfl, rfl⟩
    | 4, _ => exact ⟨_, h4, rfl, rfl⟩
  obtain ⟨x, hx, ex, er⟩ := key i hi
  obtain ⟨y, hy, ey, es⟩ := key j hj
  rw [ex, ey, er, es]
  exact rk_lt0 x hx y hy
section
open PyProof.Rows.LCg
theorem rest_P {prog : Program} {w : World} {A : Around} {s : Shared} {h₀ : Heap} {L : Addr} {m : Str → Option Value} {env : Env} {elt : Expr} {x x₂ : Str} {scope : Scope} {cl : List (Str × Addr)} {S : List (Addr × Obj) → Prop} {P : Nat → Value → Prop} {Fin : List Value → List (Addr × Obj) → Prop} {n : Nat} {news : List (Addr × Obj)} (J : Nat → List Value → Prop) (hS : S news)
    (step : ∀ i ys v, i < n → J i ys → P i v → ∃ (t : Addr) (ot : Obj) (v₁ v₂ : Value) (nt : Nat), v = .ref t ∧ (t, ot) ∈ news ∧ ot.cls = .type "tuple" ∧ ot.data = .seq #[v₁, v₂] nt ∧ ∀ I oI C oC D m₂ h tk (E' : Value → Shared → Prop), NsObj oC m₂ → m₂ x = some v₁ → m₂ x₂ = some v₂ → Fr h₀ L h m → News h₀ L h ((I, oI) :: (C, oC) :: (D, lst ys) :: news) → Off3 I C D news → ((@Ne Nat I C) ∧ (@Ne Nat I D) ∧ (@Ne Nat C D)) →
      wpAny (model prog w) A (eval elt (compEnvC scope cl C env)) (CEnd h₀ L m { s with heap := h, toks := tk } I oI C oC D (lst ys) news (fun y => J (i + 1) (ys ++ [y]))) E' { s with heap := h, toks := tk })
    (fin : ∀ ys, J n ys → Fin ys news) : ∀ k i ys, i + k = n → J i ys → LCp.CompRestP prog w A h₀ L m env elt x x₂ scope cl s S P Fin k i ys news
  | 0, i, ys, e, hj => LCp.CompRestP.zero (fin ys (by have e' : i = n := e; rw [← e']; exact hj))
  | k + 1, i, ys, e, hj => LCp.CompRestP.succ fun v hv => by
    obtain ⟨t, ot, v₁, v₂, nt, h1, h2, h3, h4, h5⟩ := step i ys v (by omega) hj hv
    exact ⟨t, ot, v₁, v₂, nt, h1, h2, h3, h4, fun I oI C oC D m₂ h tk E' hC hx hy F N off ne => wpAny_mono (h5 I oI C oC D m₂ h tk E' hC hx hy F N off ne) (fun y s₂ hy2 => hy2.end off hS fun hj' => rest_P J hS step fin k (i + 1) _ (by omega) hj') fun _ _ q => q⟩
end
theorem insI_len (r : Nat → Nat) (xs : List Nat) (i : Nat) : (insI r xs i).length = xs.length + 1 := by
  have h := List.length_filter_le (fun y => decide (r y < r i)) xs
  unfold insI
  rw [List.length_append, List.length_cons, List.length_take, List.length_drop]; omega
theorem insI_mem {r : Nat → Nat} {xs : List Nat} {i y : Nat} (h : y ∈ insI r xs i) : y = i ∨ y ∈ xs := by
  unfold insI at h
  rcases List.mem_append.mp h with h | h
  · exact .inr (List.mem_of_mem_take h)
  · rcases List.mem_cons.mp h with h | h
    · exact .inl h
    · exact .inr (List.mem_of_mem_drop h)
theorem permI_len (r : Nat → Nat) : (permI r).length = 5 := by
  unfold permI; simp only [insI_len]; rfl
theorem permI_lt {r : Nat → Nat} {y : Nat} (h : y ∈ permI r) : y < 5 := by
  unfold permI at h
  rcases insI_mem h with h | h
  · omega
  rcases insI_mem h with h | h
  · omega
  rcases insI_mem h with h | h
  · omega
  rcases insI_mem h with h | h
  · omega
  rcases insI_mem h with h | h
  · omega
  · cases h
theorem pick5 {p0 p1 p2 p3 p4 : Addr} {b0 b1 b2 b3 b4 x0 x1 x2 x3 x4 : Str} {t0 t1 t2 t3 t4 u0 u1 u2 u3 u4 : Tok} {n0 n1 n2 n3 n4 : Nat} {news : List (Addr × Obj)} {k : Nat} (hk : k < 5) :
    ∃ p b x t u n, [Value.ref p0, .ref p1, .ref p2, .ref p3, .ref p4].getD k .none = .ref p ∧ (p, dueT b x t u n) ∈ (p0, dueT b0 x0 t0 u0 n0) :: (p1, dueT b1 x1 t1 u1 n1) :: (p2, dueT b2 x2 t2 u2 n2) :: (p3, dueT b3 x3 t3 u3 n3) :: (p4, dueT b4 x4 t4 u4 n4) :: news ∧ [x0, x1, x2, x3, x4].getD k (Str.ofString "") = x := by
  match k, hk with
  | 0, _ => exact ⟨_, _, _, _, _, _, rfl, .head _, rfl⟩
  | 1, _ => exact ⟨_, _, _, _, _, _, rfl, .tail _ (.head _), rfl⟩
  | 2, _ => exact ⟨_, _, _, _, _, _, rfl, .tail _ (.tail _ (.head _)), rfl⟩
  | 3, _ => exact ⟨_, _, _, _, _, _, rfl, .tail _ (.tail _ (.tail _ (.head _))), rfl⟩
  | 4, _ => exact ⟨_, _, _, _, _, _, rfl, .tail _ (.tail _ (.tail _ (.tail _ (.head _)))), rfl⟩
theorem strs_snoc {vs : List Value} {ns : List Str} {x : Str} {t : Tok} (h : StrsAre vs ns) : StrsAre (vs ++ [.str x t]) (ns ++ [x]) := by
  induction h with
  | nil => exact .cons _ _ .nil
  | cons y t r ih => exact .cons _ _ ih
noncomputable def dueOut (xs : List Str) : List Str := (permI (fun i => (xs.map rk).getD i 0)).map fun k => xs.getD k (Str.ofString "")
noncomputable def DueJ (news : List (Addr × Obj)) (qs : List (Option Str × Option Str)) (m₀ : Str → Option Value) (i : Nat) (m : Str → Option Value) (nx : List (Addr × Obj)) : Prop :=
  ∃ (D : Addr) (vD : List Value) (tD : List (Addr × Obj)) (nD : Nat) (nT : List (Addr × Obj)), nx = (65, tabObj #[]) :: (D, listOf vD.toArray nD) :: nT ∧ (∀ p ∈ nT, (@Ne Nat p.1 65)) ∧ (@Ne Nat D 65) ∧ (∀ p ∈ tD, p ∈ nT) ∧ (∀ p ∈ news, p ∈ nT) ∧ DueAre vD tD (dueF (qs.take i)) ∧ FrAs m₀ m [(Str.ofString "due", Value.ref D)] [Str.ofString "language", Str.ofString "encoding", Str.ofString "front"]
theorem offC {I d : Addr} {o : Obj} {l : List (Addr × Obj)} (h : (@Ne Nat d I)) (h2 : ∀ p ∈ l, p.1 ≠ I) : ∀ p ∈ (d, o) :: l, p.1 ≠ I := List.forall_mem_cons.mpr ⟨h, h2⟩
theorem offMem {D : Addr} : ∀ {l : List (Addr × Obj)}, LCg.Off1 D l → ∀ p ∈ l, p.1 ≠ D
  | [], _, _, h => nomatch h
  | _ :: _, o, p, h => (List.mem_cons.mp h).elim (fun e => e ▸ o.1) fun h => offMem o.2 p h
theorem offLt1 {D : Addr} {l : List (Addr × Obj)} (h : AllLt D l) : ∀ p ∈ l, p.1 ≠ D := fun p hp => Nat.ne_of_lt (kst_ltOf h p hp)
theorem offLt2 {D k : Addr} {l : List (Addr × Obj)} (h : AllLt D l) (h2 : @LT.lt Nat _ D k) : ∀ p ∈ l, p.1 ≠ k := fun p hp => Nat.ne_of_lt (Nat.lt_trans (kst_ltOf h p hp) h2)
theorem due_turn {h₀ h' : Heap} {L I D D' tl tp : Addr} {oI ol oD : Obj} {m₀ m' : Str → Option Value} {s₁ : Shared} {tk : Nat} {news nT tD : List (Addr × Obj)} {vD : List Value} {b x : Str} {t u : Tok} {n c : Nat} {qs : List (Option Str × Option Str)} {q : Option Str × Option Str} {i : Nat}
    (F : Fr h₀ L h' m') (N : News h₀ L h' ((D', listOf (Value.ref tp :: vD).toArray c) :: (tl, ol) :: (tp, dueT b x t u n) :: (I, oI) :: (65, tabObj #[]) :: (D, oD) :: nT))
    (htk : qs.take (i + 1) = qs.take i ++ [q]) (hb : bareF q = b) (hx : buildF q.1 q.2 = x) (hD : DueAre vD tD (dueF (qs.take i))) (hT : ∀ p ∈ tD, p ∈ nT) (hN : ∀ p ∈ news, p ∈ nT) (hn65 : ∀ p ∈ nT, (@Ne Nat p.1 65)) (hoT : ∀ p ∈ nT, p.1 ≠ I) (hoP : (@Ne Nat 65 I))
    (hF : FrAs m₀ m' [(Str.ofString "due", Value.ref D')] [Str.ofString "language", Str.ofString "encoding", Str.ofString "front"])
    (h1 : (@Ne Nat D' I)) (h2 : (@Ne Nat tp I)) (h3 : (@Ne Nat D' 65)) (h4 : (@Ne Nat tp 65)) : TurnEnd h₀ L I oI (DueJ news qs m₀ (i + 1)) s₁ .next { s₁ with heap := h', toks := tk } := by
  subst hb; subst hx
  refine TurnEnd.intro ((65, tabObj #[]) :: (D', listOf (Value.ref tp :: vD).toArray c) :: (tp, dueT (bareF q) (buildF q.1 q.2) t u n) :: nT) F N (.tail _ (.tail _ (.tail _ (.head _)))) ?_ (offC hoP (offC h1 (offC h2 hoT))) ⟨D', Value.ref tp :: vD, (tp, dueT (bareF q) (buildF q.1 q.2) t u n) :: tD, c, (tp, dueT (bareF q) (buildF q.1 q.2) t u n) :: nT, rfl, List.forall_mem_cons.mpr ⟨h4, hn65⟩, h3, ?_, fun p hp => .tail _ (hN p hp), ?_, hF⟩
  · exact List.forall_mem_cons.mpr ⟨.tail _ (.tail _ (.tail _ (.tail _ (.head _)))), List.forall_mem_cons.mpr ⟨.head _, List.forall_mem_cons.mpr ⟨.tail _ (.tail _ (.head _)), fun p hp => .tail _ (.tail _ (.tail _ (.tail _ (.tail _ (.tail _ hp)))))⟩⟩⟩
  · exact List.forall_mem_cons.mpr ⟨.head _, fun p hp => .tail _ (hT p hp)⟩
  · rw [htk, dueF_snoc]; exact .cons _ _ _ _ _ _ hD
local macro_rules | `(tactic| walk_at "binaryOp Add ref ref") => `(tactic| (k_here; k_dflt (refine' add_mem ?F ?N ?a ?b ?_ ?z; (case F => k_asm); (case N => k_asm); (case a => k_memK); (case b => k_memK); (case z => (rw [sizeLine_eq]; simp only [List.length_cons, List.length_nil]; omega)); k_whole); intro D' h' F' N' l1; (try k_lt l1)))
local macro_rules | `(tactic| walk_at "call builtin:sorted") => `(tactic| (k_here; ksk_kw; ksk_show; (with_unfolding_all refine' kat_sortedK ?k1 ?k2 ?k3 ?k4 ?k5 ?a1 ?a2 ?a3 ?_; (case k1 => k_asm); (case k2 => k_asm); (case k3 => kso_list); (case k4 => exact Nat.le_of_ble_eq_true rfl); (case k5 => exact Nat.le_of_ble_eq_true rfl); (case a1 => ksk_a1); (case a2 => (intro _; ksk_a2)); (case a3 => (intro _; ksk_a3)); k_whole); intro D' kS' e' h' F' N' l0 l1; kat_eight; (have lA' := allLt_of l1); (try k_lt l1); (try k_lt2 l0)))
local macro_rules | `(tactic| walk_at "KatBack") => `(tactic| ((k_dflt (refine' KatBack.intro ?F ?N ?U ?_; (case F => k_asm); (case N => k_asm); (case U => exact UpdF.head (offC (by omega) (offLt2 (by assumption) (by omega)))); k_whole)); intro h' c' F' N'; (try dsimp only at N'); (try simp only [List.nil_append, List.cons_append] at N')))
local macro_rules | `(tactic| walk_at "call ref") => `(tactic| (k_here; k_dflt (refine wpAny_call ?_; (refine' kla_code ?k1 ?k2 ?k3 ?k4 ?k5 ?kA ?kF ?kK ?k6 ?k7 ?k8 ?k9 ?kB ?_ ?c2 ?c3 ?c4 ?c5; (case kA => exact rfl); (case kF => exact rfl); (case kK => exact rfl); (case k1 => k_asm); (case k2 => k_asm); (case k3 => k_asm); (case k4 => k_asm); (case k5 => k_asm); (case k6 => k_mem); (case k7 => exact codeRec_news (by k_asm) (by k_mem) (by assumption) (by assumption)); (case k8 => ktr_room); (case k9 => exact rfl); (case c5 => decide); (case kB => exact locs rfl); (case c2 => exact rfl); (case c3 => exact rfl); (case c4 => exact rfl); k_whole; intro g' L' h' FG' F' N' B' X' T'; (try dsimp only); (try k_lift B'); (try k_fold)))))
local macro_rules | `(tactic| walk_at "eval Lambda") => `(tactic| (k_here; k_dflt (refine' kla_eval ?d0 ?_; (case d0 => exact rfl)); k_dflt (refine' kla_nest ?F ?N ?T ?C ?cd ?U ?t ?n ?cl ?_; (case F => k_asm); (case N => k_asm); (case T => k_asm); (case cd => exact rfl); (case C => assumption); (case U => exact UpdF.head (List.forall_mem_cons.mpr ⟨by assumption, by assumption⟩)); (case t => kn_triples); (case n => kn_among); (case cl => exact rfl); k_whole); intro f' c' oc' vs' t' ct' h' tk' F' N' d1' d2' l1 l2; (try dsimp only at N'); (try k_lt l1); (try k_lt2 l2)))
theorem has65 {h₀ h : Heap} {L : Addr} {news : List (Addr × Obj)} {pt : Array Value} (_N : News h₀ L h news) (hm : (65, tabObj pt) ∈ news) : ∃ pt, (65, tabObj pt) ∈ news := ⟨pt, hm⟩
theorem due_call (w : World) (loose : List Str) (mean : ExcName → Option Value) (mg mb : Str → Option Value) (news : List (Addr × Obj)) (l : Addr) (vs : List Value) (ts : List (Addr × Obj)) (qs : List (Option Str × Option Str)) (n : Nat) (h65 : ∀ p ∈ news, (@Ne Nat p.1 65)) (hl : (l, listOf vs.toArray n) ∈ news) (hts : ∀ p ∈ ts, p ∈ news) (hP : PairsAre vs ts qs) (hlen : qs.length = 5) (hx3 : ∀ q ∈ dueF qs, q.2 ∈ names16 ∧ stripF q.2 = q.1) (hs : ∀ q ∈ qs, (∀ x, q.1 = some x → x.length < 100) ∧ (∀ x, q.2 = some x → x.length < 100)) :
  Tell w loose mean mg mb 4 68 [.ref l] [] ((65, tabObj #[]) :: news) (fun r nw => ∃ lk vk nk pt, nw = (lk, listOf vk.toArray nk) :: (65, tabObj pt) :: news ∧ StrsAre vk (dueOut ((dueF qs).map fun q => q.2)) ∧ (∀ p ∈ news, p.1 ≠ lk) ∧ (@Ne Nat 65 lk) ∧ r = .ref lk) := by
  k_with_none
  k_with "exec For" => ((with_reducible refine stopW ?_))
  k_with "exec For Name Name cons nil" => ((with_reducible refine stopW ?_))
  k_with "exec For Name Call cons nil" => ((with_reducible refine stopW ?_))
  k_with "eval ListComp" => ((k_here; k_dflt (refine comp_P (F₀ := by k_asm) (by with_unfolding_all rfl) (by decide) (by rfl) (by decide) (by rfl) (by rfl) (by decide) ?_)))
  k_with "kasWp" => ((with_reducible refine stopW ?_))
  unfold Tell
  k_fill
  intro dp un gd cn cs a ccd cl outer A₀ base h₀ L m s Q E B F X N T hk hd hu hret
  have kMk := kstMark
  refine wpAny_call ?_
  k_dflt (refine' code_def ?k1 ?k2 ?k3 ?k4 ?k5 ?kA ?kF ?kK ?k6 ?k7 ?k8 ?k9 ?kB ?_ ?c2 ?c3 ?c4 ?c5; (case kA => exact rfl); (case kF => exact rfl); (case kK => assumption); (case k1 => k_asm); (case k2 => k_asm); (case k3 => k_asm); (case k4 => k_asm); (case k5 => k_asm); (case k6 => k_is); (case k7 => k_is); (case k8 => ktr_room); (case k9 => first | exact BindsTo.of_eq rfl | exact binds_K (by k_in) rfl (by k_is) rfl rfl rfl | (refine' kp_binds ?kx ?ke; (case kx => k_in); (case ke => exact fun _ => rfl)) | fail "k_enter: no rule for these arguments"); (case c5 => decide); (case kB => exact locs rfl); (case c2 => exact rfl); (case c3 => exact rfl); (case c4 => exact rfl); k_whole; intro g' L' h' FG' F' N' B' X' T'; (try dsimp only); (try k_lift B'); (try k_fold))
  replace F' := fr_kst [(Str.ofString "pairs", _)] F'
  have hPx := And.intro hP trivial
  have hvl : vs.length = qs.length := hP.length
  k_steps
  unfold StopW
  (rename Fr _ _ _ _ => lF'); (rename News _ _ _ _ => lN')
  with_unfolding_all refine' For_invTF lF' ?_ ?hs
  case hs => intro _; rfl
  k_steps
  rename_i D0 _ hD0 _
  have hD65 : (@Ne Nat D0 65) := by omega
  with_unfolding_all refine' iterT_list (L := L') (vs := vs) (DueJ news qs _) rfl rfl ?hl lF' (kst_newsOf lN' (by kst_inAny)) ⟨D0, [], [], 0, news, rfl, h65, hD65, (fun _ h => nomatch h), (fun _ h => h), .nil, FrAs.refl (all1 rfl)⟩ ?hJl ?_ ?_
  case hl => exact .tail _ (.tail _ hl)
  case hJl => (intro _ _ _ hJ; obtain ⟨D, vD, tD, nD, nT, hnx, _, _, _, h2, _⟩ := hJ; rw [hnx]; exact .tail _ (.tail _ (h2 _ hl)))
  · intro I oI i v m₁ nx s₁ hi hlt hoff hPz1 F₁ N₁
    obtain ⟨D, vD, tD, nD, nT, hnx, hn65, hd65, hT, hN, hD, hF⟩ := hPz1
    subst hnx
    have F₂ := hF.fr F₁
    try clear F₁; try clear lF'; try clear lN'
    obtain ⟨p, la, ec, t1, t2, n1, rfl, hqi, hpt⟩ := hPx.1.at hi
    have hmem : (p, ({ cls := .type "tuple", data := .seq #[optV la t1, optV ec t2] n1 } : Obj)) ∈ nT := hN _ (hts _ hpt)
    have hsz := hs _ (List.mem_of_getElem? hqi)
    have htk : qs.take (i + 1) = qs.take i ++ [(la, ec)] := by simp [List.take_add_one, hqi]
    have hilt := (List.getElem?_eq_some_iff.mp hqi).1
    have hIT := News.isTup N₁ (List.mem_cons_of_mem _ (List.mem_cons_of_mem _ (List.mem_cons_of_mem _ hmem)))
    have hDl : vD.length = i := by rw [hD.length]; simp [dueF]; omega
    have hoT : ∀ p ∈ nT, p.1 ≠ I := fun p hp => hoff p (.tail _ (.tail _ hp))
    have hoP : (@Ne Nat 65 I) := hoff _ (.head _)
    cases la with
    | none =>
      cases ec with
      | none =>
        dsimp only [optV] at hmem hIT
        k_steps
        (rename Fr _ _ _ _ => F9); (rename News _ _ _ _ => N9)
        refine due_turn F9 N9 htk rfl rfl hD hT hN hn65 hoT hoP ⟨all1 rfl, ?_⟩ ?_ ?_ ?_ ?_
        · intro z h2 h3
          simp only [List.forall_mem_cons, List.not_mem_nil, false_implies, implies_true, and_true, ne_eq] at h2
          simp only [List.contains_cons, List.contains_nil, Bool.or_false, beq_eq_false_iff_ne, Bool.or_eq_false_iff, ne_eq] at h3
          simp [h2, h3, kstB]
        all_goals omega
      | some y =>
        have hy := hsz.2 y rfl
        dsimp only [optV] at hmem hIT
        k_steps
        (rename Fr _ _ _ _ => F9); (rename News _ _ _ _ => N9)
        refine due_turn F9 N9 htk rfl rfl hD hT hN hn65 hoT hoP ⟨all1 rfl, ?_⟩ ?_ ?_ ?_ ?_
        · intro z h2 h3
          simp only [List.forall_mem_cons, List.not_mem_nil, false_implies, implies_true, and_true, ne_eq] at h2
          simp only [List.contains_cons, List.contains_nil, Bool.or_false, beq_eq_false_iff_ne, Bool.or_eq_false_iff, ne_eq] at h3
          simp [h2, h3, kstB]
        all_goals omega
    | some x =>
      have hx := hsz.1 x rfl
      cases ec with
      | none =>
        dsimp only [optV] at hmem hIT
        k_steps
        (rename Fr _ _ _ _ => F9); (rename News _ _ _ _ => N9)
        refine due_turn F9 N9 htk rfl rfl hD hT hN hn65 hoT hoP ⟨all1 rfl, ?_⟩ ?_ ?_ ?_ ?_
        · intro z h2 h3
          simp only [List.forall_mem_cons, List.not_mem_nil, false_implies, implies_true, and_true, ne_eq] at h2
          simp only [List.contains_cons, List.contains_nil, Bool.or_false, beq_eq_false_iff_ne, Bool.or_eq_false_iff, ne_eq] at h3
          simp [h2, h3, kstB]
        all_goals omega
      | some y =>
        have hy := hsz.2 y rfl
        dsimp only [optV] at hmem hIT
        k_steps
        (rename Fr _ _ _ _ => F9); (rename News _ _ _ _ => N9)
        refine due_turn F9 N9 htk rfl rfl hD hT hN hn65 hoT hoP ⟨all1 rfl, ?_⟩ ?_ ?_ ?_ ?_
        · intro z h2 h3
          simp only [List.forall_mem_cons, List.not_mem_nil, false_implies, implies_true, and_true, ne_eq] at h2
          simp only [List.contains_cons, List.contains_nil, Bool.or_false, beq_eq_false_iff_ne, Bool.or_eq_false_iff, ne_eq] at h3
          simp [h2, h3, kstB]
        all_goals omega
  · intro m₁ nx h tk hPz2 F₁ N₁
    obtain ⟨D, vD, tD, nD, nT, hnx, hn65, hd65, hT, hN, hD, hF⟩ := hPz2
    subst hnx
    have F₂ := hF.fr F₁
    try clear F₁; try clear lF'; try clear lN'
    rw [hvl, List.take_length] at hD
    have C65 : CodeHd g' 67 65 := codeHd_of_K X' (by rfl)
    generalize hxs : dueF qs = xs at hD
    have hxl : xs.length = 5 := by rw [← hxs]; simp [dueF, hlen]
    obtain ⟨p0, p1, p2, p3, p4, b0, b1, b2, b3, b4, x0, x1, x2, x3, x4, t0, t1, t2, t3, t4, u0, u1, u2, u3, u4, n0, n1, n2, n3, n4, e1, e2, e3⟩ := hD.five hxl
    subst e1; subst e2; subst e3
    have N₂ : News g' L' h ((65, tabObj #[]) :: (D, listOf #[.ref p0, .ref p1, .ref p2, .ref p3, .ref p4] nD) :: (p0, dueT b0 x0 t0 u0 n0) :: (p1, dueT b1 x1 t1 u1 n1) :: (p2, dueT b2 x2 t2 u2 n2) :: (p3, dueT b3 x3 t3 u3 n3) :: (p4, dueT b4 x4 t4 u4 n4) :: news) := fun q hq => N₁ q (by
      rcases List.mem_cons.mp hq with rfl | hq
      · exact .head _
      rcases List.mem_cons.mp hq with rfl | hq
      · exact .tail _ (.head _)
      refine .tail _ (.tail _ ?_)
      rcases List.mem_append.mp (show q ∈ [(p0, dueT b0 x0 t0 u0 n0), (p1, dueT b1 x1 t1 u1 n1), (p2, dueT b2 x2 t2 u2 n2), (p3, dueT b3 x3 t3 u3 n3), (p4, dueT b4 x4 t4 u4 n4)] ++ news from hq) with hq | hq
      · exact hT q hq
      · exact hN q hq)
    have g65 : ∀ q ∈ (p0, dueT b0 x0 t0 u0 n0) :: (p1, dueT b1 x1 t1 u1 n1) :: (p2, dueT b2 x2 t2 u2 n2) :: (p3, dueT b3 x3 t3 u3 n3) :: (p4, dueT b4 x4 t4 u4 n4) :: news, (@Ne Nat q.1 65) := fun q hq => by
      rcases List.mem_append.mp (show q ∈ [(p0, dueT b0 x0 t0 u0 n0), (p1, dueT b1 x1 t1 u1 n1), (p2, dueT b2 x2 t2 u2 n2), (p3, dueT b3 x3 t3 u3 n3), (p4, dueT b4 x4 t4 u4 n4)] ++ news from hq) with hq | hq
      · exact hn65 q (hT q hq)
      · exact h65 q hq
    clear N₁ hn65 hT hN
    k_steps
    unfold StopW
    have hA0 := hx3 (b0, x0) (by rw [hxs]; exact .head _)
    have hA1 := hx3 (b1, x1) (by rw [hxs]; exact .tail _ (.head _))
    have hA2 := hx3 (b2, x2) (by rw [hxs]; exact .tail _ (.tail _ (.head _)))
    have hA3 := hx3 (b3, x3) (by rw [hxs]; exact .tail _ (.tail _ (.tail _ (.head _))))
    have hA4 := hx3 (b4, x4) (by rw [hxs]; exact .tail _ (.tail _ (.tail _ (.tail _ (.head _)))))
    dsimp only at hA0 hA1 hA2 hA3 hA4
    obtain ⟨pm, hpm, hpl⟩ := sort_ok (rk_5 x0) (rk_5 x1) (rk_5 x2) (rk_5 x3) (rk_5 x4)
    refine kas_run (n := 5) (fun i j C hi hj hC => ask_strs (bs := [b0, b1, b2, b3, b4]) (.cons _ _ (.cons _ _ (.cons _ _ (.cons _ _ (.cons _ _ .nil))))) hi hj ?_) _ pm hpm ?_
    · rw [due_cmp hA0.1 hA1.1 hA2.1 hA3.1 hA4.1 hA0.2 hA1.2 hA2.2 hA3.2 hA4.2 hi hj]; exact hC
    (rename Fr _ _ _ _ => F6); (rename News _ _ _ _ => N6)
    refine KatFin.intro F6 N6 (UpdF.head (offC (by omega) (offLt2 (by assumption) (by omega)))) ?_
    intro h7 c7 F7 N7
    refine KasFin.intro F7 N7 (UpdF.tail (by show (@Ne Nat _ _); omega) (UpdF.head (offLt1 (by assumption)))) ?_
    intro h8 c8 F8 N8
    clear F6 N6 F7 N7
    have hout : katRev false (List.map (fun i => (katRev false [Value.ref p0, Value.ref p1, Value.ref p2, Value.ref p3, Value.ref p4]).getD i Value.none) pm.toList) = (permI fun i => [rk x0, rk x1, rk x2, rk x3, rk x4].getD i 0).map fun i => [Value.ref p0, Value.ref p1, Value.ref p2, Value.ref p3, Value.ref p4].getD i Value.none := by
      rw [← hpl]; rfl
    rw [hout] at N8
    obtain ⟨pl, hplx⟩ : ∃ pl, pl = permI fun i => [rk x0, rk x1, rk x2, rk x3, rk x4].getD i 0 := ⟨_, rfl⟩
    have hpll : pl.length = 5 := by rw [hplx]; exact permI_len _
    have hplt : ∀ y ∈ pl, y < 5 := fun y hy => permI_lt (r := fun i => [rk x0, rk x1, rk x2, rk x3, rk x4].getD i 0) (by rw [← hplx]; exact hy)
    rw [← hplx] at N8
    refine LCp.SrcLP.ledger rfl F8 N8 (.tail _ (.head _)) (by rw [sizeLine_eq]; simp [hpll]) fun g => ?_
    refine rest_P (n := 5) (fun i ys => StrsAre ys ((pl.take i).map fun k => [x0, x1, x2, x3, x4].getD k (Str.ofString ""))) (.inr ⟨_, .tail _ (.head _), rfl, _, rfl⟩) ?_ ?_ _ 0 [] (by simp [hpll]) .nil
    · intro i ys v hi hJ hv
      obtain ⟨k, hk, hvk⟩ : ∃ k, pl[i]? = some k ∧ [Value.ref p0, .ref p1, .ref p2, .ref p3, .ref p4].getD k .none = v := by simpa using hv
      obtain ⟨p, b, x, t, u, n9, e1, e2, e3⟩ := pick5 (news := news) (p0 := p0) (p1 := p1) (p2 := p2) (p3 := p3) (p4 := p4) (b0 := b0) (b1 := b1) (b2 := b2) (b3 := b3) (b4 := b4) (x0 := x0) (x1 := x1) (x2 := x2) (x3 := x3) (x4 := x4) (t0 := t0) (t1 := t1) (t2 := t2) (t3 := t3) (t4 := t4) (u0 := u0) (u1 := u1) (u2 := u2) (u3 := u3) (u4 := u4) (n0 := n0) (n1 := n1) (n2 := n2) (n3 := n3) (n4 := n4) (hplt k (List.mem_of_getElem? hk))
      refine ⟨p, _, _, _, _, hvk.symm.trans e1, .tail _ (.tail _ (.tail _ (.tail _ (.tail _ (.tail _ e2))))), rfl, rfl, ?_⟩
      intro I oI C oC D m₂ h tk E' hC hx hy F N off ne
      clear F8 N8 hx3
      have htk : pl.take (i + 1) = pl.take i ++ [k] := by simp [List.take_add_one, hk]
      simp only [LCg.Off3] at off
      k_steps
      refine CEnd.intro (by assumption) (by assumption) (fun p hp => hp) ?_
      rw [htk, List.map_append, List.map_cons, List.map_nil, e3]
      exact strs_snoc hJ
    · intro ys hJ D5 h tk F N off
      rw [List.take_of_length_le (Nat.le_of_eq hpll)] at hJ
      clear F8 N8 hx3
      have off0 := offMem off
      simp only [LCg.Off1] at off
      k_steps
      (rename Fr _ _ _ _ => F9); (rename News _ _ _ _ => N9)
      obtain ⟨pt, h65m⟩ := has65 N9 (by k_memK)
      have h65n : (@Ne Nat 65 D5) := off0 (65, tabObj _) (by k_memK)
      refine hret _ ((D5, listOf ys.toArray ys.length) :: (65, tabObj pt) :: news) _ _ F9 (fun q hq => N9 q ((List.mem_cons.mp hq).elim (fun e => e ▸ List.Mem.head _) fun hq => (List.mem_cons.mp hq).elim (fun e => e ▸ h65m) fun h => .tail _ (.tail _ (.tail _ (.tail _ (.tail _ (.tail _ (.tail _ (.tail _ (.tail _ (.tail _ (.tail _ (.tail _ h))))))))))))) ⟨D5, ys, ys.length, pt, rfl, ?_, fun q hq => off0 q (.tail _ (.tail _ (.tail _ (.tail _ (.tail _ (.tail _ (.tail _ (.tail _ (.tail _ (.tail _ (.tail _ hq))))))))))), h65n, rfl⟩
      rw [hxs]
      unfold dueOut
      rw [hplx] at hJ
      exact hJ

end Mine
end

section
-- P1
open PySem PySem.W PyProof.Rows PySem.Calls PySem.Builtin PySem.Builtin.Str
namespace Mine
theorem calm_P1 : True := by
  w_top off
  k_with_none
  trivial
noncomputable def hitN (w m : Nat) : Bool := Nat.land m (7 - w) != 0
noncomputable def popN : List Nat := [0, 1, 1, 2, 1, 2, 2, 3]
/-- for each set w of wishes: how many it has and how many names ask besides, three at most; and one mask more -/
noncomputable def stpN (v : List Nat) (m : Nat) : List Nat := (List.range 8).map fun w => min 3 (v.getD w 0 + if hitN w m then 1 else 0)
noncomputable def alN (ms : List Nat) : List Nat := ms.foldl stpN popN
noncomputable def rnkN (v : List Nat) : Nat := v.foldl min 3
noncomputable def cntN (ms : List Nat) (w : Nat) : Nat := (ms.filter (hitN w)).length
theorem hit_eq : ∀ w m : Fin 8, hitF w.val ((m.val : Nat) : Int) = hitN w.val m.val := by decide +kernel
theorem getD_range8 (f : Nat → Nat) {w : Nat} (h : w < 8) : ((List.range 8).map f).getD w 0 = f w := by
  simp [List.getD, h]
theorem cntN_snoc (ms : List Nat) (m w : Nat) : cntN (ms ++ [m]) w = cntN ms w + if hitN w m then 1 else 0 := by
  unfold cntN
  rw [List.filter_append, List.length_append]
  by_cases h : hitN w m <;> simp [h]
theorem alN_snoc (ms : List Nat) (m : Nat) : alN (ms ++ [m]) = stpN (alN ms) m := by simp [alN]
theorem alN_eq (ms : List Nat) : alN ms = (List.range 8).map fun w => min 3 (popN.getD w 0 + cntN ms w) := by
  suffices H : ∀ n (ms : List Nat), ms.length = n → alN ms = (List.range 8).map fun w => min 3 (popN.getD w 0 + cntN ms w) from H _ ms rfl
  intro n
  induction n with
  | zero =>
    intro ms h
    rw [List.eq_nil_of_length_eq_zero h]
    decide +kernel
  | succ n ih =>
    intro ms h
    obtain ⟨r, m, rfl⟩ : ∃ r m, ms = r ++ [m] := ⟨ms.dropLast, ms.getLast (by intro e; simp [e] at h), (List.dropLast_concat_getLast _).symm⟩
    rw [alN_snoc, ih r (by simpa using h)]
    unfold stpN
    refine List.map_congr_left fun w hw => ?_
    rw [getD_range8 _ (List.mem_range.mp hw), cntN_snoc]
    omega
theorem foldl_min_map (f : Nat → Nat) : ∀ (l : List Nat) (a : Nat), (l.map fun x => min 3 (f x)).foldl min (min 3 a) = min 3 ((l.map f).foldl min a)
  | [], a => rfl
  | x :: r, a => by
    simp only [List.map_cons, List.foldl_cons]
    rw [← foldl_min_map f r (min a (f x))]
    congr 1
    omega
theorem foldl_min_of : ∀ (l : List Nat) (a : Nat), (l.map Int.ofNat).foldl min (Int.ofNat a) = Int.ofNat (l.foldl min a)
  | [], _ => rfl
  | x :: r, a => by
    simp only [List.map_cons, List.foldl_cons]
    rw [← foldl_min_of r (min a x)]
    congr 1
    show min (a : Int) (x : Int) = ((min a x : Nat) : Int)
    omega
theorem foldl_min_a : ∀ (l : List Nat) (a b : Nat), l.foldl min (min a b) = min a (l.foldl min b)
  | [], _, _ => rfl
  | x :: r, a, b => by
    simp only [List.foldl_cons]
    rw [← foldl_min_a r a (min b x)]
    congr 1
    omega
theorem foldl_min_le : ∀ (l : List Nat) (a : Nat), l.foldl min a ≤ a ∧ ∀ x ∈ l, l.foldl min a ≤ x
  | [], _ => ⟨Nat.le_refl _, fun _ h => nomatch h⟩
  | x :: r, a => by
    have h := foldl_min_le r (min a x)
    simp only [List.foldl_cons]
    refine ⟨by omega, fun y hy => ?_⟩
    rcases List.mem_cons.mp hy with rfl | hy
    · omega
    · exact h.2 y hy
/-- the masks that the law can meet -/
noncomputable def Small (ns : List Int) : Prop := ∀ k ∈ ns, 0 ≤ k ∧ k < 8
theorem cnt_eq {ns : List Int} (h : Small ns) {w : Nat} (hw : w < 8) : cntF ns w = (cntN (ns.map Int.toNat) w : Int) := by
  unfold cntF cntN
  congr 1
  rw [List.filter_map, List.length_map]
  congr 1
  refine List.filter_congr fun k hk => ?_
  obtain ⟨h0, h1⟩ := h k hk
  have := hit_eq ⟨w, hw⟩ ⟨k.toNat, by omega⟩
  dsimp only at this
  rw [Int.toNat_of_nonneg h0] at this
  exact this
theorem most_eq {ns : List Int} (h : Small ns) : mostF ns = (rnkN (alN (ns.map Int.toNat)) : Int) := by
  have hs : sumsF ns 8 = ((List.range 8).map fun w => popN.getD w 0 + cntN (ns.map Int.toNat) w).map Int.ofNat := by
    unfold sumsF
    rw [List.map_map]
    refine List.map_congr_left fun w hw => ?_
    have hw8 := List.mem_range.mp hw
    rw [cnt_eq h hw8]
    have hp : ∀ w : Fin 8, popF.getD w.val 0 = ((popN.getD w.val 0 : Nat) : Int) := by decide +kernel
    rw [hp ⟨w, hw8⟩]
    rfl
  have h7 : popN.getD 7 0 + cntN (ns.map Int.toNat) 7 = 3 := by
    have : cntN (ns.map Int.toNat) 7 = 0 := by
      unfold cntN
      rw [List.length_eq_zero_iff, List.filter_eq_nil_iff]
      intro m _
      simp [hitN]
    rw [this]; rfl
  unfold mostF
  rw [hs, alN_eq]
  generalize hf : (fun w => popN.getD w 0 + cntN (ns.map Int.toNat) w) = f at *
  have h7' : f 7 = 3 := by rw [← hf]; exact h7
  have e1 : ((List.range 8).map f).map Int.ofNat = [Int.ofNat (f 0), Int.ofNat (f 1), Int.ofNat (f 2), Int.ofNat (f 3), Int.ofNat (f 4), Int.ofNat (f 5), Int.ofNat (f 6), Int.ofNat (f 7)] := rfl
  have e2 : (List.range 8).map (fun w => min 3 (popN.getD w 0 + cntN (ns.map Int.toNat) w)) = (List.range 8).map fun w => min 3 (f w) := by rw [← hf]
  rw [e2]
  unfold rnkN
  have e3 := foldl_min_map f (List.range 8) 3
  rw [show min 3 3 = 3 from rfl] at e3
  rw [e3, e1]
  show [Int.ofNat (f 1), Int.ofNat (f 2), Int.ofNat (f 3), Int.ofNat (f 4), Int.ofNat (f 5), Int.ofNat (f 6), Int.ofNat (f 7)].foldl min (Int.ofNat (f 0)) = ((min 3 ([f 1, f 2, f 3, f 4, f 5, f 6, f 7].foldl min (min 3 (f 0))) : Nat) : Int)
  have e4 := foldl_min_of [f 1, f 2, f 3, f 4, f 5, f 6, f 7] (f 0)
  have e5 := (foldl_min_le [f 1, f 2, f 3, f 4, f 5, f 6, f 7] (f 0)).2 (f 7) (by simp)
  rw [foldl_min_a]
  refine Eq.trans e4 (congrArg Int.ofNat ?_)
  omega
noncomputable def reachN : List (List Nat × List Int) := [([0, 1, 1, 2, 1, 2, 2, 3], [0]), ([1, 1, 2, 2, 2, 2, 3, 3], [1]), ([1, 2, 1, 2, 2, 3, 2, 3], [2]), ([1, 2, 2, 2, 2, 3, 3, 3], [1, 2]), ([1, 2, 2, 3, 1, 2, 2, 3], [4]), ([1, 2, 2, 3, 2, 2, 3, 3], [1, 4]), ([1, 2, 2, 3, 2, 3, 2, 3], [2, 4]), ([1, 2, 2, 3, 2, 3, 3, 3], [1, 2, 4]), ([2, 1, 3, 2, 3, 2, 3, 3], [1]), ([2, 2, 2, 2, 3, 3, 3, 3], [3]), ([2, 2, 3, 2, 3, 3, 3, 3], [3]), ([2, 2, 3, 3, 2, 2, 3, 3], [5]), ([2, 2, 3, 3, 3, 2, 3, 3], [5]), ([2, 2, 3, 3, 3, 3, 3, 3], [3, 5]), ([2, 3, 1, 2, 3, 3, 2, 3], [2]), ([2, 3, 2, 2, 3, 3, 3, 3], [3]), ([2, 3, 2, 3, 2, 3, 2, 3], [6]), ([2, 3, 2, 3, 3, 3, 3, 3], [3, 6]), ([2, 3, 2, 3, 3, 3, 2, 3], [6]), ([2, 3, 3, 2, 3, 3, 3, 3], [3]), ([2, 3, 3, 3, 2, 3, 3, 3], [5, 6]), ([2, 3, 3, 3, 3, 3, 3, 3], [5, 3, 6]), ([2, 3, 3, 3, 3, 3, 3, 3], [3, 5, 6]), ([2, 3, 3, 3, 1, 2, 2, 3], [4]), ([2, 3, 3, 3, 2, 2, 3, 3], [5]), ([2, 3, 3, 3, 2, 3, 2, 3], [6]), ([2, 3, 3, 3, 3, 2, 3, 3], [5]), ([2, 3, 3, 3, 3, 3, 3, 3], [3, 6, 5]), ([2, 3, 3, 3, 3, 3, 2, 3], [6]), ([3, 1, 3, 2, 3, 2, 3, 3], [1]), ([3, 2, 3, 2, 3, 3, 3, 3], [3]), ([3, 2, 3, 3, 3, 2, 3, 3], [5]), ([3, 2, 3, 3, 3, 3, 3, 3], [3, 5]), ([3, 3, 2, 2, 3, 3, 3, 3], [3]), ([3, 3, 3, 2, 3, 3, 3, 3], [3]), ([3, 3, 3, 3, 3, 3, 3, 3], [7]), ([3, 3, 3, 3, 2, 2, 3, 3], [5]), ([3, 3, 3, 3, 3, 2, 3, 3], [5]), ([3, 3, 1, 2, 3, 3, 2, 3], [2]), ([3, 3, 2, 3, 3, 3, 2, 3], [6]), ([3, 3, 2, 3, 3, 3, 3, 3], [3, 6]), ([3, 3, 3, 3, 2, 3, 2, 3], [6]), ([3, 3, 3, 3, 3, 3, 2, 3], [6]), ([3, 3, 3, 3, 2, 3, 3, 3], [5, 6]), ([3, 3, 3, 3, 1, 2, 2, 3], [4])]
theorem reach0 : reachN.contains (popN, [0]) = true := by decide +kernel
noncomputable def stepOk (p : List Nat × List Int) (m : Nat) : Bool := match moreF (m : Int) p.2 with
  | [] => rnkN (stpN p.1 m) == rnkN p.1 && reachN.contains (stpN p.1 m, p.2)
  | x :: r => rnkN (stpN p.1 m) == rnkN p.1 + 1 && reachN.contains (stpN p.1 m, x :: r)
theorem step_ok : (reachN.all fun p => (List.range 8).all fun m => stepOk p m) = true := by decide +kernel
noncomputable def closeOk (v : List Nat) (m : Nat) : Bool := !(rnkN (stpN v m) == rnkN v) || (List.range 8).all fun b => rnkN (stpN (stpN v b) m) == rnkN (stpN v b)
theorem close_ok : (reachN.all fun p => (List.range 8).all fun m => closeOk p.1 m) = true := by decide +kernel
end Mine
end

section
-- P3
open PySem PySem.W PyProof.Rows PySem.Calls PySem.Builtin PySem.Builtin.Str
namespace Mine
theorem calm_P3 : True := by
  w_top off
  k_with_none
  trivial
section
open PyProof.V PySem.Spec PySem.SeqAt
theorem readsAll_strs {h : Heap} : ∀ {vs : List Value} {ns : List Str}, StrsAre vs ns → ReadsAll h vs (ns.map PyData.str) []
  | _, _, .nil => .nil
  | _, _, .cons k t r => by
    have := ReadsAll.cons (Reads.str (h := h) k t) (readsAll_strs (h := h) r)
    simpa using this
theorem reads_strs {h : Heap} {a : Addr} {vs : List Value} {ns : List Str} (hl : h.IsList a vs.toArray) (hi : StrsAre vs ns) : Reads h (.ref a) (.list (ns.map PyData.str)) [a] := by
  obtain ⟨o, ho, hc, n, hd⟩ := hl
  exact Reads.list ho hc hd (by simpa using readsAll_strs hi)
theorem canLay_strs : ∀ ns : List Str, (∀ x ∈ ns, PyData.strOk x = true) → PyData.canLayAll0 (ns.map PyData.str) = true
  | [], _ => by simp [PyData.canLayAll0]
  | n :: r, h => by simp [PyData.canLayAll0, PyData.canLay0, canLay_strs r (fun x hx => h x (.tail _ hx)), h n (.head _)]
theorem depth_strs : ∀ ns : List Str, PyData.depthAll (ns.map PyData.str) ≤ 1
  | [] => by simp [PyData.depthAll]
  | n :: r => by
    have := depth_strs r
    simp only [List.map_cons, PyData.depthAll, PyData.depth]
    omega
theorem shaped_strs {ns : List Str} (hok : ∀ x ∈ ns, PyData.strOk x = true) : shaped (.list (ns.map PyData.str)) = true := by
  have h1 := depth_strs ns
  have h2 : PyData.depth (.list (ns.map PyData.str)) ≤ 64 := by simp only [PyData.depth]; omega
  show (PyData.canLay0 (.list (ns.map PyData.str)) && decide (PyData.depth (.list (ns.map PyData.str)) ≤ 64)) = true
  rw [Bool.and_eq_true]
  exact ⟨by simp only [PyData.canLay0]; exact canLay_strs ns hok, decide_eq_true h2⟩
theorem noMix_strs : ∀ ns ms : List Str, noMixAll (ns.map PyData.str) (ms.map PyData.str) = true
  | [], [] => by simp [noMixAll]
  | [], _ :: _ => by simp [noMixAll]
  | _ :: _, [] => by simp [noMixAll]
  | _ :: r, _ :: q => by simp [noMixAll, noMix, noMix_strs r q]
theorem same_strs : ∀ ns : List Str, PySem.Spec.sameAll (ns.map PyData.str) (ns.map PyData.str) = true
  | [] => by simp [PySem.Spec.sameAll]
  | n :: r => by simp [PySem.Spec.sameAll, PySem.Spec.same, same_strs r]
theorem ne_strs {prog : Program} {w : World} {A : Around} {E : Value → Shared → Prop} {s : Shared} {h₀ : Heap} {L a b : Addr} {news : List (Addr × Obj)} {Q : Value → Shared → Prop} {vs us : List Value} {ns : List Str} {c d : Nat}
    (N : News h₀ L s.heap news) (ha : (a, listOf vs.toArray c) ∈ news) (hi : StrsAre vs ns) (hb : (b, listOf us.toArray d) ∈ news) (hi' : StrsAre us ns) (hok : ∀ x ∈ ns, PyData.strOk x = true) (hu : A.units + 64 < cLine) (h : Q (.bool false) s) : wpAny (model prog w) A (compareOp .NotEq (.ref a) (.ref b)) Q E s :=
  ne_dataH_same (reads_strs (N.isList ha) hi) (reads_strs (N.isList hb) hi') (shaped_strs hok) (shaped_strs hok) hu (by simp only [noMix]; exact noMix_strs ns ns) (by simp only [PySem.Spec.same]; rw [same_strs]; exact h)
end
/-- the ranks of a list of names do not fall -/
noncomputable abbrev RkUp (xs : List Str) : Prop := xs.Pairwise fun y z => rk y ≤ rk z
theorem RkUp.mono {xs : List Str} (h : RkUp xs) : ∀ (i j : Nat) (y z : Str), i ≤ j → xs[i]? = some y → xs[j]? = some z → rk y ≤ rk z := by
  intro i j y z hij hi hj
  rcases Nat.lt_or_eq_of_le hij with hlt | rfl
  · obtain ⟨h1, e1⟩ := List.getElem?_eq_some_iff.mp hi
    obtain ⟨h2, e2⟩ := List.getElem?_eq_some_iff.mp hj
    rw [← e1, ← e2]
    exact List.pairwise_iff_getElem.mp h i j h1 h2 hlt
  · rw [hi] at hj; cases hj; exact Nat.le_refl _
theorem up_split {xs : List Str} {x : Str} (h : RkUp xs) : xs.take (xs.filter fun y => decide (rk y < rk x)).length = xs.filter (fun y => decide (rk y < rk x)) ∧ xs.drop (xs.filter fun y => decide (rk y < rk x)).length = xs.filter (fun y => !decide (rk y < rk x)) := by
  induction xs with
  | nil => exact ⟨rfl, rfl⟩
  | cons y r ih =>
    have hr := List.Pairwise.of_cons h
    obtain ⟨i1, i2⟩ := ih hr
    by_cases hy : rk y < rk x
    · rw [List.filter_cons_of_pos (by simpa using hy), List.filter_cons_of_neg (by simpa using hy)]
      exact ⟨by rw [List.length_cons, List.take_succ_cons, i1], by rw [List.length_cons, List.drop_succ_cons, i2]⟩
    · have hall : ∀ z ∈ r, ¬ rk z < rk x := fun z hz hlt => hy (Nat.lt_of_le_of_lt ((List.pairwise_cons.mp h).1 z hz) hlt)
      have e0 : r.filter (fun y => decide (rk y < rk x)) = [] := List.filter_eq_nil_iff.mpr fun z hz => by simpa using hall z hz
      have e1 : r.filter (fun y => !decide (rk y < rk x)) = r := List.filter_eq_self.mpr fun z hz => by simpa using hall z hz
      rw [List.filter_cons_of_neg (by simpa using hy), List.filter_cons_of_pos (by simpa using hy), e0, e1]
      exact ⟨rfl, rfl⟩
theorem insF_up {xs : List Str} {x : Str} (h : RkUp xs) : RkUp (insF xs x) := by
  obtain ⟨e1, e2⟩ := up_split (x := x) h
  unfold insF
  rw [e1, e2]
  refine List.pairwise_append.mpr ⟨List.Pairwise.filter _ h, List.pairwise_cons.mpr ⟨fun z hz => ?_, List.Pairwise.filter _ h⟩, fun y hy z hz => ?_⟩
  · have := (List.mem_filter.mp hz).2; simp at this; exact this
  · have hy2 := (List.mem_filter.mp hy).2; simp at hy2
    rcases List.mem_cons.mp hz with rfl | hz
    · exact Nat.le_of_lt hy2
    · have hz2 := (List.mem_filter.mp hz).2; simp at hz2
      omega
theorem insF_len (xs : List Str) (x : Str) : (insF xs x).length = xs.length + 1 := by
  have h := List.length_filter_le (fun y => decide (rk y < rk x)) xs
  unfold insF
  rw [List.length_append, List.length_cons, List.length_take, List.length_drop]; omega
theorem insF_mem {xs : List Str} {x y : Str} (h : y ∈ insF xs x) : y = x ∨ y ∈ xs := by
  unfold insF at h
  rcases List.mem_append.mp h with h | h
  · exact .inr (List.mem_of_mem_take h)
  · rcases List.mem_cons.mp h with h | h
    · exact .inl h
    · exact .inr (List.mem_of_mem_drop h)
noncomputable def nmF (a : Int) : Str := buildF (lgF a) (ecF a)
theorem nm16 : ∀ i j : Fin 4, buildF ([none, some (Str.ofString "a"), some (Str.ofString "b"), some (Str.ofString "ab")].getD i none) ([none, some (Str.ofString "a"), some (Str.ofString "b"), some (Str.ofString "ba")].getD j none) ∈ names16 ∧ stripF (buildF ([none, some (Str.ofString "a"), some (Str.ofString "b"), some (Str.ofString "ab")].getD i none) ([none, some (Str.ofString "a"), some (Str.ofString "b"), some (Str.ofString "ba")].getD j none)) = bareF ([none, some (Str.ofString "a"), some (Str.ofString "b"), some (Str.ofString "ab")].getD i none, [none, some (Str.ofString "a"), some (Str.ofString "b"), some (Str.ofString "ba")].getD j none) := by decide +kernel
theorem toNat4 (x : Int) : (x.fmod 4).toNat < 4 := by have := fmod4 x; omega
theorem nmF_mem (a : Int) : nmF a ∈ names16 := (nm16 ⟨_, toNat4 a⟩ ⟨_, toNat4 (a.fdiv 4)⟩).1
theorem nmF_bare (a : Int) : stripF (nmF a) = bareF (lgF a, ecF a) := (nm16 ⟨_, toNat4 a⟩ ⟨_, toNat4 (a.fdiv 4)⟩).2
theorem menu_len : ∀ i : Fin 4, (∀ x, [none, some (Str.ofString "a"), some (Str.ofString "b"), some (Str.ofString "ab")].getD i none = some x → x.length < 100) ∧ ∀ x, [none, some (Str.ofString "a"), some (Str.ofString "b"), some (Str.ofString "ba")].getD i none = some x → x.length < 100 := by
  intro i
  match i with
  | 0 => exact ⟨fun x h => (nomatch h), fun x h => (nomatch h)⟩
  | 1 => exact ⟨fun x h => by cases h; decide, fun x h => by cases h; decide⟩
  | 2 => exact ⟨fun x h => by cases h; decide, fun x h => by cases h; decide⟩
  | 3 => exact ⟨fun x h => by cases h; decide, fun x h => by cases h; decide⟩
theorem lgF_len (a : Int) : ∀ x, lgF a = some x → x.length < 100 := (menu_len ⟨_, toNat4 a⟩).1
theorem ecF_len (a : Int) : ∀ x, ecF a = some x → x.length < 100 := (menu_len ⟨_, toNat4 (a.fdiv 4)⟩).2
noncomputable def rowF (xs : List Str) : List Str := xs.foldl insF []
theorem rowF_snoc (xs : List Str) (x : Str) : rowF (xs ++ [x]) = insF (rowF xs) x := by simp [rowF]
theorem rowF_of {xs : List Str} : (∀ x ∈ xs, x ∈ names16) → RkUp (rowF xs) ∧ (rowF xs).length = xs.length ∧ ∀ y ∈ rowF xs, y ∈ names16 := by
  suffices H : ∀ (xs acc : List Str), (∀ x ∈ xs, x ∈ names16) → RkUp acc → (∀ y ∈ acc, y ∈ names16) → RkUp (xs.foldl insF acc) ∧ (xs.foldl insF acc).length = acc.length + xs.length ∧ ∀ y ∈ xs.foldl insF acc, y ∈ names16 by
    intro h
    have := H xs [] h List.Pairwise.nil (fun _ h => nomatch h)
    simpa [rowF] using this
  intro xs
  induction xs with
  | nil => intro acc _ h1 h2; exact ⟨h1, by simp, h2⟩
  | cons x r ih =>
    intro acc h h1 h2
    have := ih (insF acc x) (fun z hz => h z (.tail _ hz)) (insF_up h1) (fun y hy => (insF_mem hy).elim (fun e => e ▸ h x (.head _)) (h2 y))
    rw [List.foldl_cons]
    refine ⟨this.1, ?_, this.2.2⟩
    rw [this.2.1, insF_len, List.length_cons]; omega
/-- the sorted list of the law is the row -/
theorem insF_map {xs : List Str} (l : List Nat) (i : Nat) : insF (l.map fun k => xs.getD k (Str.ofString "")) (xs.getD i (Str.ofString "")) = (insI (fun k => rk (xs.getD k (Str.ofString ""))) l i).map fun k => xs.getD k (Str.ofString "") := by
  unfold insF insI
  have e : ((l.map fun k => xs.getD k (Str.ofString "")).filter fun y => decide (rk y < rk (xs.getD i (Str.ofString "")))).length = (l.filter fun k => decide (rk (xs.getD k (Str.ofString "")) < rk (xs.getD i (Str.ofString "")))).length := by
    rw [List.filter_map, List.length_map]; rfl
  rw [e, List.map_append, List.map_cons, List.map_take, List.map_drop]
theorem ok16 : ∀ x ∈ names16, PyData.strOk x = true := by decide +kernel
theorem insI_congr {r r' : Nat → Nat} {l : List Nat} {i : Nat} (h : ∀ y ∈ l, r y = r' y) (hi : r i = r' i) : insI r l i = insI r' l i := by
  have e : l.filter (fun y => decide (r y < r i)) = l.filter (fun y => decide (r' y < r' i)) := List.filter_congr fun y hy => by rw [h y hy, hi]
  unfold insI; rw [e]
theorem insI_lt {r : Nat → Nat} {l : List Nat} {i n : Nat} (h : ∀ y ∈ l, y < n) (hi : i < n) : ∀ y ∈ insI r l i, y < n := fun y hy => (insI_mem hy).elim (fun e => e ▸ hi) (h y)
theorem permI_congr {r r' : Nat → Nat} (h : ∀ i, i < 5 → r i = r' i) : permI r = permI r' := by
  have n0 : ∀ y ∈ ([] : List Nat), y < 5 := fun _ h => nomatch h
  have n1 := insI_lt (r := r') (i := 4) n0 (by decide)
  have n2 := insI_lt (r := r') (i := 3) n1 (by decide)
  have n3 := insI_lt (r := r') (i := 2) n2 (by decide)
  have n4 := insI_lt (r := r') (i := 1) n3 (by decide)
  unfold permI
  rw [insI_congr (l := []) (i := 4) (fun y hy => h y (n0 y hy)) (h 4 (by decide)), insI_congr (i := 3) (fun y hy => h y (n1 y hy)) (h 3 (by decide)), insI_congr (i := 2) (fun y hy => h y (n2 y hy)) (h 2 (by decide)), insI_congr (i := 1) (fun y hy => h y (n3 y hy)) (h 1 (by decide)), insI_congr (i := 0) (fun y hy => h y (n4 y hy)) (h 0 (by decide))]
theorem due_row (a b c d e : Str) : dueOut [a, b, c, d, e] = rowF [e, d, c, b, a] := by
  have e0 : permI (fun i => ([a, b, c, d, e].map rk).getD i 0) = permI (fun k => rk ([a, b, c, d, e].getD k (Str.ofString ""))) := permI_congr fun i hi => by
    match i, hi with
    | 0, _ => rfl
    | 1, _ => rfl
    | 2, _ => rfl
    | 3, _ => rfl
    | 4, _ => rfl
  unfold dueOut
  rw [e0]
  unfold permI
  rw [← insF_map, ← insF_map, ← insF_map, ← insF_map, ← insF_map]
  rfl
end Mine
end

section
-- P4
open PySem PySem.W PyProof.Rows PySem.Calls PySem.Builtin PySem.Builtin.Str
namespace Mine
theorem calm_P4 : True := by
  w_top off
  k_with_none
  trivial
theorem step_at {p : List Nat × List Int} (hp : p ∈ reachN) {m : Nat} (hm : m < 8) : stepOk p m = true :=
  List.all_eq_true.mp (List.all_eq_true.mp step_ok p hp) m (List.mem_range.mpr hm)
theorem step_none {p : List Nat × List Int} (hp : p ∈ reachN) {m : Nat} (hm : m < 8) (h : moreF (m : Int) p.2 = []) : rnkN (stpN p.1 m) = rnkN p.1 ∧ (stpN p.1 m, p.2) ∈ reachN := by
  have := step_at hp hm
  unfold stepOk at this
  rw [h] at this
  simpa using this
theorem step_some {p : List Nat × List Int} (hp : p ∈ reachN) {m : Nat} (hm : m < 8) (h : moreF (m : Int) p.2 ≠ []) : rnkN (stpN p.1 m) = rnkN p.1 + 1 ∧ (stpN p.1 m, moreF (m : Int) p.2) ∈ reachN := by
  have := step_at hp hm
  unfold stepOk at this
  match hx : moreF (m : Int) p.2, h with
  | x :: r, _ =>
    rw [hx] at this
    simpa using this
noncomputable def rkN (ns : List Int) (i : Nat) : Nat := rnkN (alN ((ns.take i).map Int.toNat))
noncomputable def growN (ns : List Int) (j : Nat) : Bool := rkN ns (j + 1) != rkN ns j
theorem take_snoc {ns : List Int} {i : Nat} (h : i < ns.length) : (ns.take (i + 1)).map Int.toNat = (ns.take i).map Int.toNat ++ [(ns.getD i 0).toNat] := by
  rw [List.take_add_one, List.map_append]
  congr 1
  simp [List.getD, h]
theorem range_grow (g : Nat → Bool) (i : Nat) : (List.range (i + 1)).filter g = (List.range i).filter g ++ if g i then [i] else [] := by
  rw [List.range_succ, List.filter_append]
  by_cases h : g i <;> simp [h]
theorem small_at {ns : List Int} (h : Small ns) {i : Nat} (hi : i < ns.length) : (ns.getD i 0).toNat < 8 ∧ (((ns.getD i 0).toNat : Nat) : Int) = ns.getD i 0 := by
  have hm : ns.getD i 0 ∈ ns := by simp [List.getD, hi]
  obtain ⟨h0, h1⟩ := h _ hm
  exact ⟨by omega, by omega⟩
theorem kept_inv {ns : List Int} (h : Small ns) : ∀ i, i ≤ ns.length → (alN ((ns.take i).map Int.toNat), (keptS ns i).2) ∈ reachN ∧ (keptS ns i).1 = ((List.range i).filter (growN ns)).map Int.ofNat ∧ rkN ns i = ((List.range i).filter (growN ns)).length
  | 0, _ => ⟨List.contains_iff_mem.mp reach0, rfl, by show rnkN popN = 0; decide +kernel⟩
  | i + 1, hi => by
    obtain ⟨i1, i2, i3⟩ := kept_inv h i (by omega)
    obtain ⟨m1, m2⟩ := small_at h (i := i) (by omega)
    have ha : alN ((ns.take (i + 1)).map Int.toNat) = stpN (alN ((ns.take i).map Int.toNat)) (ns.getD i 0).toNat := by rw [take_snoc (by omega), alN_snoc]
    have hr : rkN ns (i + 1) = rnkN (stpN (alN ((ns.take i).map Int.toNat)) (ns.getD i 0).toNat) := by unfold rkN; rw [ha]
    rw [range_grow]
    by_cases hm : moreF (ns.getD i 0) (keptS ns i).2 = []
    · obtain ⟨s1, s2⟩ := step_none i1 m1 (by rw [m2]; exact hm)
      have hg : growN ns i = false := by
        unfold growN; rw [hr]; dsimp only at s1; rw [s1]; simp [rkN]
      rw [kept_same hm, hg]
      refine ⟨by rw [ha]; exact s2, by simpa using i2, ?_⟩
      rw [hr]; dsimp only at s1; rw [s1]
      show rkN ns i = _
      rw [i3]; simp
    · obtain ⟨s1, s2⟩ := step_some i1 m1 (by rw [m2]; exact hm)
      have hg : growN ns i = true := by
        unfold growN; rw [hr]; dsimp only at s1; rw [s1]; simp [rkN]
      rw [kept_more hm, hg]
      refine ⟨by rw [ha]; rw [m2] at s2; exact s2, by simp [i2], ?_⟩
      rw [hr]; dsimp only at s1; rw [s1]
      have : rnkN (alN ((ns.take i).map Int.toNat)) = ((List.range i).filter (growN ns)).length := i3
      rw [this]; simp
theorem filter_below (g : Nat → Bool) (f : Nat) : ∀ d, ((List.range (f + d)).filter g).filter (fun j => decide (j < f)) = (List.range f).filter g
  | 0 => List.filter_eq_self.mpr fun j hj => by have := List.mem_range.mp (List.mem_filter.mp hj).1; simpa using this
  | d + 1 => by
    rw [← Nat.add_assoc, range_grow, List.filter_append, filter_below g f d]
    by_cases h : g (f + d) <;> simp [h]
/-- of each front of the row as many are kept as can have a wish -/
theorem front_law {ns : List Int} (h : Small ns) (hl : ns.length = 5) {f : Nat} (hf : f ≤ 5) : (cntLt (keptS ns 5).1 (f : Int) : Int) = mostF (ns.take f) := by
  have hk := (kept_inv h 5 (by omega)).2.1
  have hr := (kept_inv h f (by omega)).2.2
  rw [most_eq (fun k hk => h k (List.mem_of_mem_take hk))]
  show _ = ((rkN ns f : Nat) : Int)
  rw [hr, hk]
  unfold cntLt
  rw [List.filter_map, List.length_map]
  have e : (fun j : Nat => decide ((Int.ofNat j) < (f : Int))) = fun j => decide (j < f) := by
    funext j; exact decide_eq_decide.mpr ⟨fun h => by have : (j : Int) < f := h; omega, fun h => by show (j : Int) < f; omega⟩
  have e2 := filter_below (growN ns) f (5 - f)
  rw [show f + (5 - f) = 5 by omega] at e2
  show ((((List.range 5).filter (growN ns)).filter fun j : Nat => decide ((Int.ofNat j) < (f : Int))).length : Int) = _
  rw [e, e2]
theorem stpN_comm (v : List Nat) (a b : Nat) : stpN (stpN v a) b = stpN (stpN v b) a := by
  unfold stpN
  refine List.map_congr_left fun w hw => ?_
  have h8 := List.mem_range.mp hw
  rw [getD_range8 _ h8, getD_range8 _ h8]
  omega
theorem al_reach : ∀ (ns : List Nat), (∀ m ∈ ns, m < 8) → ∃ S, (alN ns, S) ∈ reachN := by
  suffices H : ∀ n (ns : List Nat), ns.length = n → (∀ m ∈ ns, m < 8) → ∃ S, (alN ns, S) ∈ reachN from fun ns => H _ ns rfl
  intro n
  induction n with
  | zero =>
    intro ns hn _
    rw [List.eq_nil_of_length_eq_zero hn]
    exact ⟨[0], List.contains_iff_mem.mp reach0⟩
  | succ n ih =>
    intro ns hn hs
    obtain ⟨r, m, rfl⟩ : ∃ r m, ns = r ++ [m] := ⟨ns.dropLast, ns.getLast (by intro e; simp [e] at hn), (List.dropLast_concat_getLast _).symm⟩
    obtain ⟨S, hS⟩ := ih r (by simpa using hn) (fun x hx => hs x (by simp [hx]))
    have hm : m < 8 := hs m (by simp)
    rw [alN_snoc]
    by_cases hx : moreF (m : Int) S = []
    · exact ⟨_, (step_none hS hm hx).2⟩
    · exact ⟨_, (step_some hS hm hx).2⟩
theorem rnk_unit {v : List Nat} {S : List Int} (h : (v, S) ∈ reachN) {m : Nat} (hm : m < 8) : rnkN (stpN v m) = rnkN v ∨ rnkN (stpN v m) = rnkN v + 1 := by
  by_cases hx : moreF (m : Int) S = []
  · exact .inl (step_none h hm hx).1
  · exact .inr (step_some h hm hx).1
theorem al_append (as bs : List Nat) : alN (as ++ bs) = bs.foldl stpN (alN as) := by simp [alN]
theorem rnk_more : ∀ (bs as : List Nat), (∀ m ∈ as, m < 8) → (∀ m ∈ bs, m < 8) → rnkN (alN (as ++ bs)) ≤ rnkN (alN as) + bs.length
  | [], as, _, _ => by simp
  | b :: r, as, ha, hb => by
    obtain ⟨S, hS⟩ := al_reach as ha
    have h1 := rnk_unit hS (hb b (.head _))
    have h2 := rnk_more r (as ++ [b]) (fun m hm => (List.mem_append.mp hm).elim (ha m) fun h => hb m (by simp at h; simp [h])) (fun m hm => hb m (.tail _ hm))
    rw [List.append_assoc, List.singleton_append, alN_snoc] at h2
    rw [List.length_cons]
    omega
theorem rnk_close : ∀ (bs as : List Nat) (m : Nat), (∀ x ∈ as, x < 8) → (∀ x ∈ bs, x < 8) → m < 8 → rnkN (alN (as ++ [m])) = rnkN (alN as) → rnkN (alN (as ++ m :: bs)) = rnkN (alN (as ++ bs))
  | [], as, m, _, _, _, h => by simpa using h
  | b :: r, as, m, ha, hb, hm, h => by
    obtain ⟨S, hS⟩ := al_reach as ha
    have hb8 := hb b (.head _)
    have hc := List.all_eq_true.mp (List.all_eq_true.mp close_ok _ hS) m (List.mem_range.mpr hm)
    unfold closeOk at hc
    rw [alN_snoc] at h
    have h' : (rnkN (stpN (alN as) m) == rnkN (alN as)) = true := beq_iff_eq.mpr h
    rw [h'] at hc
    have hc2 := beq_iff_eq.mp (List.all_eq_true.mp (by simpa using hc : (List.range 8).all (fun b => rnkN (stpN (stpN (alN as) b) m) == rnkN (stpN (alN as) b)) = true) b (List.mem_range.mpr hb8))
    have ih := rnk_close r (as ++ [b]) m (fun x hx => (List.mem_append.mp hx).elim (ha x) fun h => hb x (by simp at h; simp [h])) (fun x hx => hb x (.tail _ hx)) hm (by rw [alN_snoc, alN_snoc]; exact hc2)
    have e1 : alN (as ++ m :: b :: r) = alN ((as ++ [b]) ++ m :: r) := by
      rw [al_append, al_append (as ++ [b]), alN_snoc, List.foldl_cons, List.foldl_cons, List.foldl_cons, stpN_comm]
    have e2 : (as ++ [b]) ++ r = as ++ b :: r := by simp
    rw [e1, ih, e2]
/-- one step of the law's way from the row's end -/
noncomputable def dropF (ns : List Int) (most : Int) (left : List Int) (place : Int) : List Int :=
  if mostF ((left.filter fun k => decide (k ≠ place)).map fun k => ns.getD k.toNat 0) = most then left.filter (fun k => decide (k ≠ place)) else left
noncomputable def keepK (ns : List Int) (p : Nat) : List Nat := (List.range 5).filter fun j => decide (p ≤ j) && growN ns j
theorem keepK_step (ns : List Int) {p : Nat} (hp : p < 5) : keepK ns p = if growN ns p then p :: keepK ns (p + 1) else keepK ns (p + 1) := by
  unfold keepK
  match p, hp with
  | 0, _ => by_cases h : growN ns 0 <;> simp [List.range_succ, List.filter_cons, h]
  | 1, _ => by_cases h : growN ns 1 <;> simp [List.range_succ, List.filter_cons, h]
  | 2, _ => by_cases h : growN ns 2 <;> simp [List.range_succ, List.filter_cons, h]
  | 3, _ => by_cases h : growN ns 3 <;> simp [List.range_succ, List.filter_cons, h]
  | 4, _ => by_cases h : growN ns 4 <;> simp [List.range_succ, List.filter_cons, h]
noncomputable def leftAt (ns : List Int) (p : Nat) : List Int := (List.range p ++ keepK ns p).map Int.ofNat
theorem keepK_mem {ns : List Int} {p j : Nat} (h : j ∈ keepK ns p) : p ≤ j ∧ j < 5 := by
  unfold keepK at h
  obtain ⟨h1, h2⟩ := List.mem_filter.mp h
  simp at h1 h2
  omega
theorem left_others {ns : List Int} {p : Nat} : (leftAt ns (p + 1)).filter (fun k => decide (k ≠ (p : Int))) = (List.range p ++ keepK ns (p + 1)).map Int.ofNat := by
  unfold leftAt
  rw [List.filter_map]
  congr 1
  rw [List.range_succ, List.append_assoc, List.filter_append, List.filter_append]
  have e1 : (List.range p).filter ((fun k : Int => decide (k ≠ (p : Int))) ∘ Int.ofNat) = List.range p := List.filter_eq_self.mpr fun j hj => by
    have := List.mem_range.mp hj
    simp; omega
  have e2 : [p].filter ((fun k : Int => decide (k ≠ (p : Int))) ∘ Int.ofNat) = [] := by simp
  have e3 : (keepK ns (p + 1)).filter ((fun k : Int => decide (k ≠ (p : Int))) ∘ Int.ofNat) = keepK ns (p + 1) := List.filter_eq_self.mpr fun j hj => by
    have := keepK_mem hj
    simp; omega
  rw [e1, e2, e3, List.nil_append]
noncomputable def msN (ns : List Int) (l : List Nat) : List Nat := l.map fun k => (ns.getD k 0).toNat
theorem ms_take {ns : List Int} {p : Nat} (hp : p ≤ ns.length) : msN ns (List.range p) = (ns.take p).map Int.toNat := by
  induction p with
  | zero => rfl
  | succ p ih => rw [take_snoc (by omega), ← ih (by omega), msN, List.range_succ, List.map_append]; rfl
theorem ms_lt {ns : List Int} (h : Small ns) (l : List Nat) (hl : ∀ k ∈ l, k < ns.length) : ∀ m ∈ msN ns l, m < 8 := fun m hm => by
  obtain ⟨k, hk, rfl⟩ := List.mem_map.mp hm
  exact (small_at h (hl k hk)).1
theorem most_at {ns : List Int} (h : Small ns) (l : List Nat) (hl : ∀ k ∈ l, k < ns.length) : mostF ((l.map Int.ofNat).map fun k => ns.getD k.toNat 0) = (rnkN (alN (msN ns l)) : Int) := by
  have e : (l.map Int.ofNat).map (fun k => ns.getD k.toNat 0) = l.map fun k => ns.getD k 0 := by rw [List.map_map]; rfl
  rw [e, most_eq (fun k hk => by
    obtain ⟨j, hj, rfl⟩ := List.mem_map.mp hk
    have := hl j hj
    exact h _ (by simp [List.getD, this])), List.map_map]
  rfl
theorem left_step {ns : List Int} (h : Small ns) (hl : ns.length = 5) {p : Nat} (hp : p < 5) {R : Nat} (h1 : rnkN (alN (msN ns (List.range (p + 1) ++ keepK ns (p + 1)))) = R) (h2 : rkN ns (p + 1) + (keepK ns (p + 1)).length = R) :
    dropF ns (R : Int) (leftAt ns (p + 1)) (p : Int) = leftAt ns p ∧ rnkN (alN (msN ns (List.range p ++ keepK ns p))) = R ∧ rkN ns p + (keepK ns p).length = R := by
  have hb : ∀ k ∈ List.range p ++ keepK ns (p + 1), k < ns.length := fun k hk => by
    rcases List.mem_append.mp hk with hk | hk
    · have := List.mem_range.mp hk; omega
    · have := keepK_mem hk; omega
  have hA : ∀ m ∈ msN ns (List.range p), m < 8 := ms_lt h _ fun k hk => hb k (List.mem_append_left _ hk)
  have hB : ∀ m ∈ msN ns (keepK ns (p + 1)), m < 8 := ms_lt h _ fun k hk => hb k (List.mem_append_right _ hk)
  have hm := small_at h (i := p) (by omega)
  have eA : rnkN (alN (msN ns (List.range p))) = rkN ns p := by rw [ms_take (by omega)]; rfl
  have eA1 : rnkN (alN (msN ns (List.range p) ++ [(ns.getD p 0).toNat])) = rkN ns (p + 1) := by rw [ms_take (by omega), ← take_snoc (by omega)]; rfl
  have e1 : msN ns (List.range (p + 1) ++ keepK ns (p + 1)) = msN ns (List.range p) ++ (ns.getD p 0).toNat :: msN ns (keepK ns (p + 1)) := by
    unfold msN; rw [List.range_succ]; simp
  have e0 : msN ns (List.range p ++ keepK ns (p + 1)) = msN ns (List.range p) ++ msN ns (keepK ns (p + 1)) := by unfold msN; simp
  rw [e1] at h1
  obtain ⟨S, hS⟩ := al_reach _ hA
  have hu := rnk_unit hS hm.1
  rw [← alN_snoc, eA1, eA] at hu
  unfold dropF
  rw [left_others, most_at h _ hb, e0, keepK_step ns hp]
  by_cases hg : growN ns p
  · have hne : rkN ns (p + 1) ≠ rkN ns p := by unfold growN at hg; simpa using hg
    have hle := rnk_more (msN ns (keepK ns (p + 1))) (msN ns (List.range p)) hA hB
    rw [eA] at hle
    have hml : (msN ns (keepK ns (p + 1))).length = (keepK ns (p + 1)).length := by simp [msN]
    rw [if_pos hg]
    refine ⟨?_, ?_, ?_⟩
    · rw [if_neg (by omega)]
      unfold leftAt
      rw [keepK_step ns hp, if_pos hg, List.range_succ, List.append_assoc]; rfl
    · have : msN ns (List.range p ++ p :: keepK ns (p + 1)) = msN ns (List.range p) ++ (ns.getD p 0).toNat :: msN ns (keepK ns (p + 1)) := by unfold msN; simp
      rw [this]; exact h1
    · rw [List.length_cons]; omega
  · have heq : rkN ns (p + 1) = rkN ns p := by unfold growN at hg; simpa using hg
    have hc := rnk_close (msN ns (keepK ns (p + 1))) (msN ns (List.range p)) _ hA hB hm.1 (by rw [eA1, eA, heq])
    rw [h1] at hc
    rw [if_neg hg]
    refine ⟨?_, ?_, ?_⟩
    · rw [if_pos (by rw [← hc])]
      unfold leftAt
      rw [keepK_step ns hp, if_neg hg]
    · rw [e0]; exact hc.symm
    · omega
/-- just the kept ones stay if one goes from the row's end and puts each name away without which the others left can have as many wishes -/
theorem left_law {ns : List Int} (h : Small ns) (hl : ns.length = 5) : ([4, 3, 2, 1, 0] : List Int).foldl (dropF ns (mostF ns)) [0, 1, 2, 3, 4] = (keptS ns 5).1 := by
  have hk := (kept_inv h 5 (by omega)).2.1
  have hR : mostF ns = ((rkN ns 5 : Nat) : Int) := by rw [most_eq h]; unfold rkN; rw [List.take_of_length_le (by omega)]
  have k5 : keepK ns 5 = [] := List.filter_eq_nil_iff.mpr fun j hj => by have := List.mem_range.mp hj; simp; omega
  have s5 : rnkN (alN (msN ns (List.range 5 ++ keepK ns 5))) = rkN ns 5 := by rw [k5, List.append_nil, ms_take (by omega)]; rfl
  have t5 : rkN ns 5 + (keepK ns 5).length = rkN ns 5 := by rw [k5]; rfl
  obtain ⟨d4, s4, t4⟩ := left_step h hl (p := 4) (by decide) s5 t5
  obtain ⟨d3, s3, t3⟩ := left_step h hl (p := 3) (by decide) s4 t4
  obtain ⟨d2, s2, t2⟩ := left_step h hl (p := 2) (by decide) s3 t3
  obtain ⟨d1, s1, t1⟩ := left_step h hl (p := 1) (by decide) s2 t2
  obtain ⟨d0, s0, t0⟩ := left_step h hl (p := 0) (by decide) s1 t1
  have l5 : leftAt ns (4 + 1) = [0, 1, 2, 3, 4] := by
    show (List.range 5 ++ keepK ns 5).map Int.ofNat = _
    rw [k5]; rfl
  have l0 : leftAt ns 0 = (keptS ns 5).1 := by
    unfold leftAt keepK; rw [hk]
    congr 1
  rw [l5] at d4
  rw [hR, ← l0]
  simp only [List.foldl_cons, List.foldl_nil]
  have e4 : dropF ns (rkN ns 5 : Int) [0, 1, 2, 3, 4] 4 = leftAt ns (3 + 1) := d4
  have e3 : dropF ns (rkN ns 5 : Int) (leftAt ns (3 + 1)) 3 = leftAt ns (2 + 1) := d3
  have e2 : dropF ns (rkN ns 5 : Int) (leftAt ns (2 + 1)) 2 = leftAt ns (1 + 1) := d2
  have e1 : dropF ns (rkN ns 5 : Int) (leftAt ns (1 + 1)) 1 = leftAt ns (0 + 1) := d1
  have e0 : dropF ns (rkN ns 5 : Int) (leftAt ns (0 + 1)) 0 = leftAt ns 0 := d0
  rw [e4, e3, e2, e1, e0]
end Mine
end

section
-- L0
open PySem PySem.W PyProof.Rows PySem.Calls PySem.Builtin PySem.Builtin.Str
namespace Mine
theorem calm_L0 : True := by
  w_top off
  k_with_none
  trivial
theorem news_split {h₀ h : Heap} {L : Addr} {news : List (Addr × Obj)} (N : News h₀ L h news) {c a : Addr} {o x : Obj} (hc : (c, o) ∈ news) (ha : (a, x) ∈ news) (hd : o.data ≠ x.data) : (@Ne Nat a c) := fun e => by
  have e1 := (N _ hc).1
  have e2 := (N _ ha).1
  have e3 : a = c := e
  subst e3
  dsimp only at e1 e2
  rw [e1] at e2
  exact hd (congrArg Obj.data (Option.some.inj e2))
noncomputable def SeqOnly (l : List (Addr × Obj)) : Prop := ∀ p ∈ l, ∃ xs k, p.2.data = .seq xs k
theorem SeqOnly.off {h₀ h : Heap} {L : Addr} {news l : List (Addr × Obj)} (S : SeqOnly l) (N : News h₀ L h news) (hl : ∀ p ∈ l, p ∈ news) {c : Addr} {o : Obj} (hc : (c, o) ∈ news) (hd : ∀ xs k, o.data ≠ .seq xs k) : ∀ p ∈ l, (@Ne Nat p.1 c) := fun p hp => by
  obtain ⟨xs, k, e⟩ := S p hp
  exact news_split N hc (hl p hp) (by rw [e]; exact hd xs k)
theorem intsAre5 {vs : List Value} {ns : List Int} (h : IntsAre vs ns) (hl : ns.length = 5) : ∃ a0 a1 a2 a3 a4 t0 t1 t2 t3 t4, vs = [.int a0 t0, .int a1 t1, .int a2 t2, .int a3 t3, .int a4 t4] ∧ ns = [a0, a1, a2, a3, a4] := by
  cases h with | nil => simp at hl | cons a0 t0 h =>
  cases h with | nil => simp at hl | cons a1 t1 h =>
  cases h with | nil => simp at hl | cons a2 t2 h =>
  cases h with | nil => simp at hl | cons a3 t3 h =>
  cases h with | nil => simp at hl | cons a4 t4 h =>
  cases h with
  | nil => exact ⟨_, _, _, _, _, _, _, _, _, _, rfl, rfl⟩
  | cons => simp at hl
theorem intsAre3 {vs : List Value} {ns : List Int} (h : IntsAre vs ns) (hl : ns.length = 3) : ∃ a0 a1 a2 t0 t1 t2, vs = [.int a0 t0, .int a1 t1, .int a2 t2] ∧ ns = [a0, a1, a2] := by
  cases h with | nil => simp at hl | cons a0 t0 h =>
  cases h with | nil => simp at hl | cons a1 t1 h =>
  cases h with | nil => simp at hl | cons a2 t2 h =>
  cases h with
  | nil => exact ⟨_, _, _, _, _, _, rfl, rfl⟩
  | cons => simp at hl
theorem draws5 {vs : List Value} {ns : List Int} (h : IntsAre vs (List.take 5 (List.take 8 ns ++ List.drop (((List.take 8 ns).length : Int)).toNat [5, 10, 1, 6, 9, 1, 8, 5]))) : ∃ a0 a1 a2 a3 a4 t0 t1 t2 t3 t4, vs = [.int a0 t0, .int a1 t1, .int a2 t2, .int a3 t3, .int a4 t4] := by
  obtain ⟨a0, a1, a2, a3, a4, t0, t1, t2, t3, t4, e, _⟩ := intsAre5 h (by rw [Int.toNat_natCast]; simp only [List.length_take, List.length_append, List.length_drop, List.length_cons, List.length_nil]; omega)
  exact ⟨_, _, _, _, _, _, _, _, _, _, e⟩
theorem draws3 {vs : List Value} {ns : List Int} (h : IntsAre vs (List.drop 5 (List.take 8 ns ++ List.drop (((List.take 8 ns).length : Int)).toNat [5, 10, 1, 6, 9, 1, 8, 5]))) : ∃ a0 a1 a2 t0 t1 t2, vs = [.int a0 t0, .int a1 t1, .int a2 t2] := by
  obtain ⟨a0, a1, a2, t0, t1, t2, e, _⟩ := intsAre3 h (by rw [Int.toNat_natCast]; simp only [List.length_take, List.length_append, List.length_drop, List.length_cons, List.length_nil]; omega)
  exact ⟨_, _, _, _, _, _, e⟩
noncomputable abbrev tups (Dw q0 q1 q2 Dp p0 p1 p2 p3 p4 : Addr) (b0 b1 b2 a0 a1 a2 a3 a4 : Int) (x0 x1 x2 y0 y1 y2 u0 u1 u2 u3 u4 v0 v1 v2 v3 v4 : Tok) : List (Addr × Obj) :=
  [(Dw, listOf #[.ref q0, .ref q1, .ref q2] 3), (q0, tupW b0 x0 y0), (q1, tupW b1 x1 y1), (q2, tupW b2 x2 y2), (Dp, listOf #[.ref p0, .ref p1, .ref p2, .ref p3, .ref p4] 5), (p0, tupP a0 u0 v0), (p1, tupP a1 u1 v1), (p2, tupP a2 u2 v2), (p3, tupP a3 u3 v3), (p4, tupP a4 u4 v4)]
theorem compact {h₀ h : Heap} {L : Addr} {Dw q0 q1 q2 Dp p0 p1 p2 p3 p4 : Addr} {b0 b1 b2 a0 a1 a2 a3 a4 : Int} {x0 x1 x2 y0 y1 y2 u0 u1 u2 u3 u4 v0 v1 v2 v3 v4 : Tok} {j1 j2 j3 j4 j5 : Addr × Obj} {c1 c2 c3 c4 z : Addr} {o1 o2 o3 o4 : Obj} {k1 k2 k3 k4 : Option Value}
    (N : News h₀ L h ((Dw, listOf #[.ref q0, .ref q1, .ref q2] 3) :: (q0, tupW b0 x0 y0) :: (q1, tupW b1 x1 y1) :: (q2, tupW b2 x2 y2) :: (Dp, listOf #[.ref p0, .ref p1, .ref p2, .ref p3, .ref p4] 5) :: (p0, tupP a0 u0 v0) :: (p1, tupP a1 u1 v1) :: (p2, tupP a2 u2 v2) :: (p3, tupP a3 u3 v3) :: (p4, tupP a4 u4 v4) :: j1 :: j2 :: j3 :: j4 :: j5 :: [(c1, o1), (c2, o2), (c3, o3), (c4, o4), (z, tabObj #[])]))
    (d1 : o1.data = .cell k1) (d2 : o2.data = .cell k2) (d3 : o3.data = .cell k3) (d4 : o4.data = .cell k4) :
    ∃ nT, nT = tups Dw q0 q1 q2 Dp p0 p1 p2 p3 p4 b0 b1 b2 a0 a1 a2 a3 a4 x0 x1 x2 y0 y1 y2 u0 u1 u2 u3 u4 v0 v1 v2 v3 v4 ∧ News h₀ L h ((c1, o1) :: (c2, o2) :: (c3, o3) :: (c4, o4) :: (z, tabObj #[]) :: nT) ∧ OwnOff nT [c1, c2, c3, c4, z] := by
  refine ⟨_, rfl, fun p hp => N p ?_, ?_⟩
  · rcases List.mem_cons.mp hp with rfl | hp
    · simp
    rcases List.mem_cons.mp hp with rfl | hp
    · simp
    rcases List.mem_cons.mp hp with rfl | hp
    · simp
    rcases List.mem_cons.mp hp with rfl | hp
    · simp
    rcases List.mem_cons.mp hp with rfl | hp
    · simp
    · exact List.mem_append.mpr (.inl hp : p ∈ tups Dw q0 q1 q2 Dp p0 p1 p2 p3 p4 b0 b1 b2 a0 a1 a2 a3 a4 x0 x1 x2 y0 y1 y2 u0 u1 u2 u3 u4 v0 v1 v2 v3 v4 ∨ p ∈ j1 :: j2 :: j3 :: j4 :: j5 :: [(c1, o1), (c2, o2), (c3, o3), (c4, o4), (z, tabObj #[])])
  · have S : SeqOnly (tups Dw q0 q1 q2 Dp p0 p1 p2 p3 p4 b0 b1 b2 a0 a1 a2 a3 a4 x0 x1 x2 y0 y1 y2 u0 u1 u2 u3 u4 v0 v1 v2 v3 v4) := fun p hp => by
      simp only [tups, List.mem_cons, List.not_mem_nil, or_false] at hp
      rcases hp with rfl | rfl | rfl | rfl | rfl | rfl | rfl | rfl | rfl | rfl <;> exact ⟨_, _, rfl⟩
    have hs : ∀ p ∈ tups Dw q0 q1 q2 Dp p0 p1 p2 p3 p4 b0 b1 b2 a0 a1 a2 a3 a4 x0 x1 x2 y0 y1 y2 u0 u1 u2 u3 u4 v0 v1 v2 v3 v4, p ∈ _ := fun p hp => (List.mem_append.mpr (.inl hp : p ∈ tups Dw q0 q1 q2 Dp p0 p1 p2 p3 p4 b0 b1 b2 a0 a1 a2 a3 a4 x0 x1 x2 y0 y1 y2 u0 u1 u2 u3 u4 v0 v1 v2 v3 v4 ∨ p ∈ j1 :: j2 :: j3 :: j4 :: j5 :: [(c1, o1), (c2, o2), (c3, o3), (c4, o4), (z, tabObj #[])]))
    intro p hp b hb
    simp only [List.mem_cons, List.not_mem_nil, or_false] at hb
    rcases hb with rfl | rfl | rfl | rfl | rfl
    · exact S.off N hs (o := o1) (by simp) (by rw [d1]; intro _ _ e; cases e) p hp
    · exact S.off N hs (o := o2) (by simp) (by rw [d2]; intro _ _ e; cases e) p hp
    · exact S.off N hs (o := o3) (by simp) (by rw [d3]; intro _ _ e; cases e) p hp
    · exact S.off N hs (o := o4) (by simp) (by rw [d4]; intro _ _ e; cases e) p hp
    · exact S.off N hs (o := tabObj #[]) (by simp) (by intro _ _ e; cases e) p hp
theorem news_tail {h₀ h : Heap} {L : Addr} {x : Addr × Obj} {r : List (Addr × Obj)} (N : News h₀ L h (x :: r)) : ∃ nC, nC = r ∧ News h₀ L h (x :: nC) := ⟨r, rfl, N⟩
theorem news_swap {h₀ h : Heap} {L : Addr} {x y : Addr × Obj} {r : List (Addr × Obj)} (N : News h₀ L h (x :: y :: r)) : News h₀ L h (y :: x :: r) := fun p hp => N p (by
  simp only [List.mem_cons] at hp ⊢
  rcases hp with h | h | h
  · exact .inr (.inl h)
  · exact .inl h
  · exact .inr (.inr h))
theorem memDp {Dw q0 q1 q2 Dp p0 p1 p2 p3 p4 : Addr} {b0 b1 b2 a0 a1 a2 a3 a4 : Int} {x0 x1 x2 y0 y1 y2 u0 u1 u2 u3 u4 v0 v1 v2 v3 v4 : Tok} {nT : List (Addr × Obj)} (hnT : nT = tups Dw q0 q1 q2 Dp p0 p1 p2 p3 p4 b0 b1 b2 a0 a1 a2 a3 a4 x0 x1 x2 y0 y1 y2 u0 u1 u2 u3 u4 v0 v1 v2 v3 v4) : (Dp, listOf #[.ref p0, .ref p1, .ref p2, .ref p3, .ref p4] 5) ∈ nT := by
  subst hnT; exact .tail _ (.tail _ (.tail _ (.tail _ (.head _))))
theorem pickP {Dw q0 q1 q2 Dp p0 p1 p2 p3 p4 : Addr} {b0 b1 b2 a0 a1 a2 a3 a4 : Int} {x0 x1 x2 y0 y1 y2 u0 u1 u2 u3 u4 v0 v1 v2 v3 v4 : Tok} {nT : List (Addr × Obj)} {i : Nat} {v : Value} (hnT : nT = tups Dw q0 q1 q2 Dp p0 p1 p2 p3 p4 b0 b1 b2 a0 a1 a2 a3 a4 x0 x1 x2 y0 y1 y2 u0 u1 u2 u3 u4 v0 v1 v2 v3 v4)
    (h : [Value.ref p0, .ref p1, .ref p2, .ref p3, .ref p4][i]? = some v) : ∃ p aa uu vv, v = .ref p ∧ (p, tupP aa uu vv) ∈ nT ∧ ([a0, a1, a2, a3, a4].map nmF)[i]? = some (nmF aa) := by
  subst hnT
  match i, h with
  | 0, h => exact ⟨_, _, _, _, (Option.some.inj h).symm, .tail _ (.tail _ (.tail _ (.tail _ (.tail _ (.head _))))), rfl⟩
  | 1, h => exact ⟨_, _, _, _, (Option.some.inj h).symm, .tail _ (.tail _ (.tail _ (.tail _ (.tail _ (.tail _ (.head _)))))), rfl⟩
  | 2, h => exact ⟨_, _, _, _, (Option.some.inj h).symm, .tail _ (.tail _ (.tail _ (.tail _ (.tail _ (.tail _ (.tail _ (.head _))))))), rfl⟩
  | 3, h => exact ⟨_, _, _, _, (Option.some.inj h).symm, .tail _ (.tail _ (.tail _ (.tail _ (.tail _ (.tail _ (.tail _ (.tail _ (.head _)))))))), rfl⟩
  | 4, h => exact ⟨_, _, _, _, (Option.some.inj h).symm, .tail _ (.tail _ (.tail _ (.tail _ (.tail _ (.tail _ (.tail _ (.tail _ (.tail _ (.head _))))))))), rfl⟩
  | n + 5, h => simp at h
theorem news_rot {h₀ h : Heap} {L : Addr} {x a b c d z : Addr × Obj} {r : List (Addr × Obj)} (N : News h₀ L h (x :: a :: b :: c :: d :: z :: r)) : News h₀ L h (z :: x :: a :: b :: c :: d :: r) := fun p hp => N p (by
  simp only [List.mem_cons] at hp ⊢
  rcases hp with h | h | h | h | h | h | h
  · exact .inr (.inr (.inr (.inr (.inr (.inl h)))))
  · exact .inl h
  · exact .inr (.inl h)
  · exact .inr (.inr (.inl h))
  · exact .inr (.inr (.inr (.inl h)))
  · exact .inr (.inr (.inr (.inr (.inl h))))
  · exact .inr (.inr (.inr (.inr (.inr (.inr h))))))
theorem memPs {Dw q0 q1 q2 Dp p0 p1 p2 p3 p4 : Addr} {b0 b1 b2 a0 a1 a2 a3 a4 : Int} {x0 x1 x2 y0 y1 y2 u0 u1 u2 u3 u4 v0 v1 v2 v3 v4 : Tok} {nT : List (Addr × Obj)} (hnT : nT = tups Dw q0 q1 q2 Dp p0 p1 p2 p3 p4 b0 b1 b2 a0 a1 a2 a3 a4 x0 x1 x2 y0 y1 y2 u0 u1 u2 u3 u4 v0 v1 v2 v3 v4) {q : Addr × Obj} (hq : q ∈ [(p0, tupP a0 u0 v0), (p1, tupP a1 u1 v1), (p2, tupP a2 u2 v2), (p3, tupP a3 u3 v3), (p4, tupP a4 u4 v4)]) : q ∈ nT := by
  subst hnT; exact .tail _ (.tail _ (.tail _ (.tail _ (.tail _ hq))))
theorem dueNm {as : List Int} : ∀ q ∈ dueF (as.map fun a => (lgF a, ecF a)), q.2 ∈ names16 ∧ stripF q.2 = q.1 := fun q hq => by
  unfold dueF at hq
  obtain ⟨p, hp, rfl⟩ := List.mem_map.mp (List.mem_reverse.mp hq)
  obtain ⟨a, _, rfl⟩ := List.mem_map.mp hp
  exact ⟨nmF_mem a, nmF_bare a⟩
theorem dueSz {as : List Int} : ∀ q ∈ as.map (fun a => (lgF a, ecF a)), (∀ x, q.1 = some x → x.length < 100) ∧ (∀ x, q.2 = some x → x.length < 100) := fun q hq => by
  obtain ⟨a, _, rfl⟩ := List.mem_map.mp hq
  exact ⟨lgF_len a, ecF_len a⟩
theorem dueEq {a0 a1 a2 a3 a4 : Int} : dueOut ((dueF ([a0, a1, a2, a3, a4].map fun a => (lgF a, ecF a))).map fun q => q.2) = rowF ([a0, a1, a2, a3, a4].map nmF) := due_row (nmF a4) (nmF a3) (nmF a2) (nmF a1) (nmF a0)
theorem nmAll {as : List Int} : ∀ x ∈ as.map nmF, x ∈ names16 := fun x hx => by
  obtain ⟨a, _, rfl⟩ := List.mem_map.mp hx
  exact nmF_mem a
theorem ne_of {c D : Addr} {o : Obj} {l : List (Addr × Obj)} (h : ∀ p ∈ l, p.1 ≠ D) (hm : (c, o) ∈ l) : (@Ne Nat c D) := h _ hm
theorem ownOff2 {l : List (Addr × Obj)} {a b : Addr} (h1 : ∀ p ∈ l, p.1 ≠ a) (h2 : ∀ p ∈ l, p.1 ≠ b) : OwnOff l [a, b] := fun p hp x hx => by
  rcases List.mem_cons.mp hx with rfl | hx
  · exact h1 p hp
  · rw [List.mem_singleton.mp hx]; exact h2 p hp
theorem news_c {h₀ h : Heap} {L : Addr} {t : Addr × Obj} {pl m du dr c4 c3 c2 c1 : Addr} {ol om ou or o4 o3 o2 o1 : Obj} {nT : List (Addr × Obj)} (N : News h₀ L h (t :: (pl, ol) :: (m, om) :: (du, ou) :: (dr, or) :: (c4, o4) :: (c3, o3) :: (c2, o2) :: (c1, o1) :: nT))
    (h1 : ∀ p ∈ nT, p.1 ≠ c3) (h2 : ∀ p ∈ nT, p.1 ≠ m) (a1 : (@Ne Nat pl c3)) (a2 : (@Ne Nat du c3)) (a3 : (@Ne Nat dr c3)) (a4 : (@Ne Nat c4 c3)) (a5 : (@Ne Nat c2 c3)) (a6 : (@Ne Nat c1 c3)) (b1 : (@Ne Nat pl m)) (b2 : (@Ne Nat du m)) (b3 : (@Ne Nat dr m)) (b4 : (@Ne Nat c4 m)) (b5 : (@Ne Nat c2 m)) (b6 : (@Ne Nat c1 m)) :
    ∃ nC, nC = (pl, ol) :: (du, ou) :: (dr, or) :: (c4, o4) :: (c2, o2) :: (c1, o1) :: nT ∧ News h₀ L h ((c3, o3) :: (m, om) :: nC) ∧ OwnOff nC [c3, m] ∧ (c1, o1) ∈ nC ∧ (dr, or) ∈ nC ∧ (∀ p ∈ nT, p ∈ nC) := ⟨_, rfl, fun p hp => N p (by
  simp only [List.mem_cons] at hp ⊢
  rcases hp with h | h | h | h | h | h | h | h | h
  · exact .inr (.inr (.inr (.inr (.inr (.inr (.inl h))))))
  · exact .inr (.inr (.inl h))
  · exact .inr (.inl h)
  · exact .inr (.inr (.inr (.inl h)))
  · exact .inr (.inr (.inr (.inr (.inl h))))
  · exact .inr (.inr (.inr (.inr (.inr (.inl h)))))
  · exact .inr (.inr (.inr (.inr (.inr (.inr (.inr (.inl h)))))))
  · exact .inr (.inr (.inr (.inr (.inr (.inr (.inr (.inr (.inl h))))))))
  · exact .inr (.inr (.inr (.inr (.inr (.inr (.inr (.inr (.inr h))))))))), ownOff2 (offC a1 (offC a2 (offC a3 (offC a4 (offC a5 (offC a6 h1)))))) (offC b1 (offC b2 (offC b3 (offC b4 (offC b5 (offC b6 h2)))))), .tail _ (.tail _ (.tail _ (.tail _ (.tail _ (.head _))))), .tail _ (.tail _ (.head _)), fun p hp => .tail _ (.tail _ (.tail _ (.tail _ (.tail _ (.tail _ hp)))))⟩
theorem small3 {k : Nat} (h : k < 3) : ((k : Nat) : Int) < 2 ^ 63 := by omega
theorem tup_first {prog : Program} {w : World} {A : Around} {E : Value → Shared → Prop} {s : Shared} {h₀ : Heap} {L : Addr} {news : List (Addr × Obj)} {value slice : Expr} {q : Addr} {a b : Value} {n : Nat} {u : Tok} {Q : Value → Shared → Prop} (N : News h₀ L s.heap news) (hm : (q, ({ cls := .type "tuple", data := .seq #[a, b] n } : Obj)) ∈ news) (h : Q a s)
    (hs : subscripted slice false (.ref q) (.int 0 u) = operate [.ref q, .int 0 u] (getItem (.ref q) (.int 0 u)) := by with_unfolding_all rfl) :
    wpAny (model prog w) A (subscriptTail value slice (.ref q) (.int 0 u)) Q E s :=
  item_tupleT (l := [a, b]) (N.isTup hm) (by decide) (by decide) rfl rfl h hs
theorem tup_second {prog : Program} {w : World} {A : Around} {E : Value → Shared → Prop} {s : Shared} {h₀ : Heap} {L : Addr} {news : List (Addr × Obj)} {value slice : Expr} {q : Addr} {a b : Value} {n : Nat} {u : Tok} {Q : Value → Shared → Prop} (N : News h₀ L s.heap news) (hm : (q, ({ cls := .type "tuple", data := .seq #[a, b] n } : Obj)) ∈ news) (h : Q b s)
    (hs : subscripted slice false (.ref q) (.int 1 u) = operate [.ref q, .int 1 u] (getItem (.ref q) (.int 1 u)) := by with_unfolding_all rfl) :
    wpAny (model prog w) A (subscriptTail value slice (.ref q) (.int 1 u)) Q E s :=
  item_tupleT (l := [a, b]) (N.isTup hm) (by decide) (by decide) rfl rfl h hs
theorem memDw {Dw q0 q1 q2 Dp p0 p1 p2 p3 p4 : Addr} {b0 b1 b2 a0 a1 a2 a3 a4 : Int} {x0 x1 x2 y0 y1 y2 u0 u1 u2 u3 u4 v0 v1 v2 v3 v4 : Tok} {nT : List (Addr × Obj)} (hnT : nT = tups Dw q0 q1 q2 Dp p0 p1 p2 p3 p4 b0 b1 b2 a0 a1 a2 a3 a4 x0 x1 x2 y0 y1 y2 u0 u1 u2 u3 u4 v0 v1 v2 v3 v4) : (Dw, listOf [Value.ref q0, .ref q1, .ref q2].toArray 3) ∈ nT := by
  subst hnT; exact .head _
theorem pickW {Dw q0 q1 q2 Dp p0 p1 p2 p3 p4 : Addr} {b0 b1 b2 a0 a1 a2 a3 a4 : Int} {x0 x1 x2 y0 y1 y2 u0 u1 u2 u3 u4 v0 v1 v2 v3 v4 : Tok} {nT : List (Addr × Obj)} {i : Nat} (hnT : nT = tups Dw q0 q1 q2 Dp p0 p1 p2 p3 p4 b0 b1 b2 a0 a1 a2 a3 a4 x0 x1 x2 y0 y1 y2 u0 u1 u2 u3 u4 v0 v1 v2 v3 v4)
    (h : i < 3) : ∃ q bb xx yy, [Value.ref q0, .ref q1, .ref q2][i]? = some (.ref q) ∧ (q, tupW bb xx yy) ∈ nT ∧ [b0, b1, b2].getD i 0 = bb := by
  subst hnT
  match i, h with
  | 0, _ => exact ⟨_, _, _, _, rfl, .tail _ (.head _), rfl⟩
  | 1, _ => exact ⟨_, _, _, _, rfl, .tail _ (.tail _ (.head _)), rfl⟩
  | 2, _ => exact ⟨_, _, _, _, rfl, .tail _ (.tail _ (.tail _ (.head _))), rfl⟩
noncomputable def frontsF : List Str := [Str.ofString "", Str.ofString "a", Str.ofString "b", Str.ofString "C"]
noncomputable def backsF : List Str := [Str.ofString "", Str.ofString "a", Str.ofString "b", Str.ofString ".a"]
theorem getD_mem4 (l : List Str) (d : Str) {n : Nat} (h : n < l.length) : l.getD n d ∈ l := by simp [List.getD, h]
theorem wF_mem (b : Int) : wF b ∈ frontsF := getD_mem4 frontsF _ (toNat4 b)
theorem wB_mem (b : Int) : wB b ∈ backsF := getD_mem4 backsF _ (toNat4 (b.fdiv 4))
theorem fronts_len : ∀ f ∈ frontsF, f.length < 100 := by decide +kernel
theorem backs_len : ∀ f ∈ backsF, f.length < 100 := by decide +kernel
theorem wF_len (b : Int) : (wF b).length < 100 := fronts_len _ (wF_mem b)
theorem wB_len (b : Int) : (wB b).length < 100 := backs_len _ (wB_mem b)
theorem dots_ok : ∀ f ∈ frontsF, ∀ b ∈ backsF, (occurrences (f ++ Str.ofString "..." ++ b) (Str.ofString "...") 0 (f ++ Str.ofString "..." ++ b).length 1).isEmpty = false ∧ Txt.split (f ++ Str.ofString "..." ++ b) (Str.ofString "...") = [f, b] ∧ (f ++ Str.ofString "..." ++ b).length < 100 := by decide +kernel
theorem find_ok0 : ∀ y ∈ names16, y.length ≤ 5 ∧ ∀ i j : Fin 6, i.val ≤ j.val → j.val ≤ y.length → find4 y (Str.ofString "") (i.val : Int) (j.val : Int) = (i.val : Int) := by decide +kernel
theorem find_ok {y : Str} (hy : y ∈ names16) (i j : Int) (h0 : 0 ≤ i) (hij : i ≤ j) (hj : j ≤ (y.length : Int)) : find4 y (Str.ofString "") i j = i := by
  obtain ⟨hl, h⟩ := find_ok0 y hy
  obtain ⟨a, rfl⟩ := Int.eq_ofNat_of_zero_le h0
  obtain ⟨b, rfl⟩ := Int.eq_ofNat_of_zero_le (Int.le_trans h0 hij)
  exact h ⟨a, by omega⟩ ⟨b, by omega⟩ (by dsimp only; omega) (by dsimp only; omega)
theorem ell_fits0 : ∀ f ∈ frontsF, ∀ b ∈ backsF, ∀ y ∈ names16, ellF f b y = fitsF y f b := by decide +kernel
/-- a name's mask by _ellipsis_match, as the loop over the wishes builds it -/
noncomputable def mskE (bs : List Int) (y : Str) : Nat → Int
  | 0 => 0
  | j + 1 => if ellF (wF (bs.getD j 0)) (wB (bs.getD j 0)) y then bitOr (mskE bs y j) (1 * 2 ^ j) else mskE bs y j
noncomputable def progB : List Stmt := PySem.Challenge.rw_re0072_01.row.prog.main.body
noncomputable def lawD : Stmt := (progB.getLast?).getD (.Pass default)
noncomputable def lawB : List Stmt := match lawD with | .FunctionDef _ _ b .. => b | _ => []
noncomputable def lawS : Scope := match lawD with | .FunctionDef _ _ _ _ _ _ s .. => s | _ => default
noncomputable def forB : Stmt → List Stmt
  | .For _ _ b _ _ => b
  | _ => []
noncomputable def lawSt (i : Nat) : Stmt := lawB.getD i (.Pass default)
noncomputable def inSt (i j : Nat) : Stmt := (forB (lawSt i)).getD j (.Pass default)
noncomputable abbrev lawE (sc : Scope) (L fa : Addr) (cd : Value) : Env := envOfC (Str.ofString "law") sc L fa cd
/-- a statement of the law, told: what its frame and its ledger are behind it -/
noncomputable def LStep (w : World) (loose : List Str) (mean : ExcName → Option Value) (mg mb : Str → Option Value) (sc : Scope) (st : Stmt) (h₀ : Heap) (L : Addr) (m : Str → Option Value) (news : List (Addr × Obj)) (Post : (Str → Option Value) → List (Addr × Obj) → Prop) : Prop :=
  ∀ (fa : Addr) (cd : Value) (s : Shared) (Q : Flow → Shared → Prop), Below callerA h₀ [] h₀ → (Mine.hd.heap_39 w.params).In h₀ → Top topProg loose mean mg mb h₀ → Fr h₀ L s.heap m → News h₀ L s.heap news →
    (∀ m' news' h' tk', Fr h₀ L h' m' → News h₀ L h' news' → Post m' news' → Q .next { s with heap := h', toks := tk' }) →
    wpAny (model PySem.Challenge.rw_re0072_01.row.prog w) (callerA.deeper (lawE sc L fa cd)) (exec st (lawE sc L fa cd)) Q (fun _ _ => False) s
theorem LStep.use {w : World} {loose : List Str} {mean : ExcName → Option Value} {mg mb : Str → Option Value} {sc : Scope} {st : Stmt} {h₀ : Heap} {L : Addr} {m : Str → Option Value} {news : List (Addr × Obj)} {Post : (Str → Option Value) → List (Addr × Obj) → Prop}
    (C : LStep w loose mean mg mb sc st h₀ L m news Post) {fa : Addr} {cd : Value} {s : Shared} {Q : Flow → Shared → Prop} {E : Value → Shared → Prop} (B : Below callerA h₀ [] h₀) (X : (Mine.hd.heap_39 w.params).In h₀) (T : Top topProg loose mean mg mb h₀) (F : Fr h₀ L s.heap m) (N : News h₀ L s.heap news)
    (hret : ∀ m' news' h' tk', Fr h₀ L h' m' → News h₀ L h' news' → Post m' news' → Q .next { s with heap := h', toks := tk' }) :
    wpAny (model PySem.Challenge.rw_re0072_01.row.prog w) (callerA.deeper (lawE sc L fa cd)) (exec st (lawE sc L fa cd)) Q E s := wpAny_mono (C fa cd s Q B X T F N hret) (fun _ _ q => q) fun _ _ e => e.elim
theorem frAs1 {m : Str → Option Value} {x : Str} {v : Value} {st : List Str} : FrAs m (kstB m [(x, v)]) [(x, v)] st := ⟨all1 (by simp [kstB]), fun z h _ => by
  have hz : z ≠ x := h _ (.head _)
  simp [kstB, hz]⟩
theorem pick3 {q0 q1 q2 : Addr} {b0 b1 b2 : Int} {x0 x1 x2 y0 y1 y2 : Tok} {nx : List (Addr × Obj)} (mq0 : (q0, tupW b0 x0 y0) ∈ nx) (mq1 : (q1, tupW b1 x1 y1) ∈ nx) (mq2 : (q2, tupW b2 x2 y2) ∈ nx) {i : Nat} (h : i < 3) :
    ∃ q bb xx yy, [Value.ref q0, .ref q1, .ref q2][i]? = some (.ref q) ∧ (q, tupW bb xx yy) ∈ nx ∧ [b0, b1, b2].getD i 0 = bb := by
  match i, h with
  | 0, _ => exact ⟨_, _, _, _, rfl, mq0, rfl⟩
  | 1, _ => exact ⟨_, _, _, _, rfl, mq1, rfl⟩
  | 2, _ => exact ⟨_, _, _, _, rfl, mq2, rfl⟩
theorem mskE_small (bs : List Int) (y : Str) : ∀ {k : Nat}, k ≤ 3 → 0 ≤ mskE bs y k ∧ mskE bs y k < 8
  | 0, _ => ⟨Int.le_refl 0, (by decide : (0 : Int) < 8)⟩
  | k + 1, h => by
    have ih := mskE_small bs y (Nat.le_of_succ_le h)
    unfold mskE
    split
    · exact bitOr_small ih.1 ih.2 h
    · exact ih
theorem mskE_yes {bs : List Int} {y : Str} {k : Nat} (h : ellF (wF (bs.getD k 0)) (wB (bs.getD k 0)) y = true) : mskE bs y (k + 1) = bitOr (mskE bs y k) (1 * 2 ^ k) := by
  show (if ellF (wF (bs.getD k 0)) (wB (bs.getD k 0)) y then _ else _) = _
  rw [if_pos h]
theorem mskE_no {bs : List Int} {y : Str} {k : Nat} (h : ellF (wF (bs.getD k 0)) (wB (bs.getD k 0)) y = false) : mskE bs y (k + 1) = mskE bs y k := by
  show (if ellF (wF (bs.getD k 0)) (wB (bs.getD k 0)) y then _ else _) = _
  rw [if_neg (by rw [h]; decide)]
/-- the wishes that a name can have, by _law_fits, as bits -/
noncomputable def pllF (bs : List Int) (y : Str) (k : Nat) : List Int := ((List.range k).filter fun j => fitsF y (wF (bs.getD j 0)) (wB (bs.getD j 0))).map fun j => (1 * 2 ^ j : Int)
theorem pllF_yes {bs : List Int} {y : Str} {k : Nat} (h : fitsF y (wF (bs.getD k 0)) (wB (bs.getD k 0)) = true) : pllF bs y (k + 1) = pllF bs y k ++ [1 * 2 ^ k] := by
  unfold pllF
  rw [List.range_succ, List.filter_append, List.filter_cons_of_pos (p := fun j => fitsF y (wF (bs.getD j 0)) (wB (bs.getD j 0))) h, List.filter_nil, List.map_append]; rfl
theorem pllF_no {bs : List Int} {y : Str} {k : Nat} (h : fitsF y (wF (bs.getD k 0)) (wB (bs.getD k 0)) = false) : pllF bs y (k + 1) = pllF bs y k := by
  unfold pllF
  rw [List.range_succ, List.filter_append, List.filter_cons_of_neg (p := fun j => fitsF y (wF (bs.getD j 0)) (wB (bs.getD j 0))) (by rw [h]; decide), List.filter_nil, List.append_nil]
theorem dropF_mem {ps : List Int} {M : Int} {l : List Int} {p k : Int} (h : k ∈ dropF ps M l p) : k ∈ l := by
  unfold dropF at h
  split at h
  · exact (List.mem_filter.mp h).1
  · exact h
theorem dropF_len {ps : List Int} {M : Int} {l : List Int} {p : Int} : (dropF ps M l p).length ≤ l.length := by
  unfold dropF
  split
  · exact List.length_filter_le _ _
  · exact Nat.le_refl _
theorem foldl_drop {ps : List Int} {M : Int} : ∀ (qs l : List Int), (qs.foldl (dropF ps M) l).length ≤ l.length ∧ ∀ k ∈ qs.foldl (dropF ps M) l, k ∈ l
  | [], l => ⟨Nat.le_refl _, fun _ h => h⟩
  | q :: r, l => by
    obtain ⟨h1, h2⟩ := foldl_drop (ps := ps) (M := M) r (dropF ps M l q)
    exact ⟨Nat.le_trans h1 dropF_len, fun k hk => dropF_mem (h2 k hk)⟩
theorem in5 {k : Int} (h : k ∈ ([0, 1, 2, 3, 4] : List Int)) : 0 ≤ k ∧ k < 5 := by
  simp only [List.mem_cons, List.not_mem_nil, or_false] at h
  omega
theorem dropF_yes {ps : List Int} {M : Int} {l : List Int} {p : Int} (h : mostF ((l.filter fun k => decide (k ≠ p)).map fun k => ps.getD k.toNat 0) = M) : dropF ps M l p = l.filter fun k => decide (k ≠ p) := if_pos h
theorem dropF_no {ps : List Int} {M : Int} {l : List Int} {p : Int} (h : ¬ mostF ((l.filter fun k => decide (k ≠ p)).map fun k => ps.getD k.toNat 0) = M) : dropF ps M l p = l := if_neg h
theorem filt_yes {l : List Int} {j : Nat} {k p : Int} (h : l[j]? = some k) (hk : k ≠ p) : (l.take (j + 1)).filter (fun k => decide (k ≠ p)) = (l.take j).filter (fun k => decide (k ≠ p)) ++ [k] := by
  rw [List.take_add_one, h, List.filter_append, Option.toList, List.filter_cons_of_pos (by simpa using hk), List.filter_nil]
theorem filt_no {l : List Int} {j : Nat} {k p : Int} (h : l[j]? = some k) (hk : k = p) : (l.take (j + 1)).filter (fun k => decide (k ≠ p)) = (l.take j).filter (fun k => decide (k ≠ p)) := by
  rw [List.take_add_one, h, List.filter_append, Option.toList, List.filter_cons_of_neg (by simpa using hk), List.filter_nil, List.append_nil]
theorem mapt {l : List Int} {j : Nat} {k : Int} {f : Int → Int} (h : l[j]? = some k) : (l.take (j + 1)).map f = (l.take j).map f ++ [f k] := by
  rw [List.take_add_one, h, List.map_append]; rfl
theorem getD_small {ps : List Int} (h : Small ps) (n : Nat) : 0 ≤ ps.getD n 0 ∧ ps.getD n 0 < 8 := by
  cases e : ps[n]? with
  | none => simp [List.getD, e]
  | some v =>
    have hv := h v (List.mem_of_getElem? e)
    simpa [List.getD, e] using hv
theorem at_ints {vs : List Value} {ns : List Int} (h : IntsAre vs ns) {k : Nat} (hk : k < ns.length) : ∃ p t, vs[k]? = some (.int p t) ∧ ns.getD k 0 = p := by
  have hv : vs[k]? = some _ := List.getElem?_eq_getElem (by rw [h.length]; exact hk)
  obtain ⟨p, t, e, hp⟩ := intsAre_at h hv
  exact ⟨p, t, by rw [hv, e], by simp [List.getD, hp]⟩
theorem sub_a {d2 d i x l dl : Addr × Obj} {nC : List (Addr × Obj)} : ∀ p ∈ x :: l :: d :: nC, p ∈ d2 :: d :: i :: x :: l :: dl :: nC := fun p hp => by
  simp only [List.mem_cons] at hp ⊢
  rcases hp with h | h | h | h <;> simp [h]
theorem sub_b {d2 d i x l dl : Addr × Obj} {nC : List (Addr × Obj)} : ∀ p ∈ x :: l :: dl :: nC, p ∈ d2 :: d :: i :: x :: l :: dl :: nC := fun p hp => .tail _ (.tail _ (.tail _ hp))
theorem kept_up {ns : List Int} (h : Small ns) (hl : ns.length = 5) : ((keptS ns 5).1).length ≤ 5 ∧ ∀ (i j : Nat) (y z : Int), i ≤ j → (keptS ns 5).1[i]? = some y → (keptS ns 5).1[j]? = some z → y ≤ z := by
  obtain ⟨_, e, _⟩ := kept_inv h 5 (by omega)
  rw [e]
  have P : (((List.range 5).filter (growN ns)).map Int.ofNat).Pairwise (fun a b => a < b) := by
    rw [List.pairwise_map]
    exact (List.pairwise_lt_range.filter _).imp fun h => Int.ofNat_lt.mpr h
  refine ⟨?_, fun i j y z hij hy hz => ?_⟩
  · rw [List.length_map]
    exact Nat.le_trans (List.length_filter_le _ _) (by simp)
  · rcases Nat.lt_or_eq_of_le hij with h1 | rfl
    · obtain ⟨h3, rfl⟩ := List.getElem?_eq_some_iff.mp hy
      obtain ⟨h4, rfl⟩ := List.getElem?_eq_some_iff.mp hz
      exact Int.le_of_lt (List.pairwise_iff_getElem.mp P i j h3 h4 h1)
    · rw [hy] at hz
      exact Int.le_of_eq (Option.some.inj hz)
theorem msk_plain {bs : List Int} {y : Str} (hy : y ∈ names16) : mskE bs y 3 = (pllF bs y 3).sum := by
  have hj : ∀ b, ellF (wF b) (wB b) y = fitsF y (wF b) (wB b) := fun b => ell_fits0 _ (wF_mem b) _ (wB_mem b) _ hy
  simp only [mskE, hj, pllF, show List.range 3 = [0, 1, 2] from rfl, List.filter_cons, List.filter_nil]
  generalize fitsF y (wF (bs.getD 0 0)) (wB (bs.getD 0 0)) = c0
  generalize fitsF y (wF (bs.getD 1 0)) (wB (bs.getD 1 0)) = c1
  generalize fitsF y (wF (bs.getD 2 0)) (wB (bs.getD 2 0)) = c2
  revert c0 c1 c2
  decide +kernel
theorem fr_forget {h₀ h : Heap} {L : Addr} {m : Str → Option Value} (ps : List (Str × Value)) (F : Fr h₀ L h m) (hp : ∀ p ∈ ps, m p.1 = some p.2) : ∃ mB, Fr h₀ L h (kstB mB ps) := ⟨m, by
  have e : kstB m ps = m := funext fun z => kstB_eq hp fun _ => rfl
  rw [e]
  exact F⟩
theorem FrAs.get {m₀ m : Str → Option Value} {ps : List (Str × Value)} {st : List Str} {z : Str} (h : FrAs m₀ m ps st) (h1 : ∀ p ∈ ps, z ≠ p.1) (h2 : st.contains z = false) : m z = m₀ z := h.2 z h1 h2
end Mine
end

section
-- LM
open PySem PySem.W PyProof.Rows PySem.Calls PySem.Builtin PySem.Builtin.Str
namespace Mine
theorem calm_LM : True := by
  w_top off
  k_with_none
  trivial
local macro_rules | `(tactic| kmk_nums) => `(tactic| first
  | ((with_reducible refine' kmk_from ?gi ?gx); (case gi => l_ints); (case gx => first | with_reducible assumption | decide | l_idx))
  | ((with_reducible refine' kmk_upto ?gi ?gx); (case gi => l_ints); (case gx => first | with_reducible assumption | decide | l_idx)))
theorem calm_L1 : True := by
  w_top off
  trivial
theorem ell_loop (w : World) (loose : List Str) (mean : ExcName → Option Value) (mg mb : Str → Option Value) (h₀ : Heap) (L : Addr) (mB : Str → Option Value) (nx : List (Addr × Obj)) (Dw q0 q1 q2 : Addr) (b0 b1 b2 : Int) (x0 x1 x2 y0 y1 y2 t ty : Tok) (oW oN : Obj) (y : Str)
    (mW : (L + 1, oW) ∈ nx) (dW : oW.data = .cell (some (.ref Dw))) (mN : (L + 1 + 1 + 1, oN) ∈ nx) (dN : oN.data = .cell (some (.str y ty))) (mD : (Dw, listOf [Value.ref q0, .ref q1, .ref q2].toArray 3) ∈ nx)
    (mq0 : (q0, tupW b0 x0 y0) ∈ nx) (mq1 : (q1, tupW b1 x1 y1) ∈ nx) (mq2 : (q2, tupW b2 x2 y2) ∈ nx) (hy : y ∈ names16) :
    LStep w loose mean mg mb lawS (inSt 8 1) h₀ L (kstB mB [(Str.ofString "mask", .int 0 t)]) nx (fun m' news' => news' = nx ∧ ∃ tm, FrAs mB m' [(Str.ofString "mask", .int (mskE [b0, b1, b2] y 3) tm)] [Str.ofString "k"]) := by
  k_with_none
  k_with "exec For" => ((with_reducible refine stopW ?_))
  k_with "exec For Name Name cons nil" => ((with_reducible refine stopW ?_))
  k_with "exec For Name Call cons nil" => ((with_reducible refine stopW ?_))
  k_with "exec For Name List cons nil" => ((with_reducible refine stopW ?_))
  k_with "own mem" => (first | (with_reducible assumption) | (with_reducible refine List.mem_cons_of_mem _ ?_; walk_at "own mem"))
  k_with "call ref" => ((with_reducible refine stopW ?_))
  k_with "compareOp Eq ref ref" => ((with_reducible refine stopW ?_))
  k_with "compareOp NotEq ref ref" => ((k_here; k_dflt (refine' ne_strs ?w9k1 ?w9k2 ?w9k3 ?w9k4 ?w9k5 ?w9k6 ?w9k7 ?_; (case w9k1 => k_asm); (case w9k2 => k_memK); (case w9k4 => k_memK); (case w9k3 => assumption); (case w9k5 => assumption); (case w9k6 => assumption); (case w9k7 => ktr_units); k_whole)))
  k_with "subscriptTail" => ((k_here; (with_reducible show wpAny _ _ (subscriptTail _ _ (Value.ref _) (Value.int _ _)) _ _ _); k_dflt (refine' item_mem ?w9k1 ?w9k2 ?w9k3 ?w9k4 ?w9k5 ?_ ?w9k6; (case w9k5 => with_reducible assumption); (case w9k1 => k_asm); (case w9k2 => (walk_at "own mem")); (case w9k3 => exact Int.natCast_nonneg _); (case w9k4 => exact small3 (by with_reducible assumption)); (case w9k6 => with_unfolding_all rfl); k_whole)))
  k_with "subscriptTail" => ((k_here; (with_reducible show wpAny _ _ (subscriptTail _ _ (Value.ref _) (Value.int _ _)) _ _ _); k_dflt (refine' item_mem ?w9k1 ?w9k2 ?w9k3 ?w9k4 ?w9k5 ?_ ?w9k6; (case w9k5 => with_reducible assumption); (case w9k1 => k_asm); (case w9k2 => (walk_at "own mem")); (case w9k3 => with_reducible assumption); (case w9k4 => with_reducible assumption); (case w9k6 => with_unfolding_all rfl); k_whole)))
  k_with "subscriptTail" => ((k_here; (with_reducible show wpAny _ _ (subscriptTail _ _ (Value.ref _) (Value.int 0 _)) _ _ _); k_dflt (refine' tup_first ?w9k1 ?w9k2 ?_ ?w9k6; (case w9k1 => k_asm); (case w9k2 => (walk_at "own mem")); (case w9k6 => with_unfolding_all rfl); k_whole)))
  k_with "subscriptTail" => ((k_here; (with_reducible show wpAny _ _ (subscriptTail _ _ (Value.ref _) (Value.int 1 _)) _ _ _); k_dflt (refine' tup_second ?w9k1 ?w9k2 ?_ ?w9k6; (case w9k1 => k_asm); (case w9k2 => (walk_at "own mem")); (case w9k6 => with_unfolding_all rfl); k_whole)))
  k_with "eval Name" => ((k_here; (with_reducible show wpAny _ _ (PySem.eval (Expr.Name _ _) (envOfC _ _ _ _ _)) _ _ _); k_dflt (refine' nameX_C ?w9kN ?w9kc ?w9km ?w9kd ?_ ?w9ka ?w9kb; (case w9ka => rfl); (case w9kb => rfl); (case w9kN => k_asm); (case w9kc => exact rfl); (case w9km => (walk_at "own mem")); (case w9kd => with_reducible assumption); k_whole)))
  k_with "eval Name" => ((k_here; (with_reducible show wpAny _ _ (PySem.eval (Expr.Name _ _) (compEnvC _ _ _ _)) _ _ _); k_dflt (first | (refine' lcf_cell ?w9kN ?w9kc ?w9km ?w9kd ?_ ?w9ka ?w9kb; (case w9ka => rfl); (case w9kb => rfl); (case w9kN => k_asm); (case w9kc => exact rfl); (case w9km => (walk_at "own mem")); (case w9kd => with_reducible assumption); k_whole) | (refine' lcf_free ?w9kN ?w9kc ?w9km ?w9kd ?_ ?w9ka ?w9kb; (case w9ka => rfl); (case w9kb => rfl); (case w9kN => k_asm); (case w9kc => exact rfl); (case w9km => (walk_at "own mem")); (case w9kd => with_reducible assumption); k_whole))))
  k_with "eval ListComp" => ((k_here; (with_reducible show wpAny _ _ (PySem.eval (Expr.ListComp _ [Comprehension.mk _ _ [] _] _ _) _) _ _ _); k_dflt (refine comp_U (F₀ := by k_asm) (by with_unfolding_all rfl) (by decide) (by rfl) (by decide) (by rfl) ?_)))
  k_with "eval ListComp" => ((k_here; (with_reducible show wpAny _ _ (PySem.eval (Expr.ListComp _ [Comprehension.mk _ _ [_] _] _ _) _) _ _ _); k_dflt (refine comp_T (F₀ := by k_asm) (by with_unfolding_all rfl) (by decide) (by rfl) (by decide) (by rfl) ?_)))
  k_with "exec Assign cons ListComp" => ((k_here; k_dflt (refine compA_T (F₀ := by k_asm) (by rfl) (by with_unfolding_all rfl) (by with_unfolding_all rfl) (by decide) (by rfl) (by decide) (by rfl) (by rfl) (by rfl) ?_)))
  conv in inSt 8 1 => whnf
  conv in lawS => whnf
  unfold LStep lawE
  k_fill
  intro fa cd s Q B X T F N hret
  have kMk := kstMark
  (with_unfolding_all refine' For_invTF F ?_ ?hs)
  case hs => intro _; rfl
  k_steps
  (rename IsRange _ _ _ _ _ _ _ _ => hR); (rename Fr _ _ _ _ => F7); (rename News _ _ _ _ => N7)
  with_unfolding_all refine' iterT_range (n := 3) (fun k m nx' => ∃ (tm : Tok), nx' = nx ∧ FrAs mB m [(Str.ofString "mask", Value.int (mskE [b0, b1, b2] y k) tm)] [Str.ofString "k"]) ?hL rfl hR (by decide) (by rfl) F7 N7 ⟨_, rfl, frAs1⟩ ?_ ?_
  case hL => rfl
  · intro I3 oI3 k3 t3 m₃ nx' s₃ hk3 hlt3 hoff3 hPz1 F₅ N₅
    obtain ⟨tm, hnx, hF3⟩ := hPz1
    subst hnx
    have F₆ := hF3.fr F₅
    clear F₅ F7 N7 hR hlt3
    obtain ⟨q, bb, xx, yy, hq, hqm, hbb⟩ := pick3 mq0 mq1 mq2 hk3
    have hq' : [Value.ref q0, .ref q1, .ref q2][((k3 : Nat) : Int).toNat]? = some (.ref q) := by rw [Int.toNat_natCast]; exact hq
    have hwf := wF_len bb
    have hwb := wB_len bb
    k_steps
    unfold StopW
    (rename Fr _ _ _ _ => F8); (rename News _ _ _ _ => N8)
    have hdo := dots_ok _ (wF_mem bb) _ (wB_mem bb)
    have hms := mskE_small [b0, b1, b2] y (Nat.le_of_lt hk3)
    have hmk : 0 ≤ bitOr (mskE [b0, b1, b2] y k3) (1 * 2 ^ k3) ∧ bitOr (mskE [b0, b1, b2] y k3) (1 * 2 ^ k3) < 8 := bitOr_small hms.1 hms.2 hk3
    k_dflt (refine' Tell.use (ell_call _ _ _ _ _ _ _ y (wF bb) (wB bb) _ _ hdo.2.2 (isName_len hy) hwf hwb hdo.1 hdo.2.1 (find_ok hy)) ?aB F8 ?aX N8 ?aT ?ak ?ad ?au ?_; (case aB => k_asm); (case aX => k_asm); (case aT => k_asm); (case ak => first | exact rfl | assumption); (case ad => ktr_room); (case au => ktr_units); k_whole)
    intro r9 nw9 h9 tk9 F9 N9 hPz2
    obtain ⟨e9, e9'⟩ := hPz2
    subst e9'; subst e9
    dsimp only
    clear F8 N8 hdo
    k_steps
    all_goals (rename Fr _ _ _ _ => F9)
    all_goals (rename News _ _ _ _ => N9)
    · have e3 : ((k3 : Nat) : Int).toNat = k3 := Int.toNat_natCast k3
      rw [e3] at F9
      rename ellF _ _ _ = true => hel
      rw [← hbb] at hel
      rw [← mskE_yes hel] at F9
      exact TurnEnd.intro nx' F9 N9 (.head _) (fun p hp => .tail _ hp) hoff3 ⟨_, rfl, all1 rfl, (by
        intro z h2 h3
        simp only [List.forall_mem_cons, List.not_mem_nil, false_implies, implies_true, and_true, ne_eq] at h2
        simp only [List.contains_cons, List.contains_nil, Bool.or_false, beq_eq_false_iff_ne, Bool.or_eq_false_iff, ne_eq] at h3
        simp [h2, h3, kstB])⟩
    · rename ellF _ _ _ = false => hel
      rw [← hbb] at hel
      exact TurnEnd.intro nx' F9 N9 (.head _) (fun p hp => .tail _ hp) hoff3 ⟨tm, rfl, all1 (by rw [mskE_no hel]; simp [kstB, (by decide +kernel : ¬ Str.ofString "mask" = Str.ofString "k")]), (by
        intro z h2 h3
        simp only [List.forall_mem_cons, List.not_mem_nil, false_implies, implies_true, and_true, ne_eq] at h2
        simp only [List.contains_cons, List.contains_nil, Bool.or_false, beq_eq_false_iff_ne, Bool.or_eq_false_iff, ne_eq] at h3
        simp [h2, h3, kstB])⟩
  · intro m₃ nx' h3 tk3 hPz3 F₅ N₅
    obtain ⟨tm, hnx, hF3⟩ := hPz3
    subst hnx
    exact hret _ _ _ _ F₅ N₅ ⟨rfl, _, hF3⟩

theorem calm_L2 : True := by
  w_top off
  trivial
theorem masks_loop (w : World) (loose : List Str) (mean : ExcName → Option Value) (mg mb : Str → Option Value) (h₀ : Heap) (L : Addr) (mB : Str → Option Value) (nC : List (Addr × Obj)) (Dr Dm Dw q0 q1 q2 : Addr) (b0 b1 b2 : Int) (x0 x1 x2 y0 y1 y2 : Tok) (oW oN : Obj) (vN : Option Value) (vr : List Value) (nr n0 : Nat) (ns : List Str)
    (dN : oN.data = .cell vN) (hOC : OwnOff nC [L + 1 + 1 + 1, Dm]) (hlm : @LT.lt Nat _ (L + 1 + 1 + 1) Dm) (mR : (Dr, listOf vr.toArray nr) ∈ nC) (hvr : StrsAre vr ns) (hns : ∀ y ∈ ns, y ∈ names16) (hlen : ns.length = 5)
    (mW : (L + 1, oW) ∈ nC) (dW : oW.data = .cell (some (.ref Dw))) (mD : (Dw, listOf [Value.ref q0, .ref q1, .ref q2].toArray 3) ∈ nC)
    (mq0 : (q0, tupW b0 x0 y0) ∈ nC) (mq1 : (q1, tupW b1 x1 y1) ∈ nC) (mq2 : (q2, tupW b2 x2 y2) ∈ nC) :
    LStep w loose mean mg mb lawS (lawSt 8) h₀ L (kstB mB [(Str.ofString "row", .ref Dr), (Str.ofString "masks", .ref Dm)]) ((L + 1 + 1 + 1, oN) :: (Dm, listOf #[] n0) :: nC)
      (fun m' news' => ∃ (oN : Obj) (vN : Option Value) (vm : List Value) (nm : Nat), news' = (L + 1 + 1 + 1, oN) :: (Dm, listOf vm.toArray nm) :: nC ∧ oN.data = .cell vN ∧ IntsAre vm (ns.map fun y => mskE [b0, b1, b2] y 3) ∧ FrAs (kstB mB [(Str.ofString "row", .ref Dr), (Str.ofString "masks", .ref Dm)]) m' [] [Str.ofString "mask", Str.ofString "k"]) := by
  k_with_none
  k_with "exec For" => ((with_reducible refine stopW ?_))
  k_with "exec For Name Name cons nil" => ((with_reducible refine stopW ?_))
  k_with "exec For Name Call cons nil" => ((with_reducible refine stopW ?_))
  k_with "exec For Name List cons nil" => ((with_reducible refine stopW ?_))
  k_with "own mem" => (first | (with_reducible assumption) | (with_reducible refine List.mem_cons_of_mem _ ?_; walk_at "own mem"))
  k_with "call ref" => ((with_reducible refine stopW ?_))
  k_with "compareOp Eq ref ref" => ((with_reducible refine stopW ?_))
  k_with "compareOp NotEq ref ref" => ((k_here; k_dflt (refine' ne_strs ?w9k1 ?w9k2 ?w9k3 ?w9k4 ?w9k5 ?w9k6 ?w9k7 ?_; (case w9k1 => k_asm); (case w9k2 => k_memK); (case w9k4 => k_memK); (case w9k3 => assumption); (case w9k5 => assumption); (case w9k6 => assumption); (case w9k7 => ktr_units); k_whole)))
  k_with "subscriptTail" => ((k_here; (with_reducible show wpAny _ _ (subscriptTail _ _ (Value.ref _) (Value.int _ _)) _ _ _); k_dflt (refine' item_mem ?w9k1 ?w9k2 ?w9k3 ?w9k4 ?w9k5 ?_ ?w9k6; (case w9k5 => with_reducible assumption); (case w9k1 => k_asm); (case w9k2 => (walk_at "own mem")); (case w9k3 => exact Int.natCast_nonneg _); (case w9k4 => exact small3 (by with_reducible assumption)); (case w9k6 => with_unfolding_all rfl); k_whole)))
  k_with "subscriptTail" => ((k_here; (with_reducible show wpAny _ _ (subscriptTail _ _ (Value.ref _) (Value.int _ _)) _ _ _); k_dflt (refine' item_mem ?w9k1 ?w9k2 ?w9k3 ?w9k4 ?w9k5 ?_ ?w9k6; (case w9k5 => with_reducible assumption); (case w9k1 => k_asm); (case w9k2 => (walk_at "own mem")); (case w9k3 => with_reducible assumption); (case w9k4 => with_reducible assumption); (case w9k6 => with_unfolding_all rfl); k_whole)))
  k_with "subscriptTail" => ((k_here; (with_reducible show wpAny _ _ (subscriptTail _ _ (Value.ref _) (Value.int 0 _)) _ _ _); k_dflt (refine' tup_first ?w9k1 ?w9k2 ?_ ?w9k6; (case w9k1 => k_asm); (case w9k2 => (walk_at "own mem")); (case w9k6 => with_unfolding_all rfl); k_whole)))
  k_with "subscriptTail" => ((k_here; (with_reducible show wpAny _ _ (subscriptTail _ _ (Value.ref _) (Value.int 1 _)) _ _ _); k_dflt (refine' tup_second ?w9k1 ?w9k2 ?_ ?w9k6; (case w9k1 => k_asm); (case w9k2 => (walk_at "own mem")); (case w9k6 => with_unfolding_all rfl); k_whole)))
  k_with "eval Name" => ((k_here; (with_reducible show wpAny _ _ (PySem.eval (Expr.Name _ _) (envOfC _ _ _ _ _)) _ _ _); k_dflt (refine' nameX_C ?w9kN ?w9kc ?w9km ?w9kd ?_ ?w9ka ?w9kb; (case w9ka => rfl); (case w9kb => rfl); (case w9kN => k_asm); (case w9kc => exact rfl); (case w9km => (walk_at "own mem")); (case w9kd => with_reducible assumption); k_whole)))
  k_with "eval Name" => ((k_here; (with_reducible show wpAny _ _ (PySem.eval (Expr.Name _ _) (compEnvC _ _ _ _)) _ _ _); k_dflt (first | (refine' lcf_cell ?w9kN ?w9kc ?w9km ?w9kd ?_ ?w9ka ?w9kb; (case w9ka => rfl); (case w9kb => rfl); (case w9kN => k_asm); (case w9kc => exact rfl); (case w9km => (walk_at "own mem")); (case w9kd => with_reducible assumption); k_whole) | (refine' lcf_free ?w9kN ?w9kc ?w9km ?w9kd ?_ ?w9ka ?w9kb; (case w9ka => rfl); (case w9kb => rfl); (case w9kN => k_asm); (case w9kc => exact rfl); (case w9km => (walk_at "own mem")); (case w9kd => with_reducible assumption); k_whole))))
  k_with "eval ListComp" => ((k_here; (with_reducible show wpAny _ _ (PySem.eval (Expr.ListComp _ [Comprehension.mk _ _ [] _] _ _) _) _ _ _); k_dflt (refine comp_U (F₀ := by k_asm) (by with_unfolding_all rfl) (by decide) (by rfl) (by decide) (by rfl) ?_)))
  k_with "eval ListComp" => ((k_here; (with_reducible show wpAny _ _ (PySem.eval (Expr.ListComp _ [Comprehension.mk _ _ [_] _] _ _) _) _ _ _); k_dflt (refine comp_T (F₀ := by k_asm) (by with_unfolding_all rfl) (by decide) (by rfl) (by decide) (by rfl) ?_)))
  k_with "exec Assign cons ListComp" => ((k_here; k_dflt (refine compA_T (F₀ := by k_asm) (by rfl) (by with_unfolding_all rfl) (by with_unfolding_all rfl) (by decide) (by rfl) (by decide) (by rfl) (by rfl) (by rfl) ?_)))
  conv in lawSt 8 => whnf
  conv in lawS => whnf
  unfold LStep lawE
  k_fill
  intro fa cd s Q B X T F N hret
  have kMk := kstMark
  (with_unfolding_all refine' For_invTF F ?_ ?hs)
  case hs => intro _; rfl
  k_steps
  with_unfolding_all refine' iterT_list (vs := vr) (fun i m nx => ∃ (oN : Obj) (vN : Option Value) (vm : List Value) (nm : Nat), nx = (L + 1 + 1 + 1, oN) :: (Dm, listOf vm.toArray nm) :: nC ∧ oN.data = .cell vN ∧ IntsAre vm ((ns.take i).map fun y => mskE [b0, b1, b2] y 3) ∧ FrAs _ m [] [Str.ofString "mask", Str.ofString "k"]) ?hL rfl ?hl F N ⟨_, _, [], _, rfl, dN, .nil, FrAs.refl (fun _ h => nomatch h)⟩ ?hJl ?_ ?_
  case hL => rfl
  case hl => exact .tail _ (.tail _ mR)
  case hJl => (intro _ _ _ hJ; obtain ⟨oN, vN, vm, nm, hnx, _⟩ := hJ; rw [hnx]; exact .tail _ (.tail _ mR))
  · intro I oI i v m₁ nx s₁ hi hlt hoff hPz4 F₁ N₁
    obtain ⟨oN, vN, vm, nm, hnx, hoN, hvm, hF⟩ := hPz4
    subst hnx
    have F₂ := hF.fr F₁
    clear F₁ F hlt
    obtain ⟨y, ty, rfl, hy⟩ := strsAre_at hvr hi
    have hy16 : y ∈ names16 := hns y (List.mem_of_getElem? hy)
    have gI := ne_of hoff (.head _)
    have gM := ne_of hoff (.tail _ (.head _))
    have gC : ∀ q ∈ nC, q.1 ≠ I := fun q hq => hoff q (.tail _ (.tail _ hq))
    k_steps
    unfold StopW
    (rename Fr _ _ _ _ => F3); (rename News _ _ _ _ => N4)
    k_dflt (refine' LStep.use (ell_loop w _ _ _ _ _ L _ _ Dw q0 q1 q2 b0 b1 b2 x0 x1 x2 y0 y1 y2 _ ty oW _ y (.tail _ (.tail _ (.tail _ mW))) dW (.tail _ (.head _)) (by with_reducible assumption) (.tail _ (.tail _ (.tail _ mD))) (.tail _ (.tail _ (.tail _ mq0))) (.tail _ (.tail _ (.tail _ mq1))) (.tail _ (.tail _ (.tail _ mq2))) hy16) ?aB ?aX ?aT F3 N4 ?_; (case aB => k_asm); (case aX => k_asm); (case aT => k_asm); k_whole)
    intro m' news' h' tk' F5 N5 hPz5
    obtain ⟨e5, tm, hF5⟩ := hPz5
    subst e5
    have F6 := hF5.fr F5
    clear F3 N4 F5
    k_steps
    (rename Fr _ _ _ _ => F9); (rename News _ _ _ _ => N9)
    simp only [List.push_toArray] at N9
    exact TurnEnd.intro ((L + 1 + 1 + 1, _) :: (Dm, _) :: nC) F9 N9 (.head _) (fun p hp => .tail _ hp) (offC gI (offC gM gC)) ⟨_, _, _, _, rfl, (by with_reducible assumption), (by simp only [List.take_add_one, hy, Option.toList, List.map_append, List.map_cons, List.map_nil]; exact intsAre_snoc hvm), (fun _ h => nomatch h), (by
        intro z h2 h3
        simp only [List.contains_cons, List.contains_nil, Bool.or_false, beq_eq_false_iff_ne, Bool.or_eq_false_iff, ne_eq] at h3
        simp [h3, kstB])⟩
  · intro m₁ nx' h3 tk3 hPz6 F₅ N₅
    obtain ⟨oN, vN, vm, nm, hnx, hoN, hvm, hF⟩ := hPz6
    subst hnx
    exact hret _ _ _ _ F₅ N₅ ⟨oN, vN, vm, nm, rfl, hoN, by rw [hvr.length, List.take_length] at hvm; exact hvm, hF⟩

theorem calm_L3 : True := by
  w_top off
  trivial
theorem plain_loop (w : World) (loose : List Str) (mean : ExcName → Option Value) (mg mb : Str → Option Value) (h₀ : Heap) (L : Addr) (mB : Str → Option Value) (nC : List (Addr × Obj)) (Du Dp Dw q0 q1 q2 : Addr) (b0 b1 b2 : Int) (x0 x1 x2 y0 y1 y2 : Tok) (oW oN oP : Obj) (vN : Option Value) (vu : List Value) (nu n0 : Nat) (ns : List Str)
    (dN : oN.data = .cell vN) (hOC : OwnOff nC [L + 1 + 1 + 1, Dp]) (hlm : @LT.lt Nat _ (L + 1 + 1 + 1) Dp) (mU : (Du, listOf vu.toArray nu) ∈ nC) (hvu : StrsAre vu ns) (hns : ∀ y ∈ ns, y ∈ names16) (hlen : ns.length = 5)
    (mP : (L + 1 + 1, oP) ∈ nC) (dP : oP.data = .cell (some (.ref Dp)))
    (mW : (L + 1, oW) ∈ nC) (dW : oW.data = .cell (some (.ref Dw))) (mD : (Dw, listOf [Value.ref q0, .ref q1, .ref q2].toArray 3) ∈ nC)
    (mq0 : (q0, tupW b0 x0 y0) ∈ nC) (mq1 : (q1, tupW b1 x1 y1) ∈ nC) (mq2 : (q2, tupW b2 x2 y2) ∈ nC) :
    LStep w loose mean mg mb lawS (lawSt 9) h₀ L (kstB mB [(Str.ofString "due", .ref Du)]) ((L + 1 + 1 + 1, oN) :: (Dp, listOf #[] n0) :: nC)
      (fun m' news' => ∃ (oN : Obj) (vN : Option Value) (vp : List Value) (np : Nat), news' = (L + 1 + 1 + 1, oN) :: (Dp, listOf vp.toArray np) :: nC ∧ oN.data = .cell vN ∧ IntsAre vp (ns.map fun y => (pllF [b0, b1, b2] y 3).sum) ∧ FrAs (kstB mB [(Str.ofString "due", .ref Du)]) m' [] []) := by
  k_with_none
  k_with "exec For" => ((with_reducible refine stopW ?_))
  k_with "exec For Name Name cons nil" => ((with_reducible refine stopW ?_))
  k_with "exec For Name Call cons nil" => ((with_reducible refine stopW ?_))
  k_with "exec For Name List cons nil" => ((with_reducible refine stopW ?_))
  k_with "own mem" => (first | (with_reducible assumption) | (with_reducible refine List.mem_cons_of_mem _ ?_; walk_at "own mem"))
  k_with "call ref" => ((with_reducible refine stopW ?_))
  k_with "compareOp Eq ref ref" => ((with_reducible refine stopW ?_))
  k_with "compareOp NotEq ref ref" => ((k_here; k_dflt (refine' ne_strs ?w9k1 ?w9k2 ?w9k3 ?w9k4 ?w9k5 ?w9k6 ?w9k7 ?_; (case w9k1 => k_asm); (case w9k2 => k_memK); (case w9k4 => k_memK); (case w9k3 => assumption); (case w9k5 => assumption); (case w9k6 => assumption); (case w9k7 => ktr_units); k_whole)))
  k_with "subscriptTail" => ((k_here; (with_reducible show wpAny _ _ (subscriptTail _ _ (Value.ref _) (Value.int _ _)) _ _ _); k_dflt (refine' item_mem ?w9k1 ?w9k2 ?w9k3 ?w9k4 ?w9k5 ?_ ?w9k6; (case w9k5 => with_reducible assumption); (case w9k1 => k_asm); (case w9k2 => (walk_at "own mem")); (case w9k3 => exact Int.natCast_nonneg _); (case w9k4 => exact small3 (by with_reducible assumption)); (case w9k6 => with_unfolding_all rfl); k_whole)))
  k_with "subscriptTail" => ((k_here; (with_reducible show wpAny _ _ (subscriptTail _ _ (Value.ref _) (Value.int _ _)) _ _ _); k_dflt (refine' item_mem ?w9k1 ?w9k2 ?w9k3 ?w9k4 ?w9k5 ?_ ?w9k6; (case w9k5 => with_reducible assumption); (case w9k1 => k_asm); (case w9k2 => (walk_at "own mem")); (case w9k3 => with_reducible assumption); (case w9k4 => with_reducible assumption); (case w9k6 => with_unfolding_all rfl); k_whole)))
  k_with "subscriptTail" => ((k_here; (with_reducible show wpAny _ _ (subscriptTail _ _ (Value.ref _) (Value.int 0 _)) _ _ _); k_dflt (refine' tup_first ?w9k1 ?w9k2 ?_ ?w9k6; (case w9k1 => k_asm); (case w9k2 => (walk_at "own mem")); (case w9k6 => with_unfolding_all rfl); k_whole)))
  k_with "subscriptTail" => ((k_here; (with_reducible show wpAny _ _ (subscriptTail _ _ (Value.ref _) (Value.int 1 _)) _ _ _); k_dflt (refine' tup_second ?w9k1 ?w9k2 ?_ ?w9k6; (case w9k1 => k_asm); (case w9k2 => (walk_at "own mem")); (case w9k6 => with_unfolding_all rfl); k_whole)))
  k_with "eval Name" => ((k_here; (with_reducible show wpAny _ _ (PySem.eval (Expr.Name _ _) (envOfC _ _ _ _ _)) _ _ _); k_dflt (refine' nameX_C ?w9kN ?w9kc ?w9km ?w9kd ?_ ?w9ka ?w9kb; (case w9ka => rfl); (case w9kb => rfl); (case w9kN => k_asm); (case w9kc => exact rfl); (case w9km => (walk_at "own mem")); (case w9kd => with_reducible assumption); k_whole)))
  k_with "eval Name" => ((k_here; (with_reducible show wpAny _ _ (PySem.eval (Expr.Name _ _) (compEnvC _ _ _ _)) _ _ _); k_dflt (first | (refine' lcf_cell ?w9kN ?w9kc ?w9km ?w9kd ?_ ?w9ka ?w9kb; (case w9ka => rfl); (case w9kb => rfl); (case w9kN => k_asm); (case w9kc => exact rfl); (case w9km => (walk_at "own mem")); (case w9kd => with_reducible assumption); k_whole) | (refine' lcf_free ?w9kN ?w9kc ?w9km ?w9kd ?_ ?w9ka ?w9kb; (case w9ka => rfl); (case w9kb => rfl); (case w9kN => k_asm); (case w9kc => exact rfl); (case w9km => (walk_at "own mem")); (case w9kd => with_reducible assumption); k_whole))))
  k_with "eval ListComp" => ((k_here; (with_reducible show wpAny _ _ (PySem.eval (Expr.ListComp _ [Comprehension.mk _ _ [] _] _ _) _) _ _ _); k_dflt (refine comp_U (F₀ := by k_asm) (by with_unfolding_all rfl) (by decide) (by rfl) (by decide) (by rfl) ?_)))
  k_with "eval ListComp" => ((k_here; (with_reducible show wpAny _ _ (PySem.eval (Expr.ListComp _ [Comprehension.mk _ _ [_] _] _ _) _) _ _ _); k_dflt (refine comp_T (F₀ := by k_asm) (by with_unfolding_all rfl) (by decide) (by rfl) (by decide) (by rfl) ?_)))
  k_with "exec Assign cons ListComp" => ((k_here; k_dflt (refine compA_T (F₀ := by k_asm) (by rfl) (by with_unfolding_all rfl) (by with_unfolding_all rfl) (by decide) (by rfl) (by decide) (by rfl) (by rfl) (by rfl) ?_)))
  conv in lawSt 9 => whnf
  conv in lawS => whnf
  unfold LStep lawE
  k_fill
  intro fa cd s Q B X T F N hret
  have kMk := kstMark
  (with_unfolding_all refine' For_invTF F ?_ ?hs)
  case hs => intro _; rfl
  k_steps
  with_unfolding_all refine' iterT_list (vs := vu) (fun i m nx => ∃ (oN : Obj) (vN : Option Value) (vp : List Value) (np : Nat), nx = (L + 1 + 1 + 1, oN) :: (Dp, listOf vp.toArray np) :: nC ∧ oN.data = .cell vN ∧ IntsAre vp ((ns.take i).map fun y => (pllF [b0, b1, b2] y 3).sum) ∧ FrAs _ m [] []) ?hL rfl ?hl F N ⟨_, _, [], _, rfl, dN, .nil, FrAs.refl (fun _ h => nomatch h)⟩ ?hJl ?_ ?_
  case hL => rfl
  case hl => exact .tail _ (.tail _ mU)
  case hJl => (intro _ _ _ hJ; obtain ⟨oN, vN, vm, nm, hnx, _⟩ := hJ; rw [hnx]; exact .tail _ (.tail _ mU))
  · intro I oI i v m₁ nx s₁ hi hlt hoff hPz7 F₁ N₁
    obtain ⟨oN, vN, vp, np, hnx, hoN, hvp, hF⟩ := hPz7
    subst hnx
    have F₂ := hF.fr F₁
    clear F₁ F hlt
    obtain ⟨y, ty, rfl, hy⟩ := strsAre_at hvu hi
    have hy16 : y ∈ names16 := hns y (List.mem_of_getElem? hy)
    have gI := ne_of hoff (.head _)
    have gM := ne_of hoff (.tail _ (.head _))
    have gC : ∀ q ∈ nC, q.1 ≠ I := fun q hq => hoff q (.tail _ (.tail _ hq))
    k_steps
    (rename IsRange _ _ _ _ _ _ _ _ => hR); (rename Fr _ _ _ _ => F3); (rename News _ _ _ _ => N3)
    k_dflt (refine SrcT.range (n := 3) (fun j ys => IntsAre ys (pllF [b0, b1, b2] y j)) rfl F3 N3 hR (by decide) (by rfl) (by rw [sizeLine_eq]; omega) .nil ?_ ?_)
    · intro g k3 ys tk3 I' oI' C oC' D m₂ h tk E' hk3 hJ hC' hx F N off ne
      clear F3 N3 hR
      obtain ⟨q, bb, xx, yy, hq, hqm, hbb⟩ := pick3 mq0 mq1 mq2 hk3
      have hq' : [Value.ref q0, .ref q1, .ref q2][((k3 : Nat) : Int).toNat]? = some (.ref q) := by rw [Int.toNat_natCast]; exact hq
      have hwf := wF_len bb
      have hwb := wB_len bb
      k_steps
      unfold StopW
      k_dflt (refine' Tell.use (fits_call _ _ _ _ _ _ y (wF bb) (wB bb) _ _ _ (isName_len hy16) hwf hwb) ?aB F ?aX N ?aT ?ak ?ad ?au ?_; (case aB => k_asm); (case aX => k_asm); (case aT => k_asm); (case ak => first | exact rfl | assumption); (case ad => ktr_room); (case au => ktr_units); k_whole)
      intro r9 nw9 h9 tk9 F9 N9 hPz8
      obtain ⟨e9, e9'⟩ := hPz8
      subst e9'; subst e9
      dsimp only
      k_steps
      · have e3 : ((k3 : Nat) : Int).toNat = k3 := Int.toNat_natCast k3
        rename fitsF _ _ _ = true => hfi
        rw [← hbb] at hfi
        refine CEnd.intro F9 N9 (fun p hp => hp) ?_
        rw [pllF_yes hfi, e3]
        exact intsAre_snoc hJ
      · rename fitsF _ _ _ = false => hfi
        rw [← hbb] at hfi
        refine CEnd.intro F9 N9 (fun p hp => hp) ?_
        rw [pllF_no hfi]
        exact hJ
    · intro g ys hJ D h tk F N off
      clear F3 N3 hR
      simp only [LCg.Off1] at off
      k_steps
      (rename Fr _ _ _ _ => F9); (rename News _ _ _ _ => N9)
      simp only [List.push_toArray] at N9
      exact TurnEnd.intro ((L + 1 + 1 + 1, _) :: (Dp, _) :: nC) F9 N9 (.tail _ (.head _)) (fun p hp => .tail _ (.tail _ hp)) (offC gI (offC gM gC)) ⟨_, _, _, _, rfl, (by with_reducible assumption), (by simp only [List.take_add_one, hy, Option.toList, List.map_append, List.map_cons, List.map_nil]; exact intsAre_snoc hvp), (fun _ h => nomatch h), (fun _ _ _ => rfl)⟩
  · intro m₁ nx' h3 tk3 hPz9 F₅ N₅
    obtain ⟨oN, vN, vm, nm, hnx, hoN, hvm, hF⟩ := hPz9
    subst hnx
    exact hret _ _ _ _ F₅ N₅ ⟨oN, vN, vm, nm, rfl, hoN, by rw [hvu.length, List.take_length] at hvm; exact hvm, hF⟩

section
theorem calm_L4 : True := by
  w_top off
  trivial
theorem front_loop (w : World) (loose : List Str) (mean : ExcName → Option Value) (mg mb : Str → Option Value) (h₀ : Heap) (L : Addr) (mB : Str → Option Value) (nC : List (Addr × Obj)) (Dk Dp : Addr) (oP : Obj) (vk vp : List Value) (nk np : Nat) (ks ps : List Int)
    (mK : (Dk, listOf vk.toArray nk) ∈ nC) (hk : IntsAre vk ks) (mD : (Dp, listOf vp.toArray np) ∈ nC) (hp : IntsAre vp ps) (mP : (L + 1 + 1, oP) ∈ nC) (dP : oP.data = .cell (some (.ref Dp)))
    (hlk : ks.length ≤ 5) (hlp : ps.length = 5) (hb : Small ps) (hmono : ∀ (i j : Nat) (y z : Int), i ≤ j → ks[i]? = some y → ks[j]? = some z → y ≤ z) (hfl : ∀ f : Nat, f ≤ 5 → (cntLt ks (f : Int) : Int) = mostF (ps.take f)) :
    LStep w loose mean mg mb lawS (lawSt 11) h₀ L (kstB mB [(Str.ofString "kept", .ref Dk)]) nC (fun m' news' => news' = nC ∧ FrAs (kstB mB [(Str.ofString "kept", .ref Dk)]) m' [] [Str.ofString "front"]) := by
  k_with_none
  k_with "exec For" => ((with_reducible refine stopW ?_))
  k_with "exec For Name Name cons nil" => ((with_reducible refine stopW ?_))
  k_with "exec For Name Call cons nil" => ((with_reducible refine stopW ?_))
  k_with "exec For Name List cons nil" => ((with_reducible refine stopW ?_))
  k_with "own mem" => (first | (with_reducible assumption) | (with_reducible refine List.mem_cons_of_mem _ ?_; walk_at "own mem"))
  k_with "call ref" => ((with_reducible refine stopW ?_))
  k_with "compareOp Eq ref ref" => ((with_reducible refine stopW ?_))
  k_with "compareOp NotEq ref ref" => ((k_here; k_dflt (refine' ne_strs ?w9k1 ?w9k2 ?w9k3 ?w9k4 ?w9k5 ?w9k6 ?w9k7 ?_; (case w9k1 => k_asm); (case w9k2 => k_memK); (case w9k4 => k_memK); (case w9k3 => assumption); (case w9k5 => assumption); (case w9k6 => assumption); (case w9k7 => ktr_units); k_whole)))
  k_with "subscriptTail" => ((k_here; (with_reducible show wpAny _ _ (subscriptTail _ _ (Value.ref _) (Value.int _ _)) _ _ _); k_dflt (refine' item_mem ?w9k1 ?w9k2 ?w9k3 ?w9k4 ?w9k5 ?_ ?w9k6; (case w9k5 => with_reducible assumption); (case w9k1 => k_asm); (case w9k2 => (walk_at "own mem")); (case w9k3 => exact Int.natCast_nonneg _); (case w9k4 => exact small3 (by with_reducible assumption)); (case w9k6 => with_unfolding_all rfl); k_whole)))
  k_with "subscriptTail" => ((k_here; (with_reducible show wpAny _ _ (subscriptTail _ _ (Value.ref _) (Value.int _ _)) _ _ _); k_dflt (refine' item_mem ?w9k1 ?w9k2 ?w9k3 ?w9k4 ?w9k5 ?_ ?w9k6; (case w9k5 => with_reducible assumption); (case w9k1 => k_asm); (case w9k2 => (walk_at "own mem")); (case w9k3 => with_reducible assumption); (case w9k4 => with_reducible assumption); (case w9k6 => with_unfolding_all rfl); k_whole)))
  k_with "subscriptTail" => ((k_here; (with_reducible show wpAny _ _ (subscriptTail _ _ (Value.ref _) (Value.int 0 _)) _ _ _); k_dflt (refine' tup_first ?w9k1 ?w9k2 ?_ ?w9k6; (case w9k1 => k_asm); (case w9k2 => (walk_at "own mem")); (case w9k6 => with_unfolding_all rfl); k_whole)))
  k_with "subscriptTail" => ((k_here; (with_reducible show wpAny _ _ (subscriptTail _ _ (Value.ref _) (Value.int 1 _)) _ _ _); k_dflt (refine' tup_second ?w9k1 ?w9k2 ?_ ?w9k6; (case w9k1 => k_asm); (case w9k2 => (walk_at "own mem")); (case w9k6 => with_unfolding_all rfl); k_whole)))
  k_with "eval Name" => ((k_here; (with_reducible show wpAny _ _ (PySem.eval (Expr.Name _ _) (envOfC _ _ _ _ _)) _ _ _); k_dflt (refine' nameX_C ?w9kN ?w9kc ?w9km ?w9kd ?_ ?w9ka ?w9kb; (case w9ka => rfl); (case w9kb => rfl); (case w9kN => k_asm); (case w9kc => exact rfl); (case w9km => (walk_at "own mem")); (case w9kd => with_reducible assumption); k_whole)))
  k_with "eval Name" => ((k_here; (with_reducible show wpAny _ _ (PySem.eval (Expr.Name _ _) (compEnvC _ _ _ _)) _ _ _); k_dflt (first | (refine' lcf_cell ?w9kN ?w9kc ?w9km ?w9kd ?_ ?w9ka ?w9kb; (case w9ka => rfl); (case w9kb => rfl); (case w9kN => k_asm); (case w9kc => exact rfl); (case w9km => (walk_at "own mem")); (case w9kd => with_reducible assumption); k_whole) | (refine' lcf_free ?w9kN ?w9kc ?w9km ?w9kd ?_ ?w9ka ?w9kb; (case w9ka => rfl); (case w9kb => rfl); (case w9kN => k_asm); (case w9kc => exact rfl); (case w9km => (walk_at "own mem")); (case w9kd => with_reducible assumption); k_whole))))
  k_with "eval ListComp" => ((k_here; (with_reducible show wpAny _ _ (PySem.eval (Expr.ListComp _ [Comprehension.mk _ _ [] _] _ _) _) _ _ _); k_dflt (refine comp_U (F₀ := by k_asm) (by with_unfolding_all rfl) (by decide) (by rfl) (by decide) (by rfl) ?_)))
  k_with "eval ListComp" => ((k_here; (with_reducible show wpAny _ _ (PySem.eval (Expr.ListComp _ [Comprehension.mk _ _ [_] _] _ _) _) _ _ _); k_dflt (refine comp_T (F₀ := by k_asm) (by with_unfolding_all rfl) (by decide) (by rfl) (by decide) (by rfl) ?_)))
  k_with "exec Assign cons ListComp" => ((k_here; k_dflt (refine compA_T (F₀ := by k_asm) (by rfl) (by with_unfolding_all rfl) (by with_unfolding_all rfl) (by decide) (by rfl) (by decide) (by rfl) (by rfl) (by rfl) ?_)))
  k_with "subscriptTail Name Slice ref ref" => ((with_reducible refine stopW ?_))
  conv in lawSt 11 => whnf
  conv in lawS => whnf
  unfold LStep lawE
  k_fill
  intro fa cd s Q B X T F N hret
  have kMk := kstMark
  (with_unfolding_all refine' For_invTF F ?_ ?hs)
  case hs => intro _; rfl
  k_steps
  (rename IsRange _ _ _ _ _ _ _ _ => hR); (rename Fr _ _ _ _ => F7); (rename News _ _ _ _ => N7)
  with_unfolding_all refine' iterT_range (n := 6) (fun k m nx' => nx' = nC ∧ FrAs _ m [] [Str.ofString "front"]) ?hL rfl hR (by decide) (by rfl) F7 N7 ⟨rfl, FrAs.refl (fun _ h => nomatch h)⟩ ?_ ?_
  case hL => rfl
  · intro I oI f tf m₃ nx' s₃ hf hlt hoff hPz10 F₅ N₅
    obtain ⟨hnx, hF3⟩ := hPz10
    subst hnx
    have F₆ := hF3.fr F₅
    clear F₅ F7 N7 hR
    have hf0 : (0 : Int) ≤ (f : Int) := Int.natCast_nonneg f
    k_steps
    unfold StopW
    (rename Fr _ _ _ _ => F8); (rename News _ _ _ _ => N8)
    k_dflt (refine' Tell.use (bis_call _ _ _ _ _ _ Dk vk ks nk (f : Int) tf (.tail _ mK) hk hlk hmono) ?aB F8 ?aX N8 ?aT ?ak ?ad ?au ?_; (case aB => k_asm); (case aX => k_asm); (case aT => k_asm); (case ak => first | exact rfl | assumption); (case ad => ktr_room); (case au => ktr_units); k_whole)
    intro r9 nw9 h9 tk9 F9 N9 hPz11
    obtain ⟨e9, t9, e9'⟩ := hPz11
    subst e9'; subst e9
    dsimp only
    clear F8 N8
    k_steps
    unfold StopW
    (rename Fr _ _ _ _ => F8); (rename News _ _ _ _ => N8)
    k_dflt (refine' kmk_slice_ints F8 N8 (News.isList N8 (.tail _ mD)) IsPart.none (IsPart.int _ _) hp (kmk_upto hp hf0) (List.length_take ..) ?_ ?zs ?zt ?zz; (case zs => with_unfolding_all rfl); (case zt => kmk_pure); (case zz => exact kmk_sz hp (by rw [sizeLine_eq]; omega)))
    intro D' ws' h' F' N' l1 hI' hC' hL'
    clear F8 N8
    k_steps
    unfold StopW
    rw [Int.toNat_natCast] at hI' hC' hL'
    (rename Fr _ _ _ _ => F8); (rename News _ _ _ _ => N8)
    k_dflt (refine' Tell.use (most_call _ _ _ _ _ _ D' ws' (ps.take f) 0 (.head _) hI' (by omega) (fun k hk => hb k (List.mem_of_mem_take hk))) ?bB F8 ?bX N8 ?bT ?bk ?bd ?bu ?_; (case bB => k_asm); (case bX => k_asm); (case bT => k_asm); (case bk => first | exact rfl | assumption); (case bd => ktr_room); (case bu => ktr_units); k_whole)
    intro r9 nw9 h9 tk9 F9 N9 hPz12
    obtain ⟨e9, t9, e9'⟩ := hPz12
    subst e9'; subst e9
    dsimp only
    clear F8 N8
    have hfe := hfl f (by omega)
    k_steps
    · exact absurd hfe (by assumption)
    · exact TurnEnd.intro nx' F9 N9 (.tail _ (.head _)) (fun p hp => .tail _ (.tail _ hp)) hoff ⟨rfl, (fun _ h => nomatch h), (by
        intro z h2 h3
        simp only [List.contains_cons, List.contains_nil, Bool.or_false, beq_eq_false_iff_ne, Bool.or_eq_false_iff, ne_eq] at h3
        simp [h3, kstB])⟩
  · intro m₃ nx' h3 tk3 hPz13 F₅ N₅
    obtain ⟨hnx, hF3⟩ := hPz13
    subst hnx
    exact hret _ _ _ _ F₅ N₅ ⟨rfl, hF3⟩

end
theorem calm_L5 : True := by
  w_top off
  trivial
theorem place_loop (w : World) (loose : List Str) (mean : ExcName → Option Value) (mg mb : Str → Option Value) (h₀ : Heap) (L : Addr) (mB : Str → Option Value) (nC : List (Addr × Obj)) (D0 Dp : Addr) (oL oP : Obj) (vL : Option Value) (v0 vp : List Value) (n0 np : Nat) (ps : List Int) (tm : Tok)
    (dL : oL.data = .cell vL) (hOC : OwnOff nC [L + 1 + 1 + 1 + 1]) (hlm : @LT.lt Nat _ (L + 1 + 1 + 1 + 1) D0) (h0 : IntsAre v0 [0, 1, 2, 3, 4])
    (mD : (Dp, listOf vp.toArray np) ∈ nC) (hp : IntsAre vp ps) (mP : (L + 1 + 1, oP) ∈ nC) (dP : oP.data = .cell (some (.ref Dp))) (hlp : ps.length = 5) (hb : Small ps) :
    LStep w loose mean mg mb lawS (lawSt 14) h₀ L (kstB mB [(Str.ofString "left", .ref D0), (Str.ofString "most", .int (mostF ps) tm)]) ((L + 1 + 1 + 1 + 1, oL) :: (D0, listOf v0.toArray n0) :: nC)
      (fun m' news' => ∃ (Dl : Addr) (vl : List Value) (nl : Nat), (Dl, listOf vl.toArray nl) ∈ news' ∧ (∀ p ∈ nC, p ∈ news') ∧ IntsAre vl (([4, 3, 2, 1, 0] : List Int).foldl (dropF ps (mostF ps)) [0, 1, 2, 3, 4]) ∧ FrAs (kstB mB [(Str.ofString "left", .ref D0), (Str.ofString "most", .int (mostF ps) tm)]) m' [(Str.ofString "left", .ref Dl)] [Str.ofString "others"]) := by
  k_with_none
  k_with "exec For" => ((with_reducible refine stopW ?_))
  k_with "exec For Name Name cons nil" => ((with_reducible refine stopW ?_))
  k_with "exec For Name Call cons nil" => ((with_reducible refine stopW ?_))
  k_with "exec For Name List cons nil" => ((with_reducible refine stopW ?_))
  k_with "own mem" => (first | (with_reducible assumption) | (with_reducible refine List.mem_cons_of_mem _ ?_; walk_at "own mem"))
  k_with "call ref" => ((with_reducible refine stopW ?_))
  k_with "compareOp Eq ref ref" => ((with_reducible refine stopW ?_))
  k_with "compareOp NotEq ref ref" => ((k_here; k_dflt (refine' ne_strs ?w9k1 ?w9k2 ?w9k3 ?w9k4 ?w9k5 ?w9k6 ?w9k7 ?_; (case w9k1 => k_asm); (case w9k2 => k_memK); (case w9k4 => k_memK); (case w9k3 => assumption); (case w9k5 => assumption); (case w9k6 => assumption); (case w9k7 => ktr_units); k_whole)))
  k_with "subscriptTail" => ((k_here; (with_reducible show wpAny _ _ (subscriptTail _ _ (Value.ref _) (Value.int _ _)) _ _ _); k_dflt (refine' item_mem ?w9k1 ?w9k2 ?w9k3 ?w9k4 ?w9k5 ?_ ?w9k6; (case w9k5 => with_reducible assumption); (case w9k1 => k_asm); (case w9k2 => (walk_at "own mem")); (case w9k3 => exact Int.natCast_nonneg _); (case w9k4 => exact small3 (by with_reducible assumption)); (case w9k6 => with_unfolding_all rfl); k_whole)))
  k_with "subscriptTail" => ((k_here; (with_reducible show wpAny _ _ (subscriptTail _ _ (Value.ref _) (Value.int _ _)) _ _ _); k_dflt (refine' item_mem ?w9k1 ?w9k2 ?w9k3 ?w9k4 ?w9k5 ?_ ?w9k6; (case w9k5 => with_reducible assumption); (case w9k1 => k_asm); (case w9k2 => (walk_at "own mem")); (case w9k3 => with_reducible assumption); (case w9k4 => with_reducible assumption); (case w9k6 => with_unfolding_all rfl); k_whole)))
  k_with "subscriptTail" => ((k_here; (with_reducible show wpAny _ _ (subscriptTail _ _ (Value.ref _) (Value.int 0 _)) _ _ _); k_dflt (refine' tup_first ?w9k1 ?w9k2 ?_ ?w9k6; (case w9k1 => k_asm); (case w9k2 => (walk_at "own mem")); (case w9k6 => with_unfolding_all rfl); k_whole)))
  k_with "subscriptTail" => ((k_here; (with_reducible show wpAny _ _ (subscriptTail _ _ (Value.ref _) (Value.int 1 _)) _ _ _); k_dflt (refine' tup_second ?w9k1 ?w9k2 ?_ ?w9k6; (case w9k1 => k_asm); (case w9k2 => (walk_at "own mem")); (case w9k6 => with_unfolding_all rfl); k_whole)))
  k_with "eval Name" => ((k_here; (with_reducible show wpAny _ _ (PySem.eval (Expr.Name _ _) (envOfC _ _ _ _ _)) _ _ _); k_dflt (refine' nameX_C ?w9kN ?w9kc ?w9km ?w9kd ?_ ?w9ka ?w9kb; (case w9ka => rfl); (case w9kb => rfl); (case w9kN => k_asm); (case w9kc => exact rfl); (case w9km => (walk_at "own mem")); (case w9kd => with_reducible assumption); k_whole)))
  k_with "eval Name" => ((k_here; (with_reducible show wpAny _ _ (PySem.eval (Expr.Name _ _) (compEnvC _ _ _ _)) _ _ _); k_dflt (first | (refine' lcf_cell ?w9kN ?w9kc ?w9km ?w9kd ?_ ?w9ka ?w9kb; (case w9ka => rfl); (case w9kb => rfl); (case w9kN => k_asm); (case w9kc => exact rfl); (case w9km => (walk_at "own mem")); (case w9kd => with_reducible assumption); k_whole) | (refine' lcf_free ?w9kN ?w9kc ?w9km ?w9kd ?_ ?w9ka ?w9kb; (case w9ka => rfl); (case w9kb => rfl); (case w9kN => k_asm); (case w9kc => exact rfl); (case w9km => (walk_at "own mem")); (case w9kd => with_reducible assumption); k_whole))))
  k_with "eval ListComp" => ((k_here; (with_reducible show wpAny _ _ (PySem.eval (Expr.ListComp _ [Comprehension.mk _ _ [] _] _ _) _) _ _ _); k_dflt (refine comp_U (F₀ := by k_asm) (by with_unfolding_all rfl) (by decide) (by rfl) (by decide) (by rfl) ?_)))
  k_with "eval ListComp" => ((k_here; (with_reducible show wpAny _ _ (PySem.eval (Expr.ListComp _ [Comprehension.mk _ _ [_] _] _ _) _) _ _ _); k_dflt (refine comp_T (F₀ := by k_asm) (by with_unfolding_all rfl) (by decide) (by rfl) (by decide) (by rfl) ?_)))
  k_with "exec Assign cons ListComp" => ((k_here; k_dflt (refine compA_T (F₀ := by k_asm) (by rfl) (by with_unfolding_all rfl) (by with_unfolding_all rfl) (by decide) (by rfl) (by decide) (by rfl) (by rfl) (by rfl) ?_)))
  conv in lawSt 14 => whnf
  conv in lawS => whnf
  unfold LStep lawE
  k_fill
  intro fa cd s Q B X T F N hret
  have kMk := kstMark
  (with_unfolding_all refine' For_invTF F ?_ ?hs)
  case hs => intro _; rfl
  k_steps
  rename_i Dx h7 F7 N7 l7
  have hx : IntsAre [Value.int 4 s.toks, Value.int 3 (s.toks + 1), Value.int 2 (s.toks + 1 + 1), Value.int 1 (s.toks + 1 + 1 + 1), Value.int 0 (s.toks + 1 + 1 + 1 + 1)] [4, 3, 2, 1, 0] := .cons _ _ (.cons _ _ (.cons _ _ (.cons _ _ (.cons _ _ .nil))))
  generalize hvx : [Value.int 4 s.toks, Value.int 3 (s.toks + 1), Value.int 2 (s.toks + 1 + 1), Value.int 1 (s.toks + 1 + 1 + 1), Value.int 0 (s.toks + 1 + 1 + 1 + 1)] = vx at N7 hx
  clear hvx
  with_unfolding_all refine' iterT_list (vs := vx) (fun i m nx => ∃ (oL : Obj) (vL : Option Value) (Dl : Addr) (vl : List Value) (nl : Nat), nx = (Dx, listOf vx.toArray 0) :: (L + 1 + 1 + 1 + 1, oL) :: (Dl, listOf vl.toArray nl) :: nC ∧ oL.data = .cell vL ∧ (@Ne Nat Dl (L + 1 + 1 + 1 + 1)) ∧ IntsAre vl ((([4, 3, 2, 1, 0] : List Int).take i).foldl (dropF ps (mostF ps)) [0, 1, 2, 3, 4]) ∧ FrAs (kstB mB [(Str.ofString "left", .ref D0), (Str.ofString "most", .int (mostF ps) tm)]) m [(Str.ofString "left", .ref Dl)] [Str.ofString "others"]) ?hL rfl ?hl F7 N7 ⟨_, _, _, _, _, rfl, dL, Nat.ne_of_gt hlm, h0, FrAs.refl (all1 (by simp [kstB]))⟩ ?hJl ?_ ?_
  case hL => rfl
  case hl => exact .head _
  case hJl => (intro _ _ _ hJ; obtain ⟨oL, vL, Dl, vl, nl, hnx, _⟩ := hJ; rw [hnx]; exact .head _)
  · intro I oI i v m₁ nx s₁ hi hlt hoff hPz14 F₁ N₁
    obtain ⟨oL, vL, Dl, vl, nl, hnx, hoL, hll, hvl, hF⟩ := hPz14
    subst hnx
    have F₂ := hF.fr F₁
    clear F₁ F7 N7 hlt
    obtain ⟨pl, tpl, rfl, hpl⟩ := intsAre_at hx hi
    obtain ⟨hf1, hf2⟩ := foldl_drop (ps := ps) (M := mostF ps) (([4, 3, 2, 1, 0] : List Int).take i) [0, 1, 2, 3, 4]
    have hfs : (([4, 3, 2, 1, 0] : List Int).take (i + 1)).foldl (dropF ps (mostF ps)) [0, 1, 2, 3, 4] = dropF ps (mostF ps) ((([4, 3, 2, 1, 0] : List Int).take i).foldl (dropF ps (mostF ps)) [0, 1, 2, 3, 4]) pl := by rw [List.take_add_one, hpl, List.foldl_append]; rfl
    rw [hfs]
    generalize (([4, 3, 2, 1, 0] : List Int).take i).foldl (dropF ps (mostF ps)) [0, 1, 2, 3, 4] = lf at hvl hf1 hf2 ⊢
    clear hfs
    have hfl : lf.length ≤ 5 := hf1
    have gX := ne_of hoff (.head _)
    have gL := ne_of hoff (.tail _ (.head _))
    have gD := ne_of hoff (.tail _ (.tail _ (.head _)))
    have gC : ∀ q ∈ nC, q.1 ≠ I := fun q hq => hoff q (.tail _ (.tail _ (.tail _ hq)))
    k_steps
    (rename Fr _ _ _ _ => F3); (rename News _ _ _ _ => N3)
    have hvll : vl.length = lf.length := hvl.length
    k_dflt (refine SrcT.list (vs := vl) (fun j ys => IntsAre ys ((lf.take j).filter fun k => decide (k ≠ pl))) rfl F3 N3 (.tail _ (.tail _ (.tail _ (.head _)))) (by rw [sizeLine_eq]; omega) .nil ?_ ?_)
    · intro g j ys v I' oI' C oC' D m₂ h tk E' hj hJ hv hC' hx' F N off ne
      obtain ⟨nv, tv, rfl, hnj⟩ := intsAre_at hvl hv
      clear F3 N3
      k_steps
      · refine CEnd.intro F N (fun p hp => hp) ?_
        rw [filt_yes hnj (by assumption)]
        exact intsAre_snoc hJ
      · refine CEnd.intro F N (fun p hp => hp) ?_
        rw [filt_no hnj (by assumption)]
        exact hJ
    · intro g ys hJ D h tk F N off
      rw [hvll, List.take_length] at hJ
      clear F3 N3
      simp only [LCg.Off1] at off
      obtain ⟨ol, hol⟩ : ∃ ol : List Int, ol = lf.filter fun k => decide (k ≠ pl) := ⟨_, rfl⟩
      rw [← hol] at hJ
      have hom : ∀ k ∈ ol, 0 ≤ k ∧ k < 5 := fun k hk => in5 (hf2 k (by rw [hol] at hk; exact (List.mem_filter.mp hk).1))
      have hoL5 : ol.length ≤ 5 := by rw [hol]; exact Nat.le_trans (List.length_filter_le _ _) hfl
      have hyl : ys.length = ol.length := hJ.length
      k_steps
      (rename Fr _ _ _ _ => F3); (rename News _ _ _ _ => N3)
      k_dflt (refine SrcU.list (vs := ys) (fun j zs => IntsAre zs ((ol.take j).map fun k => ps.getD k.toNat 0)) rfl F3 N3 (.head _) (by rw [sizeLine_eq]; omega) .nil ?_ ?_)
      · intro g2 j zs v I' oI' C oC' D2 m₂ h2 tk2 E' hj hJ2 hv hC' hx' F5 N5 off' ne
        obtain ⟨nv, tv, rfl, hnj⟩ := intsAre_at hJ hv
        have hnv := hom nv (List.mem_of_getElem? hnj)
        obtain ⟨pv, tpv, hpv, hpn⟩ := at_ints hp (k := nv.toNat) (by omega)
        have hn0 : 0 ≤ nv := hnv.1
        have hn6 : nv < 2 ^ 63 := Int.lt_trans hnv.2 (by decide)
        clear F3 N3
        k_steps
        refine CEnd.intro F5 N5 (fun p hp => hp) ?_
        rw [mapt hnj, hpn]
        exact intsAre_snoc hJ2
      · intro g2 zs hJ2 D2 h2 tk2 F5 N5 off2
        rw [hyl, List.take_length] at hJ2
        clear F3 N3
        simp only [LCg.Off1] at off2
        k_steps
        unfold StopW
        (rename Fr _ _ _ _ => F8); (rename News _ _ _ _ => N8)
        k_dflt (refine' Tell.use (most_call _ _ _ _ _ _ D2 zs _ zs.length (.head _) hJ2 (by rw [List.length_map]; exact hoL5) (fun k hk => by obtain ⟨q, _, rfl⟩ := List.mem_map.mp hk; exact getD_small hb _)) ?bB F8 ?bX N8 ?bT ?bk ?bd ?bu ?_; (case bB => k_asm); (case bX => k_asm); (case bT => k_asm); (case bk => first | exact rfl | assumption); (case bd => ktr_room); (case bu => ktr_units); k_whole)
        intro r9 nw9 h9 tk9 F9 N9 hPz15
        obtain ⟨e9, t9, e9'⟩ := hPz15
        subst e9'; subst e9
        dsimp only
        clear F8 N8
        k_steps
        · rename mostF _ = mostF _ => hme
          rw [hol] at hme
          (rename Fr _ _ _ _ => F10); (rename News _ _ _ _ => N10)
          exact TurnEnd.intro ((Dx, _) :: (L + 1 + 1 + 1 + 1, _) :: (D, LCg.lst ys) :: nC) F10 N10 (.tail _ (.tail _ (.head _))) sub_a (offC gX (offC gL (offC (Ne.symm off.1) gC))) ⟨_, _, D, ys, ys.length, rfl, (by with_reducible assumption), Ne.symm off.2.2.1, (by rw [dropF_yes hme, ← hol]; exact hJ), (all1 rfl), (by
        intro z h2 h3
        simp only [List.forall_mem_cons, List.not_mem_nil, false_implies, implies_true, and_true, ne_eq] at h2
        simp only [List.contains_cons, List.contains_nil, Bool.or_false, beq_eq_false_iff_ne, Bool.or_eq_false_iff, ne_eq] at h3
        simp [h2, h3, kstB])⟩
        · have hd : dropF ps (mostF ps) lf pl = lf := dropF_no (by rw [← hol]; assumption)
          exact TurnEnd.intro ((Dx, _) :: (L + 1 + 1 + 1 + 1, _) :: (Dl, _) :: nC) F9 N9 (.tail _ (.tail _ (.head _))) sub_b (offC gX (offC gL (offC gD gC))) ⟨_, _, Dl, vl, nl, rfl, (by with_reducible assumption), (by assumption), (by rw [hd]; exact hvl), (all1 (by simp [kstB, (by decide +kernel : ¬ Str.ofString "left" = Str.ofString "others")])), (by
        intro z h2 h3
        simp only [List.forall_mem_cons, List.not_mem_nil, false_implies, implies_true, and_true, ne_eq] at h2
        simp only [List.contains_cons, List.contains_nil, Bool.or_false, beq_eq_false_iff_ne, Bool.or_eq_false_iff, ne_eq] at h3
        simp [h2, h3, kstB])⟩
  · intro m₃ nx' h3 tk3 hPz16 F₅ N₅
    obtain ⟨oL, vL, Dl, vl, nl, hnx, hoL, hll, hvl, hF⟩ := hPz16
    subst hnx
    exact hret _ _ _ _ F₅ N₅ ⟨Dl, vl, nl, .tail _ (.tail _ (.head _)), fun p hp => .tail _ (.tail _ (.tail _ hp)), by rw [hx.length] at hvl; exact hvl, hF⟩

theorem calm_M1 : True := by
  w_top off
  trivial
theorem memQ0 {Dw q0 q1 q2 Dp p0 p1 p2 p3 p4 : Addr} {b0 b1 b2 a0 a1 a2 a3 a4 : Int} {x0 x1 x2 y0 y1 y2 u0 u1 u2 u3 u4 v0 v1 v2 v3 v4 : Tok} {nT : List (Addr × Obj)} (hnT : nT = tups Dw q0 q1 q2 Dp p0 p1 p2 p3 p4 b0 b1 b2 a0 a1 a2 a3 a4 x0 x1 x2 y0 y1 y2 u0 u1 u2 u3 u4 v0 v1 v2 v3 v4) : (q0, tupW b0 x0 y0) ∈ nT := by
  subst hnT; exact .tail _ (.head _)
theorem memQ1 {Dw q0 q1 q2 Dp p0 p1 p2 p3 p4 : Addr} {b0 b1 b2 a0 a1 a2 a3 a4 : Int} {x0 x1 x2 y0 y1 y2 u0 u1 u2 u3 u4 v0 v1 v2 v3 v4 : Tok} {nT : List (Addr × Obj)} (hnT : nT = tups Dw q0 q1 q2 Dp p0 p1 p2 p3 p4 b0 b1 b2 a0 a1 a2 a3 a4 x0 x1 x2 y0 y1 y2 u0 u1 u2 u3 u4 v0 v1 v2 v3 v4) : (q1, tupW b1 x1 y1) ∈ nT := by
  subst hnT; exact .tail _ (.tail _ (.head _))
theorem memQ2 {Dw q0 q1 q2 Dp p0 p1 p2 p3 p4 : Addr} {b0 b1 b2 a0 a1 a2 a3 a4 : Int} {x0 x1 x2 y0 y1 y2 u0 u1 u2 u3 u4 v0 v1 v2 v3 v4 : Tok} {nT : List (Addr × Obj)} (hnT : nT = tups Dw q0 q1 q2 Dp p0 p1 p2 p3 p4 b0 b1 b2 a0 a1 a2 a3 a4 x0 x1 x2 y0 y1 y2 u0 u1 u2 u3 u4 v0 v1 v2 v3 v4) : (q2, tupW b2 x2 y2) ∈ nT := by
  subst hnT; exact .tail _ (.tail _ (.tail _ (.head _)))
theorem news_d {h₀ h : Heap} {L : Addr} {a m pl du dr c4 c2 c1 : Addr × Obj} {nT : List (Addr × Obj)} (N : News h₀ L h (a :: m :: pl :: du :: dr :: c4 :: c2 :: c1 :: nT)) : News h₀ L h (a :: pl :: m :: du :: c4 :: c2 :: c1 :: nT) := fun p hp => N p (by
  simp only [List.mem_cons] at hp ⊢
  rcases hp with h | h | h | h | h | h | h | h <;> simp [h])
theorem news_e {h₀ h : Heap} {L : Addr} {k a m pl du c4 c2 c1 t : Addr × Obj} {nT : List (Addr × Obj)} (N : News h₀ L h (k :: a :: pl :: m :: du :: c4 :: c2 :: c1 :: nT)) (ht : t ∈ nT) : News h₀ L h [c4, k, pl, c2, t] := fun p hp => N p (by
  simp only [List.mem_cons, List.not_mem_nil, or_false] at hp ⊢
  rcases hp with h | h | h | h | h <;> simp [h, ht])
theorem news_g {h₀ h : Heap} {L : Addr} {u r : Addr × Obj} {t c4 c3 c2 c1 : Addr} {ot o4 o3 o2 o1 : Obj} {nT : List (Addr × Obj)} (N : News h₀ L h (u :: (t, ot) :: r :: (c4, o4) :: (c3, o3) :: (c2, o2) :: (c1, o1) :: nT)) (OT : OwnOff nT [c4, c3, c2, c1, 65]) (h4 : (@Ne Nat t c4)) (h3 : (@Ne Nat t c3)) (h2 : (@Ne Nat t c2)) (h1 : (@Ne Nat t c1)) :
    ∃ nT2, nT2 = (t, ot) :: nT ∧ News h₀ L h (u :: r :: (c4, o4) :: (c3, o3) :: (c2, o2) :: (c1, o1) :: nT2) ∧ OwnOff nT2 [c4, c3, c2, c1] ∧ (t, ot) ∈ nT2 ∧ (∀ p ∈ nT, p ∈ nT2) := ⟨_, rfl, fun p hp => N p (by
  simp only [List.mem_cons] at hp ⊢
  rcases hp with h | h | h | h | h | h | h | h <;> simp [h]), fun p hp b hb => by
  rcases List.mem_cons.mp hp with rfl | hp
  · simp only [List.mem_cons, List.not_mem_nil, or_false] at hb
    rcases hb with rfl | rfl | rfl | rfl
    · exact h4
    · exact h3
    · exact h2
    · exact h1
  · exact OT p hp b (by
      simp only [List.mem_cons, List.not_mem_nil, or_false] at hb ⊢
      rcases hb with h | h | h | h <;> simp [h]), .head _, fun p hp => .tail _ hp⟩
theorem news_f {h₀ h : Heap} {L : Addr} {d c4 k pl c2 t : Addr × Obj} (N : News h₀ L h [d, c4, k, pl, c2, t]) : News h₀ L h [c4, d, k, pl, c2, t] := fun p hp => N p (by
  simp only [List.mem_cons, List.not_mem_nil, or_false] at hp ⊢
  rcases hp with h | h | h | h | h | h <;> simp [h])
theorem ownOff1 {l : List (Addr × Obj)} {a : Addr} (h : ∀ p ∈ l, p.1 ≠ a) : OwnOff l [a] := fun p hp x hx => by
  rw [List.mem_singleton.mp hx]; exact h p hp
theorem eq_same {prog : Program} {w : World} {A : Around} {E : Value → Shared → Prop} {s : Shared} {h₀ : Heap} {L a b : Addr} {news : List (Addr × Obj)} {Q : Value → Shared → Prop} {vs us : List Value} {ns : List Int} {c d : Nat}
    (N : News h₀ L s.heap news) (ha : (a, listOf vs.toArray c) ∈ news) (hi : IntsAre vs ns) (hb : (b, listOf us.toArray d) ∈ news) (hi' : IntsAre us ns) (hu : A.units + 64 < cLine) (h : Q (.bool true) s) : wpAny (model prog w) A (compareOp .Eq (.ref a) (.ref b)) Q E s :=
  eq_mem N ha hi hb hi' hu (by rw [decide_eq_true (rfl : ns = ns)]; exact h)
theorem pT {p m du c4 c2 c1 : Addr × Obj} {nT : List (Addr × Obj)} (h : p ∈ nT) : p ∈ m :: du :: c4 :: c2 :: c1 :: nT := .tail _ (.tail _ (.tail _ (.tail _ (.tail _ h))))
theorem law_walk : PySem.Challenge.rw_re0072_01.Holds := by
  k_with_none
  k_with "exec For" => ((with_reducible refine stopW ?_))
  k_with "exec For Name Name cons nil" => ((with_reducible refine stopW ?_))
  k_with "exec For Name Call cons nil" => ((with_reducible refine stopW ?_))
  k_with "exec For Name List cons nil" => ((with_reducible refine stopW ?_))
  k_with "own mem" => (first | (with_reducible assumption) | (with_reducible refine List.mem_cons_of_mem _ ?_; walk_at "own mem"))
  k_with "call ref" => ((with_reducible refine stopW ?_))
  k_with "compareOp Eq ref ref" => ((with_reducible refine stopW ?_))
  k_with "compareOp NotEq ref ref" => ((k_here; k_dflt (refine' ne_strs ?w9k1 ?w9k2 ?w9k3 ?w9k4 ?w9k5 ?w9k6 ?w9k7 ?_; (case w9k1 => k_asm); (case w9k2 => k_memK); (case w9k4 => k_memK); (case w9k3 => assumption); (case w9k5 => assumption); (case w9k6 => assumption); (case w9k7 => ktr_units); k_whole)))
  k_with "subscriptTail" => ((k_here; (with_reducible show wpAny _ _ (subscriptTail _ _ (Value.ref _) (Value.int _ _)) _ _ _); k_dflt (refine' item_mem ?w9k1 ?w9k2 ?w9k3 ?w9k4 ?w9k5 ?_ ?w9k6; (case w9k5 => with_reducible assumption); (case w9k1 => k_asm); (case w9k2 => (walk_at "own mem")); (case w9k3 => exact Int.natCast_nonneg _); (case w9k4 => exact small3 (by with_reducible assumption)); (case w9k6 => with_unfolding_all rfl); k_whole)))
  k_with "subscriptTail" => ((k_here; (with_reducible show wpAny _ _ (subscriptTail _ _ (Value.ref _) (Value.int _ _)) _ _ _); k_dflt (refine' item_mem ?w9k1 ?w9k2 ?w9k3 ?w9k4 ?w9k5 ?_ ?w9k6; (case w9k5 => with_reducible assumption); (case w9k1 => k_asm); (case w9k2 => (walk_at "own mem")); (case w9k3 => with_reducible assumption); (case w9k4 => with_reducible assumption); (case w9k6 => with_unfolding_all rfl); k_whole)))
  k_with "subscriptTail" => ((k_here; (with_reducible show wpAny _ _ (subscriptTail _ _ (Value.ref _) (Value.int 0 _)) _ _ _); k_dflt (refine' tup_first ?w9k1 ?w9k2 ?_ ?w9k6; (case w9k1 => k_asm); (case w9k2 => (walk_at "own mem")); (case w9k6 => with_unfolding_all rfl); k_whole)))
  k_with "subscriptTail" => ((k_here; (with_reducible show wpAny _ _ (subscriptTail _ _ (Value.ref _) (Value.int 1 _)) _ _ _); k_dflt (refine' tup_second ?w9k1 ?w9k2 ?_ ?w9k6; (case w9k1 => k_asm); (case w9k2 => (walk_at "own mem")); (case w9k6 => with_unfolding_all rfl); k_whole)))
  k_with "eval Name" => ((k_here; (with_reducible show wpAny _ _ (PySem.eval (Expr.Name _ _) (envOfC _ _ _ _ _)) _ _ _); k_dflt (refine' nameX_C ?w9kN ?w9kc ?w9km ?w9kd ?_ ?w9ka ?w9kb; (case w9ka => rfl); (case w9kb => rfl); (case w9kN => k_asm); (case w9kc => exact rfl); (case w9km => (walk_at "own mem")); (case w9kd => with_reducible assumption); k_whole)))
  k_with "eval Name" => ((k_here; (with_reducible show wpAny _ _ (PySem.eval (Expr.Name _ _) (compEnvC _ _ _ _)) _ _ _); k_dflt (first | (refine' lcf_cell ?w9kN ?w9kc ?w9km ?w9kd ?_ ?w9ka ?w9kb; (case w9ka => rfl); (case w9kb => rfl); (case w9kN => k_asm); (case w9kc => exact rfl); (case w9km => (walk_at "own mem")); (case w9kd => with_reducible assumption); k_whole) | (refine' lcf_free ?w9kN ?w9kc ?w9km ?w9kd ?_ ?w9ka ?w9kb; (case w9ka => rfl); (case w9kb => rfl); (case w9kN => k_asm); (case w9kc => exact rfl); (case w9km => (walk_at "own mem")); (case w9kd => with_reducible assumption); k_whole))))
  k_with "eval ListComp" => ((k_here; (with_reducible show wpAny _ _ (PySem.eval (Expr.ListComp _ [Comprehension.mk _ _ [] _] _ _) _) _ _ _); k_dflt (refine comp_U (F₀ := by k_asm) (by with_unfolding_all rfl) (by decide) (by rfl) (by decide) (by rfl) ?_)))
  k_with "eval ListComp" => ((k_here; (with_reducible show wpAny _ _ (PySem.eval (Expr.ListComp _ [Comprehension.mk _ _ [_] _] _ _) _) _ _ _); k_dflt (refine comp_T (F₀ := by k_asm) (by with_unfolding_all rfl) (by decide) (by rfl) (by decide) (by rfl) ?_)))
  k_with "exec Assign cons ListComp" => ((k_here; k_dflt (refine compA_T (F₀ := by k_asm) (by rfl) (by with_unfolding_all rfl) (by with_unfolding_all rfl) (by decide) (by rfl) (by decide) (by rfl) (by rfl) (by rfl) ?_)))
  clear law_walk
  refine hd ?_
  k_go0
  clear codeHd
  k_steps
  unfold StopW
  rename_i _ _ _ _ _ _ lA _ _ _ _ _ _ lB Dd wd _ hId ld _ D5 w5 _ F1 N1 hI1 hC1 hL1 l5
  obtain ⟨a0, a1, a2, a3, a4, t0, t1, t2, t3, t4, rfl⟩ := draws5 hI1
  clear hI1 hC1 hL1 lA lB
  k_dflt (refine' Tell.use (pairs_call _ _ _ _ _ _ _ _ _ _ _ _ _ _ _ _ _ _) ?zB F1 ?zX N1 ?zT ?zk ?zd ?zu ?_; (case zB => k_asm); (case zX => k_asm); (case zT => k_asm); (case zk => first | exact rfl | assumption); (case zd => ktr_room); (case zu => ktr_units); k_whole)
  intro r9 nw9 h9 tk9 F9 N9 hPz17
  obtain ⟨Dp, p0, p1, p2, p3, p4, u0, u1, u2, u3, u4, v0, v1, v2, v3, v4, e9, e9'⟩ := hPz17
  subst e9; subst e9'
  dsimp only
  clear F1 N1
  k_steps
  unfold StopW
  rename_i D3 w3 _ F1 N1 hI1 hC1 hL1 l3
  obtain ⟨b0, b1, b2, s0, s1, s2, rfl⟩ := draws3 hI1
  clear hI1 hC1 hL1 hId
  k_dflt (refine' Tell.use (wishes_call _ _ _ _ _ _ _ _ _ _ _ _ _ _) ?yB F1 ?yX N1 ?yT ?yk ?yd ?yu ?_; (case yB => k_asm); (case yX => k_asm); (case yT => k_asm); (case yk => first | exact rfl | assumption); (case yd => ktr_room); (case yu => ktr_units); k_whole)
  intro r9 nw9 h9 tk9 F9 N9 hPz18
  obtain ⟨Dw, q0, q1, q2, x0, x1, x2, y0, y1, y2, e9, e9'⟩ := hPz18
  subst e9; subst e9'
  dsimp only
  clear F1 N1
  obtain ⟨nT, hnT, NT, OT⟩ := compact N9 (by assumption) (by assumption) (by assumption) (by assumption)
  (try dsimp only at NT OT)
  clear N9 l3 ld l5
  k_steps
  unfold StopW
  rename_i _ oW dW Dr _ lR _ F2 N2
  obtain ⟨nC, hnC, N3⟩ := news_tail N2
  have hnCT : ∀ p ∈ nT, p ∈ nC := fun p hp => by rw [hnC]; exact .tail _ (.tail _ (.tail _ (.tail _ (.tail _ hp))))
  have hoC : ∀ p ∈ nC, p.1 ≠ Dr := by rw [hnC]; exact offLt1 lR
  clear N2
  (with_unfolding_all refine' For_invTF F2 ?_ ?hs)
  case hs => intro _; rfl
  k_steps
  with_unfolding_all refine' iterT_list (vs := [.ref p0, .ref p1, .ref p2, .ref p3, .ref p4]) (fun i m nx => ∃ (vr : List Value) (nr : Nat), nx = (Dr, listOf vr.toArray nr) :: nC ∧ StrsAre vr (rowF (([a0, a1, a2, a3, a4].map nmF).take i)) ∧ FrAs _ m [] [Str.ofString "pair"]) ?hL rfl ?hl F2 N3 ⟨[], 0, rfl, .nil, FrAs.refl (fun _ h => nomatch h)⟩ ?hJl ?_ ?_
  case hL => rfl
  case hl => exact .tail _ (hnCT _ (memDp hnT))
  case hJl => (intro _ _ _ hJ; obtain ⟨vr, nr, hnx, _⟩ := hJ; rw [hnx]; exact .tail _ (hnCT _ (memDp hnT)))
  · intro I oI i v m₁ nx s₁ hi hlt hoff hPz19 F₁ N₁
    obtain ⟨vr, nr, hnx, hvr, hF⟩ := hPz19
    subst hnx
    have F₂ := hF.fr F₁
    clear F₁ F2 N3
    have N₂ := news_swap N₁
    clear N₁
    have hI0 := hoff _ (.head _)
    obtain ⟨p, aa, uu, vv, rfl, hmem, hnm⟩ := pickP hnT hi
    have hbm : (p, tupP aa uu vv) ∈ (Dr, listOf vr.toArray nr) :: (I, oI) :: nC := .tail _ (.tail _ (hnCT _ hmem))
    k_steps
    unfold StopW
    (rename Fr _ _ _ _ => F3); (rename News _ _ _ _ => N4)
    k_dflt (refine' Tell.use (build_call _ _ _ _ _ _ p (lgF aa) (ecF aa) uu vv _ hbm (lgF_len aa) (ecF_len aa)) ?tB F3 ?tX N4 ?tT ?tk ?td ?tu ?_; (case tB => k_asm); (case tX => k_asm); (case tT => k_asm); (case tk => first | exact rfl | assumption); (case td => ktr_room); (case tu => ktr_units); k_whole)
    intro r9 nw9 h9 tk9 F9 N9 hPz20
    obtain ⟨e9, v9, e9'⟩ := hPz20
    subst e9'; subst e9
    dsimp only
    try clear F3; try clear N4; try clear F₂; try clear N₂
    have hxs : ∀ x ∈ (([a0, a1, a2, a3, a4].map nmF).take i), x ∈ names16 := fun x hx => by
      obtain ⟨a, _, e⟩ := List.mem_map.mp (List.mem_of_mem_take hx)
      rw [← e]; exact nmF_mem a
    obtain ⟨g1, g2, g3⟩ := rowF_of hxs
    have hil := (List.getElem?_eq_some_iff.mp hnm).1
    have hil5 : i < 5 := hil
    have hlen : (rowF (([a0, a1, a2, a3, a4].map nmF).take i)).length ≤ 5 := by rw [g2, List.length_take]; omega
    have htk : ([a0, a1, a2, a3, a4].map nmF).take (i + 1) = ([a0, a1, a2, a3, a4].map nmF).take i ++ [nmF aa] := by simp only [List.take_add_one, hnm, Option.toList]
    k_steps
    unfold StopW
    (rename Fr _ _ _ _ => F3); (rename News _ _ _ _ => N4)
    k_dflt (refine' Tell.use (insort_call _ _ _ _ _ ((I, oI) :: nC) Dr vr _ nr (nmF aa) v9 (offC (Ne.symm hI0) hoC) hvr hlen (nmF_mem aa) g3 g1.mono) ?sB F3 ?sX N4 ?sT ?sk ?sd ?su ?_; (case sB => k_asm); (case sX => k_asm); (case sT => k_asm); (case sk => first | exact rfl | assumption); (case sd => ktr_room); (case su => ktr_units); k_whole)
    intro r9 nw9 h9 tk9 F9 N9 hPz21
    obtain ⟨vs2, n2, e9, hS2, e9'⟩ := hPz21
    subst e9'; subst e9
    dsimp only
    clear F3 N4
    k_steps
    (rename Fr _ _ _ _ => F5); (rename News _ _ _ _ => N5)
    refine TurnEnd.intro ((Dr, listOf vs2.toArray n2) :: nC) F5 N5 (.tail _ (.head _)) (fun q hq => (List.mem_cons.mp hq).elim (fun e => e ▸ .head _) fun h => .tail _ (.tail _ h)) (offC hI0 fun q hq => hoff q (.tail _ hq)) ⟨vs2, n2, rfl, by rw [htk, rowF_snoc]; exact hS2, (fun _ h => nomatch h), (by
      intro z h2 h3
      simp only [List.contains_cons, List.contains_nil, Bool.or_false, beq_eq_false_iff_ne, Bool.or_eq_false_iff, ne_eq] at h3
      simp [h3, kstB])⟩
  · intro m₁ nx h tk hPz22 F₁ N₁
    obtain ⟨vr, nr, hnx, hvr, hF⟩ := hPz22
    subst hnx
    have F₂ := hF.fr F₁
    clear F₁ F2 N3
    subst hnC
    have N₂ := news_rot N₁
    clear N₁ hnCT hoC
    k_steps
    unfold StopW
    (rename Fr _ _ _ _ => F3); (rename News _ _ _ _ => N4)
    k_dflt (refine' Tell.use (due_call _ _ _ _ _ _ Dp [.ref p0, .ref p1, .ref p2, .ref p3, .ref p4] [(p0, tupP a0 u0 v0), (p1, tupP a1 u1 v1), (p2, tupP a2 u2 v2), (p3, tupP a3 u3 v3), (p4, tupP a4 u4 v4)] ([a0, a1, a2, a3, a4].map fun a => (lgF a, ecF a)) _ ?rh (.tail _ (.tail _ (.tail _ (.tail _ (.tail _ (memDp hnT)))))) (fun q hq => .tail _ (.tail _ (.tail _ (.tail _ (.tail _ (memPs hnT hq)))))) (.cons _ _ _ _ _ _ (.cons _ _ _ _ _ _ (.cons _ _ _ _ _ _ (.cons _ _ _ _ _ _ (.cons _ _ _ _ _ _ .nil))))) rfl dueNm dueSz) ?rB F3 ?rX N4 ?rT ?rk ?rd ?ru ?_; (case rh => exact (offC (by omega) (offC (by omega) (offC (by omega) (offC (by omega) (offC (by omega) fun q hq => OT q hq _ (by k_memK))))))); (case rB => k_asm); (case rX => k_asm); (case rT => k_asm); (case rk => first | exact rfl | assumption); (case rd => ktr_room); (case ru => ktr_units); k_whole)
    intro r9 nw9 h9 tk9 F9 N9 hPz23
    obtain ⟨Du, vu, nu, pt, e9, hvu, hDu, h65u, e9'⟩ := hPz23
    subst e9'; subst e9
    dsimp only
    obtain ⟨nT2, hT2, N10, OT2, m65, hTT⟩ := news_g N9 OT (by omega) (by omega) (by omega) (by omega)
    clear N9
    try clear F3; try clear N4; try clear F₂; try clear N₂
    rw [dueEq] at hvu
    have hvr' : StrsAre vr (rowF ([a0, a1, a2, a3, a4].map nmF)) := hvr
    have hok : ∀ x ∈ rowF ([a0, a1, a2, a3, a4].map nmF), PyData.strOk x = true := fun x hx => ok16 x ((rowF_of nmAll).2.2 x hx)
    have e65 : ∀ q ∈ nT2, q.1 ≠ Du := by rw [hT2]; exact offC h65u fun q hq => hDu q (.tail _ (.tail _ (.tail _ (.tail _ (.tail _ hq)))))
    have f0 := ne_of hDu (.head _)
    have f4 := ne_of hDu (.tail _ (.head _))
    have f3 := ne_of hDu (.tail _ (.tail _ (.head _)))
    have f2 := ne_of hDu (.tail _ (.tail _ (.tail _ (.head _))))
    have f1 := ne_of hDu (.tail _ (.tail _ (.tail _ (.tail _ (.head _)))))
    clear hDu
    k_steps
    unfold StopW
    rename_i _ Dm _ lM Dpl _ lP Dt _ lT _ _ _ oP F2 N2 dP
    obtain ⟨nC, hnC, N3, OC, mW, mR, mT⟩ := news_c N2 (fun q hq => OT2 q hq _ (by k_memK)) (offLt1 lM.2.2.2.2.2.2) (by omega) (by omega) (by omega) (by omega) (by omega) (by omega) (by omega) (by omega) (by omega) (by omega) (by omega) (by omega)
    clear N2
    obtain ⟨mB, F4⟩ := fr_forget [(Str.ofString "row", Value.ref Dr), (Str.ofString "masks", .ref Dm), (Str.ofString "due", .ref Du)] F2 (all3 rfl rfl rfl)
    clear F2
    have hrl := rowF_of (nmAll (as := [a0, a1, a2, a3, a4]))
    k_dflt (refine' LStep.use (masks_loop _ _ _ _ _ _ _ (kstB mB [(Str.ofString "due", .ref Du)]) nC Dr Dm Dw q0 q1 q2 b0 b1 b2 x0 x1 x2 y0 y1 y2 oW _ _ vr nr 0 _ ?dn OC ?lm mR hvr' hrl.2.2 (hrl.2.1.trans rfl) mW dW (mT _ (hTT _ (memDw hnT))) (mT _ (hTT _ (memQ0 hnT))) (mT _ (hTT _ (memQ1 hnT))) (mT _ (hTT _ (memQ2 hnT)))) ?mB ?mX ?mT F4 N3 ?_; (case dn => assumption); (case lm => exact lM.2.2.2.1); (case mB => k_asm); (case mX => k_asm); (case mT => k_asm); k_whole)
    intro m1 nw1 h1 tk1 F5 N5 hPz24
    obtain ⟨oN, vN, vm, nm, e5, hoN, hvm, hF5⟩ := hPz24
    subst e5
    k_steps
    unfold StopW
    have g1 : m1 (Str.ofString "masks") = some (.ref Dm) := hF5.get (fun _ h => nomatch h) (by decide +kernel)
    have g2 : m1 (Str.ofString "due") = some (.ref Du) := hF5.get (fun _ h => nomatch h) (by decide +kernel)
    obtain ⟨mC, F6⟩ := fr_forget [(Str.ofString "due", Value.ref Du), (Str.ofString "masks", .ref Dm)] F5 (all2 g2 g1)
    clear F5 hF5 g1 g2 F4 N3
    subst hnC
    have N6 := news_d N5
    clear N5 OC mW mR mT
    k_dflt (refine' LStep.use (plain_loop _ _ _ _ _ _ _ (kstB mC [(Str.ofString "masks", .ref Dm)]) _ Du Dpl Dw q0 q1 q2 b0 b1 b2 x0 x1 x2 y0 y1 y2 oW _ oP _ vu nu 0 _ hoN ?oc lP.2.2.2.2.1 (.tail _ (.head _)) hvu hrl.2.2 (hrl.2.1.trans rfl) (.tail _ (.tail _ (.tail _ (.head _)))) dP (.tail _ (.tail _ (.tail _ (.tail _ (.head _))))) dW (pT (hTT _ (memDw hnT))) (pT (hTT _ (memQ0 hnT))) (pT (hTT _ (memQ1 hnT))) (pT (hTT _ (memQ2 hnT)))) ?pB ?pX ?pT F6 N6 ?_; (case oc => exact ownOff2 (offC (by omega) (offC (by omega) (offC (by omega) (offC (by omega) (offC (by omega) fun q hq => OT2 q hq _ (by k_memK)))))) (offC (by omega) (offC (by omega) (offC (by omega) (offC (by omega) (offC (by omega) (offLt1 lP.2.2.2.2.2.2.2))))))); (case pB => k_asm); (case pX => k_asm); (case pT => k_asm); k_whole)
    intro m2 nw2 h2 tk2 F7 N7 hPz25
    obtain ⟨oN2, vN2, vp, np, e7, hoN2, hvp, hF7⟩ := hPz25
    subst e7
    have g1 : m2 (Str.ofString "masks") = some (.ref Dm) := hF7.get (fun _ h => nomatch h) (by decide +kernel)
    obtain ⟨mE, F8⟩ := fr_forget [(Str.ofString "masks", Value.ref Dm)] F7 (all1 g1)
    clear F7 hF7 g1 F6 N6
    have eqm : (rowF ([a0, a1, a2, a3, a4].map nmF)).map (fun y => mskE [b0, b1, b2] y 3) = (rowF ([a0, a1, a2, a3, a4].map nmF)).map (fun y => (pllF [b0, b1, b2] y 3).sum) := List.map_congr_left fun y hy => msk_plain (hrl.2.2 y hy)
    obtain ⟨ps, hps⟩ : ∃ ps : List Int, ps = (rowF ([a0, a1, a2, a3, a4].map nmF)).map (fun y => mskE [b0, b1, b2] y 3) := ⟨_, rfl⟩
    rw [← hps] at hvm
    rw [← eqm, ← hps] at hvp
    have hpl : ps.length = 5 := by rw [hps, List.length_map]; exact hrl.2.1.trans rfl
    have hsm : Small ps := fun k hk => by
      rw [hps] at hk
      obtain ⟨y, _, rfl⟩ := List.mem_map.mp hk
      exact mskE_small _ _ (Nat.le_refl 3)
    clear hps eqm hrl
    k_steps
    unfold StopW
    (rename Fr _ _ _ _ => F3); (rename News _ _ _ _ => N4)
    k_dflt (refine' Tell.use (kept_call _ _ _ _ _ _ Dm vm ps nm (.tail _ (.tail _ (.head _))) hvm hpl hsm) ?kB F3 ?kX N4 ?kT ?kk ?kd ?ku ?_; (case kB => k_asm); (case kX => k_asm); (case kT => k_asm); (case kk => first | exact rfl | assumption); (case kd => ktr_room); (case ku => ktr_units); k_whole)
    intro r9 nw9 h9 tk9 F9 N9 hPz26
    obtain ⟨lk, vk, nk, e9, hvk, hlk, e9'⟩ := hPz26
    subst e9'; subst e9
    dsimp only
    clear F3 N4
    k_steps
    unfold StopW
    (rename Fr _ _ _ _ => F3); (rename News _ _ _ _ => N4)
    have N5 := news_e N4 m65
    have hk4 : (@LT.lt Nat _ _ lk) := hlk _ (.tail _ (.tail _ (.tail _ (.tail _ (.head _)))))
    dsimp only at hk4
    clear N4 hlk OT2 e65
    obtain ⟨mF, F4⟩ := fr_forget [(Str.ofString "kept", Value.ref lk)] F3 (all1 rfl)
    (try clear F3); (try clear F8); (try clear N7)
    k_dflt (refine' LStep.use (front_loop _ _ _ _ _ _ _ mF _ lk Dpl oP vk vp nk np (keptS ps 5).1 ps (.tail _ (.head _)) hvk (.tail _ (.tail _ (.head _))) hvp (.tail _ (.tail _ (.tail _ (.head _)))) dP (kept_up hsm hpl).1 hpl hsm (kept_up hsm hpl).2 (fun f hf => front_law hsm hpl hf)) ?fB ?fX ?fT F4 N5 ?_; (case fB => k_asm); (case fX => k_asm); (case fT => k_asm); k_whole)
    intro m3 nw3 h3 tk3 F5 N6 hPz27
    obtain ⟨e5, hF5⟩ := hPz27
    subst e5
    have g1 : m3 (Str.ofString "kept") = some (.ref lk) := hF5.get (fun _ h => nomatch h) (by decide +kernel)
    obtain ⟨mG, F6⟩ := fr_forget [(Str.ofString "kept", Value.ref lk)] F5 (all1 g1)
    clear F5 hF5 g1 F4 N5
    k_steps
    unfold StopW
    rename_i D0 _ lD _ F7 N7
    have hx0 : IntsAre [Value.int 0 tk3, Value.int 1 (tk3 + 1), Value.int 2 (tk3 + 1 + 1), Value.int 3 (tk3 + 1 + 1 + 1), Value.int 4 (tk3 + 1 + 1 + 1 + 1)] [0, 1, 2, 3, 4] := .cons _ _ (.cons _ _ (.cons _ _ (.cons _ _ (.cons _ _ .nil))))
    generalize hv0 : [Value.int 0 tk3, Value.int 1 (tk3 + 1), Value.int 2 (tk3 + 1 + 1), Value.int 3 (tk3 + 1 + 1 + 1), Value.int 4 (tk3 + 1 + 1 + 1 + 1)] = v0 at N7 hx0
    clear hv0
    k_dflt (refine' Tell.use (most_call _ _ _ _ _ _ Dpl vp ps np (.tail _ (.tail _ (.tail _ (.head _)))) hvp (Nat.le_of_eq hpl) hsm) ?oB F7 ?oX N7 ?oT ?ok ?od ?ou ?_; (case oB => k_asm); (case oX => k_asm); (case oT => k_asm); (case ok => first | exact rfl | assumption); (case od => ktr_room); (case ou => ktr_units); k_whole)
    intro r9 nw9 h9 tk9 F9 N9 hPz28
    obtain ⟨e9, t9, e9'⟩ := hPz28
    subst e9'; subst e9
    dsimp only
    clear F7 N7
    k_steps
    unfold StopW
    (rename Fr _ _ _ _ => F3); (rename News _ _ _ _ => N4)
    obtain ⟨mH, F8⟩ := fr_forget [(Str.ofString "left", Value.ref D0), (Str.ofString "most", .int (mostF ps) t9), (Str.ofString "kept", .ref lk)] F3 (all3 rfl rfl rfl)
    have N5 := news_f N4
    clear F3 N4
    k_dflt (refine' LStep.use (place_loop _ _ _ _ _ _ _ (kstB mH [(Str.ofString "kept", .ref lk)]) [(lk, listOf vk.toArray nk), (Dpl, listOf vp.toArray np), (_, oP), (65, tabObj pt)] D0 Dpl _ oP _ v0 vp 0 np ps t9 ?dl ?oc lD.1 hx0 (.tail _ (.head _)) hvp (.tail _ (.tail _ (.head _))) dP hpl hsm) ?qB ?qX ?qT F8 N5 ?_; (case dl => assumption); (case oc => exact ownOff1 (offC (by omega) (offC (by omega) (offC (by omega) (offC (by omega) fun _ h => nomatch h))))); (case qB => k_asm); (case qX => k_asm); (case qT => k_asm); k_whole)
    intro m4 nw4 h4 tk4 F5 N6 hPz29
    obtain ⟨Dl, vl, nl, hml, hmC, hvl, hF5⟩ := hPz29
    rw [left_law hsm hpl] at hvl
    have g1 : m4 (Str.ofString "left") = some (.ref Dl) := hF5.1 _ (.head _)
    have g2 : m4 (Str.ofString "kept") = some (.ref lk) := hF5.get (all1 (show Str.ofString "kept" ≠ Str.ofString "left" by decide +kernel)) (by decide +kernel)
    obtain ⟨mI, F6⟩ := fr_forget [(Str.ofString "left", Value.ref Dl), (Str.ofString "kept", .ref lk)] F5 (all2 g1 g2)
    have hkl := hmC _ (.head _)
    have hm65 := hmC _ (.tail _ (.tail _ (.tail _ (.head _))))
    clear F5 hF5 g1 g2 F8 N5 hmC
    k_steps
    unfold StopW
    (rename News _ _ _ _ => N7)
    k_dflt (refine' eq_same N7 hml hvl hkl hvk ?u ?_; (case u => ktr_units); k_whole)
    dsimp only
    refine ⟨?_, GrownAt.of N7 hm65, trivial⟩
    kc_close

end Mine
end

theorem PySem.Challenge.cw_re0072_01_holds : PySem.Challenge.rw_re0072_01.Holds :=
  Mine.law_walk
