import PyProof.Rows.All
import Wide.All
import OpenK.AllK
import Wide.FinOn
import PySem.Challenge.RW_wn0009_01
open PySem PySem.W PyProof.Rows
set_option Elab.async false
set_option maxRecDepth 100000
set_option maxHeartbeats 8000000
set_option linter.unusedVariables false
namespace Mine
open_top hd for PySem.Challenge.rw_wn0009_01
end Mine
namespace Mine
open PySem.Calls

/-! tokens never go back -/
theorem runs_toks {M : Model} {Γ : Ctx} {p : Pos} {t : Sem PySem.Fin} {fs : List Frame} {s s' : Shared} {e : End} (h : Runs M Γ p t fs s e s') : s.toks ≤ s'.toks := by
  induction h <;> first
    | exact Nat.le_refl _
    | assumption
    | (rename_i ih; exact Nat.le_of_succ_le ih)
    | (rename_i ih1 ih2; exact Nat.le_trans ih1 ih2)

theorem wp_toks {α : Type} {M : Model} {Γ : Ctx} {n : Nat} (t : Sem α) {Q : α → Pos → Shared → Prop} {E : Value → Pos → Shared → Prop} : ∀ {p : Pos} {s : Shared}, n ≤ s.toks →
    Sem.wp M Γ t Q E p s → Sem.wp M Γ t (fun a p s' => Q a p s' ∧ n ≤ s'.toks) (fun e p s' => E e p s' ∧ n ≤ s'.toks) p s := by
  induction t with
  | pure x => exact fun hn h => ⟨h, hn⟩
  | raise v => exact fun hn h => ⟨h, hn⟩
  | unsupported | finish | yield | fork | await | register => exact fun _ h => h
  | rule _ k ih | «at» _ k ih | alloc _ k ih | loadIfAlive _ k ih | point _ k ih | ask k ih | os _ _ k ih | handled _ k ih | newGen _ k ih | stack k ih | thread k ih => exact fun hn h => ih _ hn h
  | fresh k ih => exact fun hn h => ih _ (Nat.le_succ_of_le hn) h
  | load a _ k ih | genState a k ih => exact fun hn ⟨o, ho, h⟩ => ⟨o, ho, ih _ hn h⟩
  | update a _ f k ih | choose _ _ k ih => exact fun hn ⟨ha, h⟩ => ⟨ha, ih _ hn h⟩
  | call c h g l k ih => exact fun hn ⟨r, s', hr, h⟩ => ⟨r, s', hr, ih r (Nat.le_trans hn (runs_toks hr)) h⟩
  | resume g r l k ih =>
    intro p s hn ⟨res, s', hw, h⟩
    refine ⟨res, s', hw, ih res (Nat.le_trans hn ?_) h⟩
    unfold Wakes at hw
    split at hw
    · exact hw.elim
    · split at hw
      · obtain ⟨e₁, s₁, hr, _, _, rfl⟩ := hw; have hh := runs_toks hr; exact hh
      · obtain ⟨_, rfl⟩ := hw; exact Nat.le_refl _
      · obtain ⟨_, rfl⟩ := hw; exact Nat.le_refl _
    · obtain ⟨e₁, s₁, hr, _, _, rfl⟩ := hw; have hh := runs_toks hr; exact hh
    · obtain ⟨_, rfl⟩ := hw; exact Nat.le_refl _
    · obtain ⟨_, rfl⟩ := hw; exact Nat.le_refl _

theorem any_toks {α : Type} {M : Model} {A : Around} {t : Sem α} {Q : α → Shared → Prop} {E : Value → Shared → Prop} {s : Shared} (h : wpAny M A t Q E s) :
    wpAny M A t (fun a s' => Q a s' ∧ s.toks ≤ s'.toks) E s :=
  fun Γ p hΓ => Sem.wp_mono M Γ t (fun _ _ _ h => h) (fun _ _ _ h => h.1) p s (wp_toks t (Nat.le_refl _) (h Γ p hΓ))

/-! texts as lists of codes -/
def T (l : List Nat) : Str := ⟨l.toArray⟩
theorem T_len (l : List Nat) : (T l).length = l.length := by simp [T, Str.length]
theorem T_inj {a b : List Nat} : T a = T b ↔ a = b := by
  constructor
  · intro h; have := congrArg (fun x : Str => x.cps.toList) h; simpa [T] using this
  · rintro rfl; rfl
theorem T_beq (a b : List Nat) : (T a == T b) = decide (a = b) := by
  by_cases h : a = b
  · subst h; simp
  · simp [h, T_inj]
theorem T_append (a b : List Nat) : T a ++ T b = T (a ++ b) := by
  show Str.append (T a) (T b) = _
  simp [Str.append, T]
theorem T_of (x : Str) : x = T x.cps.toList := by cases x; simp [T]

section
variable {prog : Program} {w : World} {A : Around} {E : Value → Shared → Prop} {s : Shared} {value slice : PySem.Expr} {x y z : Str} {t u v : Tok} {Q : Value → Shared → Prop}

theorem add_T (c : Str) (hc : x ++ y = c) (hsz : c.length ≤ 1000) (h : ∀ t' tk, s.toks ≤ tk → Q (.str c t') { s with toks := tk }) :
    wpAny (model prog w) A (binaryOp .Add (.str x t) (.str y u)) Q E s := by
  have hl : x.length + y.length ≤ sizeLine := by
    have : (x ++ y).length = x.length + y.length := by show (Str.append x y).length = _; simp [Str.append, Str.length]
    rw [← this, hc, sizeLine_eq]; omega
  refine wpAny_mono (any_toks (PyProof.Rows.add_str (Q := fun v s' => ∃ t' tk, v = .str c t' ∧ s' = { s with toks := tk }) (fun t' tk => ⟨t', tk, by rw [hc], rfl⟩) hl)) ?_ (fun _ _ h => h)
  rintro v s' ⟨⟨t', tk, rfl, rfl⟩, hk⟩
  exact h t' tk hk

theorem eq_T {b : Bool} (hb : (x == y) = b) (h : Q (.bool b) s) : wpAny (model prog w) A (compareOp .Eq (.str x t) (.str y u)) Q E s := PyProof.Rows.eq_str (by rw [hb]; exact h)
theorem ne_T {b : Bool} (hb : (x == y) = b) (h : Q (.bool !b) s) : wpAny (model prog w) A (compareOp .NotEq (.str x t) (.str y u)) Q E s :=
  PyProof.Rows.ne_str (by rw [show (x != y) = !b from by rw [← hb]; rfl]; exact h)

theorem item_T {l : List Nat} {i : Int} (c : Nat) (h0 : 0 ≤ i) (hn : l[i.toNat]? = some c) (hz : l.length ≤ 1000) (h : Q (.str (T [c]) s.toks) { s with toks := s.toks + 1 })
    (hs : subscripted slice false (.str (T l) t) (.int i u) = operate [.str (T l) t, .int i u] (getItem (.str (T l) t) (.int i u)) := by with_unfolding_all rfl)
    (ht : ∀ r, letTemporaryGo value (.str (T l) t) r = pure () := by intro _; with_unfolding_all rfl) :
    wpAny (model prog w) A (subscriptTail value slice (.str (T l) t) (.int i u)) Q E s := by
  have hlt : i.toNat < l.length := by
    by_cases hh : i.toNat < l.length
    · exact hh
    · rw [List.getElem?_eq_none (by omega)] at hn; cases hn
  have e : Txt.item (T l) i = T [c] := item_meets h0 (by simpa [T] using hn)
  exact item_str (fitsSsize_of (N := 9223372036854775808) (by omega) (by omega) (Int.le_refl _)) (by rw [T_len]; omega) (by rw [T_len]; omega) (fun _ => by rw [e]; exact h) hs ht

theorem len_T {l : List Nat} {n : Int} (hn : (l.length : Int) = n) (hz : l.length ≤ 1000) (h : Q (.int n (s.toks + 1)) { s with toks := s.toks + 1 + 1 }) : wpAny (model prog w) A (call (.builtin "len") [.str (T l) t]) Q E s :=
  PyProof.Rows.len_str (by rw [T_len]; omega) (by rw [T_len, hn]; exact h)
end

theorem len_app (x y : Str) : (x ++ y).length = x.length + y.length := by show (Str.append x y).length = _; simp [Str.append, Str.length]

/-! replace of one sign by another -/
def swap (a b : Nat) (l : List Nat) : List Nat := l.map fun k => if k = a then b else k
theorem swap_app (a b : Nat) (l r : List Nat) : swap a b (l ++ r) = swap a b l ++ swap a b r := List.map_append
theorem swap_free (a b : Nat) : ∀ l : List Nat, a ∉ l → swap a b l = l
  | [], _ => rfl
  | k :: r, h => by
    have h1 : ¬ k = a := fun e => h (e ▸ List.mem_cons_self ..)
    have h2 : a ∉ r := fun m => h (List.mem_cons_of_mem _ m)
    show (if k = a then b else k) :: swap a b r = k :: r
    rw [if_neg h1, swap_free a b r h2]
theorem swap_rep (a b n : Nat) : swap a b (List.replicate n a) = List.replicate n b := by simp [swap]
theorem swap_join (a b : Nat) : ∀ parts : List Str, (∀ p ∈ parts, a ∉ p.cps.toList) → swap a b (Str.join ⟨#[a]⟩ parts).cps.toList = (Str.join ⟨#[b]⟩ parts).cps.toList
  | [], _ => rfl
  | [p], h => swap_free a b _ (h p (List.mem_singleton.mpr rfl))
  | p :: q :: r, h => by
    have ih := swap_join a b (q :: r) fun x hx => h x (List.mem_cons_of_mem _ hx)
    show swap a b (p ++ ⟨#[a]⟩ ++ Str.join ⟨#[a]⟩ (q :: r)).cps.toList = (p ++ ⟨#[b]⟩ ++ Str.join ⟨#[b]⟩ (q :: r)).cps.toList
    simp only [Str.cps_append, Array.toList_append]
    rw [swap_app, swap_app, ih, swap_free a b _ (h p (List.mem_cons_self ..))]
    show p.cps.toList ++ swap a b [a] ++ _ = _
    simp [swap]
theorem replace_T (l : List Nat) (a b : Nat) : Txt.replace (T l) (T [a]) (T [b]) = T (swap a b l) := by
  have h : (Txt.replace (T l) ⟨#[a]⟩ ⟨#[b]⟩).cps.toList = swap a b (T l).cps.toList := by
    rw [StrLaws.replace_one, ← swap_join a b _ (StrLaws.split_free (T l) a), StrLaws.join_split]
  rw [T_of (Txt.replace (T l) (T [a]) (T [b])), show (T [a] : Str) = ⟨#[a]⟩ from rfl, show (T [b] : Str) = ⟨#[b]⟩ from rfl, h]
  simp [T]

section
variable {prog : Program} {w : World} {A : Around} {E : Value → Shared → Prop} {s : Shared} {value slice : PySem.Expr} {x y z : Str} {t u v : Tok} {Q : Value → Shared → Prop}

theorem rep_T {l : List Nat} {a b u v : Nat} (c : List Nat) (hy : y = T [a]) (hz : z = T [b]) (hc : swap a b l = c) (hab : a ≠ b) (hl : l.length ≤ 1000) (hu : 1 ≤ u) (huv : u + 1 ≤ v)
    (h : ∀ t' tk, s.toks ≤ tk → Q (.str (T c) t') { s with toks := tk }) :
    wpAny (model prog w) A (call (.builtin "str.replace") [.str (T l) t, .str y u, .str z v]) Q E s := by
  subst hy hz
  refine wpAny_mono (any_toks (SC.replaceW (Q := fun v s' => ∃ t' tk, v = .str (T c) t' ∧ s' = { s with toks := tk }) (Nat.ne_of_gt hu) (Nat.ne_of_gt (Nat.lt_of_lt_of_le (Nat.succ_pos u) huv)) (Nat.ne_of_lt huv) ?_ (by rw [T_len]; omega) (by rw [T_len]; simp)
    (fun t' tk => ⟨t', tk, by rw [replace_T, hc], rfl⟩))) ?_ (fun _ _ h => h)
  · rw [T_beq]; simpa using hab
  · rintro v s' ⟨⟨t', tk, rfl, rfl⟩, hk⟩
    exact h t' tk hk

theorem mul_T {l : List Nat} {n : Int} (c : List Nat) (hc : (List.replicate n.toNat l).flatten = c) (h0 : 0 ≤ n) (h1 : n ≤ 1000) (hl : l.length = 1) (h : ∀ t' tk, s.toks ≤ tk → Q (.str (T c) t') { s with toks := tk }) :
    wpAny (model prog w) A (binaryOp .Mult (.str (T l) t) (.int n u)) Q E s := by
  have e : Txt.mul (T l) n = T c := by
    have fl : ∀ (k : Nat) (acc : Array Nat), ((List.replicate k l.toArray).foldl (· ++ ·) acc).toList = acc.toList ++ (List.replicate k l).flatten := by
      intro k
      induction k with
      | zero => intro acc; simp
      | succ k ih => intro acc; rw [List.replicate_succ, List.foldl_cons, ih]; simp [List.replicate_succ]
    unfold Txt.mul
    rw [← hc]
    by_cases hn : n < 1
    · rw [if_pos hn, show n.toNat = 0 by omega]; rfl
    · rw [if_neg hn]
      by_cases h2 : n = 1
      · subst h2; rw [if_pos (by simp)]; simp
      · rw [if_neg (by simp [h2, T_len, hl])]
        rw [T_of ⟨_⟩]
        congr 1
        show ((List.replicate n.toNat l.toArray).foldl (· ++ ·) #[]).toList = _
        rw [fl]; simp
  refine wpAny_mono (any_toks (SB.mul (Q := fun v s' => ∃ t' tk, v = .str (T c) t' ∧ s' = { s with toks := tk }) (mulOk_of 1 1000 (by rw [T_len]; omega) h1 (by omega) (by decide) (by decide)) (fun t' tk => ⟨t', tk, by rw [e], rfl⟩))) ?_ (fun _ _ h => h)
  rintro v s' ⟨⟨t', tk, rfl, rfl⟩, hk⟩
  exact h t' tk hk

theorem slice_to (l : List Nat) (k : Nat) (h : k ≤ l.length) : Txt.slice (T l) none (some (k : Int)) = T (l.take k) := by
  show StrLaws.sliceText (T l) none (some (k : Int)) = _
  rw [StrLaws.sliceText_to ⟨by omega, by simp [T]; omega⟩]
  simp [T]
theorem slice_run (l : List Nat) (i k : Nat) (hi : i ≤ k) (h : k ≤ l.length) : Txt.slice (T l) (some (i : Int)) (some (k : Int)) = T ((l.drop i).take (k - i)) := by
  show StrLaws.sliceText (T l) (some (i : Int)) (some (k : Int)) = _
  rw [StrLaws.sliceText_plain ⟨by omega, by omega, by simp [T]; omega⟩]
  simp [T]
theorem slice_last (l : List Nat) : Txt.slice (T l) (some (-1)) none = T (l.drop (l.length - 1)) := by
  show StrLaws.sliceText (T l) (some (-1)) none = _
  by_cases h : l = []
  · subst h; rfl
  · have hl : 1 ≤ l.length := by cases l with
      | nil => exact absurd rfl h
      | cons a r => simp
    rw [StrLaws.sliceText_from_neg (by omega) (by rw [T_len]; omega)]
    rw [T_len]
    simp only [T]
    rw [show (-1 + (l.length : Int)).toNat = l.length - 1 by omega, show ((l.length : Int) - (-1 + (l.length : Int))).toNat = 1 by omega]
    rw [List.take_of_length_le (by rw [List.length_drop]; omega)]
end

section
variable {prog : Program} {w : World} {A : Around} {E : Value → Shared → Prop} {s : Shared} {value slice : PySem.Expr} {t u v : Tok} {Q : Value → Shared → Prop} {h₀ : Heap} {L : Addr} {m : Str → Option Value} {news : List (Addr × Obj)}
theorem slice_ss_T {l : List Nat} {i j : Int} {ui uj : Tok} (a b : Nat) (c : List Nat) (F : Fr h₀ L s.heap m) (N : News h₀ L s.heap news) (hi : i = (a : Int)) (hj : j = (b : Int)) (hab : a ≤ b) (hb : b ≤ l.length) (hc : (l.drop a).take (b - a) = c) (hl : l.length ≤ 1000)
    (h : ∀ h' t' k, Fr h₀ L h' m → News h₀ L h' news → Q (.str (T c) t') { s with heap := h', toks := k })
    (hs : subscripted slice false (.str (T l) t) (.ref s.heap.objs.size) = operate [.ref s.heap.objs.size, .str (T l) t] (getItem (.str (T l) t) (.ref s.heap.objs.size)) := by with_unfolding_all rfl)
    (ht : ∀ r, letTemporaryGo value (.str (T l) t) r = pure () := by intro _; with_unfolding_all rfl) :
    wpAny (model prog w) A (subscriptTail value slice (.str (T l) t) (.ref s.heap.objs.size)) Q E { s with heap := s.heap.push { cls := .type "slice", data := .fields #[.int i ui, .int j uj, .none] } } := by
  subst hi hj hc
  exact slice_strN_ss F N (fun h' t' k f n => by rw [slice_run l a b hab hb]; exact h h' t' k f n) hs ht (by rw [T_len, sizeLine_eq]; omega)
theorem slice_ns_T {l : List Nat} {j : Int} {uj : Tok} (b : Nat) (c : List Nat) (F : Fr h₀ L s.heap m) (N : News h₀ L s.heap news) (hj : j = (b : Int)) (hb : b ≤ l.length) (hc : l.take b = c) (hl : l.length ≤ 1000)
    (h : ∀ h' t' k, Fr h₀ L h' m → News h₀ L h' news → Q (.str (T c) t') { s with heap := h', toks := k })
    (hs : subscripted slice false (.str (T l) t) (.ref s.heap.objs.size) = operate [.ref s.heap.objs.size, .str (T l) t] (getItem (.str (T l) t) (.ref s.heap.objs.size)) := by with_unfolding_all rfl)
    (ht : ∀ r, letTemporaryGo value (.str (T l) t) r = pure () := by intro _; with_unfolding_all rfl) :
    wpAny (model prog w) A (subscriptTail value slice (.str (T l) t) (.ref s.heap.objs.size)) Q E { s with heap := s.heap.push { cls := .type "slice", data := .fields #[.none, .int j uj, .none] } } := by
  subst hj hc
  exact slice_strN_ns F N (fun h' t' k f n => by rw [slice_to l b hb]; exact h h' t' k f n) hs ht (by rw [T_len, sizeLine_eq]; omega)
theorem slice_last_T {l : List Nat} {ui : Tok} (c : List Nat) (F : Fr h₀ L s.heap m) (N : News h₀ L s.heap news) (hc : l.drop (l.length - 1) = c) (hl : l.length ≤ 1000)
    (h : ∀ h' t' k, Fr h₀ L h' m → News h₀ L h' news → Q (.str (T c) t') { s with heap := h', toks := k })
    (hs : subscripted slice false (.str (T l) t) (.ref s.heap.objs.size) = operate [.ref s.heap.objs.size, .str (T l) t] (getItem (.str (T l) t) (.ref s.heap.objs.size)) := by with_unfolding_all rfl)
    (ht : ∀ r, letTemporaryGo value (.str (T l) t) r = pure () := by intro _; with_unfolding_all rfl) :
    wpAny (model prog w) A (subscriptTail value slice (.str (T l) t) (.ref s.heap.objs.size)) Q E { s with heap := s.heap.push { cls := .type "slice", data := .fields #[.int (-1) ui, .none, .none] } } := by
  subst hc
  exact slice_strN_sn F N (fun h' t' k f n => by rw [slice_last l]; exact h h' t' k f n) hs ht (by rw [T_len, sizeLine_eq]; omega)
end
end Mine
namespace Mine
noncomputable abbrev lo : List Str := looseW hd.view_39 [Str.ofString "_twin_re_1", Str.ofString "_twin_re_2"]

/-- what a call of the def at f gives back -/
abbrev Says (w : World) (mean : ExcName → Option Value) (mg mb : Str → Option Value) (f : Addr) (vs : List Value) (d u : Nat) (R : Value → List (Addr × Obj) → Prop) : Prop :=
  ∀ (dp un : Nat) (gd : Option (List Code)) (cn : Str) (cs : Scope) (a : Addr) (ccd : Value) (cl : List (Str × Addr)) (outer : List Env) (A₀ : Around) (base h₀ : Heap) (L : Addr) (m : Str → Option Value) (news : List (Addr × Obj)) (s : Shared) (Q E : Value → Shared → Prop),
    Below A₀ base outer h₀ → Fr h₀ L s.heap m → (hd.heap_39 w.params).In h₀ → News h₀ L s.heap news → Top hd.view_39 lo mean mg mb h₀ → cs.kind = .function →
    dp + d < recursionLimit → un + u < cLine →
    (∀ r tl h' tk', s.toks ≤ tk' → Fr h₀ L h' m → News h₀ L h' (tl ++ news) → R r tl → Q r { s with heap := h', toks := tk' }) →
    wpAny (model Challenge.rw_wn0009_01.row.prog w) (ktrTop dp un gd cn cs L a ccd cl outer) (call (.ref f) vs) Q E s
/-- the same, no word of the tokens -/
abbrev Says0 (w : World) (mean : ExcName → Option Value) (mg mb : Str → Option Value) (f : Addr) (vs : List Value) (d u : Nat) (R : Value → List (Addr × Obj) → Prop) : Prop :=
  ∀ (dp un : Nat) (gd : Option (List Code)) (cn : Str) (cs : Scope) (a : Addr) (ccd : Value) (cl : List (Str × Addr)) (outer : List Env) (A₀ : Around) (base h₀ : Heap) (L : Addr) (m : Str → Option Value) (news : List (Addr × Obj)) (s : Shared) (Q E : Value → Shared → Prop),
    Below A₀ base outer h₀ → Fr h₀ L s.heap m → (hd.heap_39 w.params).In h₀ → News h₀ L s.heap news → Top hd.view_39 lo mean mg mb h₀ → cs.kind = .function →
    dp + d < recursionLimit → un + u < cLine →
    (∀ r tl h' tk', Fr h₀ L h' m → News h₀ L h' (tl ++ news) → R r tl → Q r { s with heap := h', toks := tk' }) →
    wpAny (model Challenge.rw_wn0009_01.row.prog w) (ktrTop dp un gd cn cs L a ccd cl outer) (call (.ref f) vs) Q E s

theorem says_of {w : World} {mean : ExcName → Option Value} {mg mb : Str → Option Value} {f : Addr} {vs : List Value} {d u : Nat} {R : Value → List (Addr × Obj) → Prop} (h : Says0 w mean mg mb f vs d u R) : Says w mean mg mb f vs d u R := by
  intro dp un gd cn cs a ccd cl outer A₀ base h₀ L m news s Q E B F X N T hk hroom hu hret
  refine wpAny_mono (any_toks (h dp un gd cn cs a ccd cl outer A₀ base h₀ L m news s (fun r s' => ∃ tl h' tk', s' = { s with heap := h', toks := tk' } ∧ Fr h₀ L h' m ∧ News h₀ L h' (tl ++ news) ∧ R r tl) E B F X N T hk hroom hu
    (fun r tl h' tk' a b c => ⟨tl, h', tk', rfl, a, b, c⟩))) ?_ (fun _ _ h => h)
  rintro r s' ⟨⟨tl, h', tk', rfl, a, b, c⟩, hk⟩
  exact hret r tl h' tk' hk a b c

theorem use_says {w : World} {mean : ExcName → Option Value} {mg mb : Str → Option Value} {f : Addr} {vs : List Value} {d u : Nat} {R : Value → List (Addr × Obj) → Prop} (H : Says w mean mg mb f vs d u R)
    {dp un : Nat} {gd : Option (List Code)} {cn : Str} {cs : Scope} {a : Addr} {ccd : Value} {cl : List (Str × Addr)} {outer : List Env} {A₀ : Around} {base h₀ : Heap} {L : Addr} {m : Str → Option Value} {news : List (Addr × Obj)} {s : Shared} {Q E : Value → Shared → Prop}
    (B : Below A₀ base outer h₀) (F : Fr h₀ L s.heap m) (X : (hd.heap_39 w.params).In h₀) (N : News h₀ L s.heap news) (T : Top hd.view_39 lo mean mg mb h₀) (hk : cs.kind = .function)
    (hd : dp + d < recursionLimit) (hu : un + u < cLine)
    (hret : ∀ r tl h' tk', s.toks ≤ tk' → Fr h₀ L h' m → News h₀ L h' (tl ++ news) → R r tl → Q r { s with heap := h', toks := tk' }) :
    wpAny (model Challenge.rw_wn0009_01.row.prog w) (ktrTop dp un gd cn cs L a ccd cl outer) (call (.ref f) vs) Q E s :=
  H dp un gd cn cs a ccd cl outer A₀ base h₀ L m news s Q E B F X N T hk hd hu hret

/-- a text comes back and nothing is left -/
def RS (x : Str) (r : Value) (tl : List (Addr × Obj)) : Prop := tl = [] ∧ ∃ t, r = .str x t
theorem use_str {w : World} {mean : ExcName → Option Value} {mg mb : Str → Option Value} {f : Addr} {vs : List Value} {d u : Nat} {x : Str} (H : Says w mean mg mb f vs d u (RS x))
    {dp un : Nat} {gd : Option (List Code)} {cn : Str} {cs : Scope} {a : Addr} {ccd : Value} {cl : List (Str × Addr)} {outer : List Env} {A₀ : Around} {base h₀ : Heap} {L : Addr} {m : Str → Option Value} {news : List (Addr × Obj)} {s : Shared} {Q E : Value → Shared → Prop}
    (B : Below A₀ base outer h₀) (F : Fr h₀ L s.heap m) (X : (hd.heap_39 w.params).In h₀) (N : News h₀ L s.heap news) (T : Top hd.view_39 lo mean mg mb h₀) (hk : cs.kind = .function)
    (hd : dp + d < recursionLimit) (hu : un + u < cLine)
    (hret : ∀ t h' tk', s.toks ≤ tk' → Fr h₀ L h' m → News h₀ L h' news → Q (.str x t) { s with heap := h', toks := tk' }) :
    wpAny (model Challenge.rw_wn0009_01.row.prog w) (ktrTop dp un gd cn cs L a ccd cl outer) (call (.ref f) vs) Q E s := by
  refine use_says H B F X N T hk hd hu ?_
  rintro r tl h' tk' ht F' N' ⟨rfl, t, rfl⟩
  exact hret t h' tk' ht F' N'

/-- a place where the walk is to stop -/
def Stop (P : Prop) : Prop := P
theorem Stop.mk {P : Prop} (h : Stop P) : P := h

def tx (k n c : Nat) : Str := T (List.replicate n k ++ [c])
def rp (k n : Nat) : Str := T (List.replicate n k)

theorem gentk {α : Type} {M : Model} {A : Around} {t : Sem α} {Q : α → Shared → Prop} {E : Value → Shared → Prop} {s : Shared} (hx : 1 ≤ s.toks) (k : ∀ tk, 1 ≤ tk → wpAny M A t Q E { s with toks := tk }) : wpAny M A t Q E s := k s.toks hx

/-! texts: n copies of a sign and one more -/
theorem lit_sp : Str.ofString " " = T [32] := by decide
theorem lit_dot : Str.ofString "." = T [46] := by decide
theorem lit_quo : Str.ofString "\"" = T [34] := by decide
theorem beq_lit {x y : Str} {a b : List Nat} {r : Bool} (hx : x = T a) (hy : y = T b) (h : decide (a = b) = r) : (x == y) = r := by subst hx hy; rw [T_beq, h]
theorem tx_len (k n c : Nat) : (List.replicate n k ++ [c]).length = n + 1 := by simp
theorem tx_at {k n c i : Nat} (h : i < n) : (List.replicate n k ++ [c])[i]? = some k := by
  rw [List.getElem?_append_left (by simpa using h)]; simp [h]
theorem tx_last {k n c : Nat} : (List.replicate n k ++ [c])[n]? = some c := by
  rw [List.getElem?_append_right (by simp)]; simp
theorem tx_tail {k n c : Nat} (h : 1 ≤ n) : ((List.replicate n k ++ [c]).drop 1).take (n + 1 - 1) = List.replicate (n - 1) k ++ [c] := by
  obtain ⟨q, rfl⟩ : ∃ q, n = q + 1 := ⟨n - 1, by omega⟩
  simp [List.replicate_succ]
  exact List.take_of_length_le (by simp)
theorem rp_tx (k n : Nat) : tx k n k = rp k (n + 1) := by
  show T _ = T _
  rw [← List.replicate_succ']
theorem lit_nil (k : Nat) : Str.ofString "" = rp k 0 := (by decide : Str.ofString "" = T [])
section
variable {prog : Program} {w : World} {A : Around} {E : Value → Shared → Prop} {s : Shared} {t u v : Tok} {Q : Value → Shared → Prop}
theorem add_rp {k n c : Nat} (hn : n ≤ 100) (h : ∀ t' tk, s.toks ≤ tk → Q (.str (tx k n c) t') { s with toks := tk }) : wpAny (model prog w) A (binaryOp .Add (.str (rp k n) t) (.str (T [c]) u)) Q E s :=
  add_T (tx k n c) (T_append _ _) (by rw [tx, T_len, tx_len]; omega) h
end
end Mine
namespace Mine

local macro_rules | `(tactic| walk_at "exec While BoolOp cons nil") => `(tactic| (k_here; k_dflt (refine whl_start 100 ?_)))
local macro_rules | `(tactic| walk_at "subscriptTail Name Name str int") => `(tactic| (k_here; refine item_T (l := List.replicate _ _ ++ [_]) _ (by decide) (tx_at (by assumption)) (by rw [tx_len]; omega) ?_))
local macro_rules | `(tactic| walk_at "compareOp Eq str str") => `(tactic| (k_here; refine eq_T (b := true) (beq_lit rfl lit_sp rfl) ?_))
local macro_rules | `(tactic| walk_at "call builtin:len") => `(tactic| (k_here; refine len_T (n := (_ : Nat)) rfl (by rw [tx_len]; omega) ?_))
section
variable {prog : Program} {w : World} {A : Around} {E : Value → Shared → Prop} {s : Shared} {value slice : PySem.Expr} {t u v : Tok} {Q : Value → Shared → Prop} {h₀ : Heap} {L : Addr} {m : Str → Option Value} {news : List (Addr × Obj)}
theorem slice_tx {n k c : Nat} {i j : Int} {ui uj : Tok} (hn : 0 < n) (hn2 : n ≤ 100) (F : Fr h₀ L s.heap m) (N : News h₀ L s.heap news) (hi : i = 1) (hj : j = ((List.replicate n k ++ [c]).length : Nat))
    (h : ∀ h' t' k', Fr h₀ L h' m → News h₀ L h' news → Q (.str (tx k (n - 1) c) t') { s with heap := h', toks := k' })
    (hs : subscripted slice false (.str (tx k n c) t) (.ref s.heap.objs.size) = operate [.ref s.heap.objs.size, .str (tx k n c) t] (getItem (.str (tx k n c) t) (.ref s.heap.objs.size)) := by with_unfolding_all rfl)
    (ht : ∀ r, letTemporaryGo value (.str (tx k n c) t) r = pure () := by intro _; with_unfolding_all rfl) :
    wpAny (model prog w) A (subscriptTail value slice (.str (tx k n c) t) (.ref s.heap.objs.size)) Q E { s with heap := s.heap.push { cls := .type "slice", data := .fields #[.int i ui, .int j uj, .none] } } :=
  slice_ss_T 1 (n + 1) _ F N hi (by rw [hj, tx_len]) (by omega) (by rw [tx_len]; omega) (tx_tail hn) (by rw [tx_len]; omega) h hs ht
end
local macro_rules | `(tactic| walk_at "subscriptTail Name Slice str ref") => `(tactic| (k_here; (with_reducible rename Fr _ _ _ _ => F'); (with_reducible rename News _ _ _ _ => N'); refine slice_tx (s := ⟨_, _, _, _, _⟩) (by assumption) (by assumption) F' N' (by decide) (by omega) ?_; intro _ _ _ _ _))

theorem strip_says0 (w : World) (mean mg mb) (n c : Nat) (t t' : Tok) (hn : 0 < n) (hn2 : n ≤ 100) :
    Says0 w mean mg mb 70 [.str (tx 32 n c) t, .int 1 t'] 2 20 (RS (tx 32 (n - 1) c)) := by
  unfold Says0
  k_fill
  intro dp un gd cn cs a ccd cl outer A₀ base h₀ L m news s Q E B F X N T hk hroom hu hret
  refine wpAny_call ?_
  k_dflt cell_enter
  k_steps
  exact hret _ [] _ _ (by k_asm) (by k_asm) ⟨rfl, _, rfl⟩
end Mine
namespace Mine

theorem strip_says (w : World) (mean mg mb) (n c : Nat) (t t' : Tok) (hn : 0 < n) (hn2 : n ≤ 100) :
    Says w mean mg mb 70 [.str (tx 32 n c) t, .int 1 t'] 2 20 (RS (tx 32 (n - 1) c)) := says_of (strip_says0 w mean mg mb n c t t' hn hn2)

theorem swap_tx {a b n c : Nat} (h : c ≠ a) : swap a b (List.replicate n a ++ [c]) = List.replicate n b ++ [c] := by
  rw [swap_app, swap_rep, swap_free a b [c] (by simp; exact fun e => h e.symm)]
local macro_rules | `(tactic| walk_at "call builtin:str.replace") => `(tactic| (k_here; (first
  | refine rep_T (l := List.replicate _ _ ++ [_]) (a := 46) (b := 32) _ lit_dot lit_sp (swap_tx (by assumption)) (by decide) (by rw [tx_len]; omega) (by omega) (Nat.le_refl _) ?_
  | refine rep_T (l := List.replicate _ _ ++ [_]) (a := 32) (b := 46) _ lit_sp lit_dot (swap_tx (by assumption)) (by decide) (by rw [tx_len]; omega) (by omega) (Nat.le_refl _) ?_); intro t8 tk8 hk8; (try dsimp only at hk8)))
local macro_rules | `(tactic| walk_at "call ref") => `(tactic| (k_here; k_dflt (refine' use_str (strip_says _ _ _ _ _ _ _ _ ?p1 ?p2) ?k1 ?k2 ?k3 ?k4 ?k5 ?k6 ?k7 ?k8 ?_; (case p1 => assumption); (case p2 => assumption); (case k1 => k_asm); (case k2 => k_asm); (case k3 => k_asm); (case k4 => k_asm); (case k5 => k_asm); (case k6 => first | exact rfl | assumption); (case k7 => ktr_room); (case k8 => ktr_units); k_whole); intro t9 h9 tk9 hk9 F9 N9; (try dsimp only at hk9)))

theorem bare_says0 (w : World) (mean mg mb) (n c : Nat) (t : Tok) (hn : 0 < n) (hn2 : n ≤ 100) (hc : c ≠ 46) (hc2 : c ≠ 32) :
    Says0 w mean mg mb 101 [.str (tx 46 n c) t] 4 40 (RS (tx 46 (n - 1) c)) := by
  unfold Says0
  k_fill
  intro dp un gd cn cs a ccd cl outer A₀ base h₀ L m news s Q E B F X N T hk hroom hu hret
  refine wpAny_call ?_
  k_dflt cell_enter
  refine gentk (Nat.le_add_left 1 _) ?_
  intro tk₀ htk₀
  k_steps
  exact hret _ [] _ _ (by k_asm) (by k_asm) ⟨rfl, _, rfl⟩
theorem bare_says (w : World) (mean mg mb) (n c : Nat) (t : Tok) (hn : 0 < n) (hn2 : n ≤ 100) (hc : c ≠ 46) (hc2 : c ≠ 32) :
    Says w mean mg mb 101 [.str (tx 46 n c) t] 4 40 (RS (tx 46 (n - 1) c)) := says_of (bare_says0 w mean mg mb n c t hn hn2 hc hc2)
end Mine
namespace Mine

def hdr : List Nat := [50, 53, 55, 32, 34]
def rs (n c : Nat) : Str := T (hdr ++ (List.replicate n 34 ++ [c]))
theorem rs_len (n c : Nat) : (hdr ++ (List.replicate n 34 ++ [c])).length = n + 6 := by simp [hdr]
theorem rs_leni (n c : Nat) : (((hdr ++ (List.replicate n 34 ++ [c])).length : Nat) : Int) = (n : Int) + 6 := by rw [rs_len]; omega
theorem rs_3 (n c : Nat) : (hdr ++ (List.replicate n 34 ++ [c])).take 3 = [50, 53, 55] := rfl
theorem rs_5 (n c : Nat) : ((hdr ++ (List.replicate n 34 ++ [c])).drop 3).take (5 - 3) = [32, 34] := rfl
theorem rs_at {n c k : Nat} (h : k < n) {i : Int} (hi : i = 5 + (k : Int)) : (hdr ++ (List.replicate n 34 ++ [c]))[i.toNat]? = some 34 := by
  subst hi
  rw [List.getElem?_append_right (by simp [hdr]; omega), show (5 + (k : Int)).toNat - hdr.length = k by simp [hdr]; omega]
  exact tx_at h
theorem rs_end {n c : Nat} {i : Int} (hi : i = 5 + (n : Int)) : (hdr ++ (List.replicate n 34 ++ [c]))[i.toNat]? = some c := by
  subst hi
  rw [List.getElem?_append_right (by simp [hdr]; omega), show (5 + (n : Int)).toNat - hdr.length = n by simp [hdr]; omega]
  exact tx_last
theorem rs_atI {n c : Nat} {i : Int} (h0 : 5 ≤ i) (h1 : i < 5 + (n : Int)) : (hdr ++ (List.replicate n 34 ++ [c]))[i.toNat]? = some 34 := rs_at (k := (i - 5).toNat) (by omega) (by omega)
theorem lit_257 : Str.ofString "257" = T [50, 53, 55] := by decide
theorem lit_spq : Str.ofString " \"" = T [32, 34] := by decide

section
variable {prog : Program} {w : World} {A : Around} {E : Value → Shared → Prop} {s : Shared} {value slice : PySem.Expr} {t u v : Tok} {Q : Value → Shared → Prop} {h₀ : Heap} {L : Addr} {m : Str → Option Value} {news : List (Addr × Obj)}
theorem slice_rs3 {n c : Nat} {uj : Tok} (hn2 : n ≤ 100) (F : Fr h₀ L s.heap m) (N : News h₀ L s.heap news)
    (h : ∀ h' t' k', Fr h₀ L h' m → News h₀ L h' news → Q (.str (T [50, 53, 55]) t') { s with heap := h', toks := k' })
    (hs : subscripted slice false (.str (rs n c) t) (.ref s.heap.objs.size) = operate [.ref s.heap.objs.size, .str (rs n c) t] (getItem (.str (rs n c) t) (.ref s.heap.objs.size)) := by with_unfolding_all rfl)
    (ht : ∀ r, letTemporaryGo value (.str (rs n c) t) r = pure () := by intro _; with_unfolding_all rfl) :
    wpAny (model prog w) A (subscriptTail value slice (.str (rs n c) t) (.ref s.heap.objs.size)) Q E { s with heap := s.heap.push { cls := .type "slice", data := .fields #[.none, .int 3 uj, .none] } } :=
  slice_ns_T 3 _ F N rfl (by rw [rs_len]; omega) (rs_3 n c) (by rw [rs_len]; omega) h hs ht
theorem slice_rs5 {n c : Nat} {ui uj : Tok} (hn2 : n ≤ 100) (F : Fr h₀ L s.heap m) (N : News h₀ L s.heap news)
    (h : ∀ h' t' k', Fr h₀ L h' m → News h₀ L h' news → Q (.str (T [32, 34]) t') { s with heap := h', toks := k' })
    (hs : subscripted slice false (.str (rs n c) t) (.ref s.heap.objs.size) = operate [.ref s.heap.objs.size, .str (rs n c) t] (getItem (.str (rs n c) t) (.ref s.heap.objs.size)) := by with_unfolding_all rfl)
    (ht : ∀ r, letTemporaryGo value (.str (rs n c) t) r = pure () := by intro _; with_unfolding_all rfl) :
    wpAny (model prog w) A (subscriptTail value slice (.str (rs n c) t) (.ref s.heap.objs.size)) Q E { s with heap := s.heap.push { cls := .type "slice", data := .fields #[.int 3 ui, .int 5 uj, .none] } } :=
  slice_ss_T 3 5 _ F N rfl rfl (by omega) (by rw [rs_len]; omega) (rs_5 n c) (by rw [rs_len]; omega) h hs ht
theorem ne_same {x y : Str} {Q : Value → Shared → Prop} (hb : (x == y) = true) (h : Q (.bool false) s) : wpAny (model prog w) A (compareOp .NotEq (.str x t) (.str y u)) Q E s := ne_T hb h
theorem ne_diff {x y : Str} {Q : Value → Shared → Prop} (hb : (x == y) = false) (h : Q (.bool true) s) : wpAny (model prog w) A (compareOp .NotEq (.str x t) (.str y u)) Q E s := ne_T hb h
end
theorem T1_ne {c a : Nat} (h : c ≠ a) : decide ([c] = [a]) = false := by simpa using h

local macro_rules | `(tactic| walk_at "subscriptTail Name Slice str ref") => `(tactic| (k_here; (with_reducible rename Fr _ _ _ _ => F'); (with_reducible rename News _ _ _ _ => N'); (first | refine slice_rs3 (s := ⟨_, _, _, _, _⟩) (by assumption) F' N' ?_ | refine slice_rs5 (s := ⟨_, _, _, _, _⟩) (by assumption) F' N' ?_); intro _ _ _ _ _))
local macro_rules | `(tactic| walk_at "compareOp NotEq str str") => `(tactic| (k_here; first
  | refine ne_same (beq_lit rfl lit_257 rfl) ?_ | refine ne_same (beq_lit rfl lit_spq rfl) ?_ | refine ne_same (beq_lit rfl lit_quo rfl) ?_ | refine ne_diff (beq_lit rfl lit_quo (T1_ne (by assumption))) ?_))
local macro_rules | `(tactic| walk_at "compareOp Eq str str") => `(tactic| (k_here; first
  | refine eq_T (b := true) (beq_lit rfl lit_quo rfl) ?_ | refine eq_T (b := false) (beq_lit rfl lit_quo (T1_ne (by assumption))) ?_))
local macro_rules | `(tactic| walk_at "call builtin:len") => `(tactic| (k_here; refine len_T (rs_leni _ _) (by rw [rs_len]; omega) ?_))
local macro_rules | `(tactic| walk_at "subscriptTail Name Name str int") => `(tactic| (k_here; first
  | refine item_T (l := hdr ++ (List.replicate _ _ ++ [_])) _ (by (try dsimp only); omega) (rs_atI (by (try dsimp only); omega) (by (try dsimp only); omega)) (by rw [rs_len]; omega) ?_
  | refine item_T (l := hdr ++ (List.replicate _ _ ++ [_])) _ (by (try dsimp only); omega) (rs_end (by (try dsimp only); omega)) (by rw [rs_len]; omega) ?_))
local macro_rules | `(tactic| walk_at "binaryOp Add") => `(tactic| (k_here; k_dflt (refine add_rp (k := 34) (by omega) ?_); intro t8 tk8 hk8; (try dsimp only at hk8)))
local macro_rules | `(tactic| walk_at "KswEnd") => `(tactic| (refine Stop.mk ?_))
local macro_rules | `(tactic| walk_at "exec While Compare cons nil") => `(tactic| (k_here; refine Stop.mk ?_))

abbrev PS := Int × Nat × Str × Nat
abbrev PsP (c : PS) : List (Str × Value) := [(Str.ofString "i", .int c.1 c.2.1), (Str.ofString "dirname", .str c.2.2.1 c.2.2.2)]
def PInv (n c : Nat) (st : PS) : Prop := (∃ k : Nat, 2 * k ≤ n ∧ st.1 = 5 + 2 * (k : Int) ∧ st.2.2.1 = rp 34 k) ∨ (n % 2 = 0 ∧ st.1 = (n : Int) + 6 ∧ st.2.2.1 = tx 34 (n / 2) c)

theorem parse_says0 (w : World) (mean mg mb) (n c : Nat) (t : Tok) (hn2 : n ≤ 100) (hc : c ≠ 34) :
    Says0 w mean mg mb 63 [.str (rs n c) t] 2 20 (RS (if n % 2 = 0 then tx 34 (n / 2) c else rp 34 (n / 2))) := by
  unfold Says0
  k_fill
  intro dp un gd cn cs a ccd cl outer A₀ base h₀ L m news s Q E B F X N T hk hroom hu hret
  refine wpAny_call ?_
  k_dflt cell_enter
  k_steps
  unfold Stop
  (rename Fr _ _ _ _ => lF'); (rename News _ _ _ _ => lN')
  with_unfolding_all refine' ksw_while (σ := PS) (fun _ => news) PsP (fun _ => True) [Str.ofString "c"] (PInv n c) (fun st => ((n : Int) + 6 - st.1).toNat) (5, _, _, _) lF' lN' trivial ?kk ?kp ?_
  case kk => kst_all
  case kp => exact .inl ⟨0, by omega, rfl, lit_nil 34⟩
  clear lF' lN'
  rintro ⟨i, ti, d, td⟩ u h tk _ hP F1 N1
  dsimp only [kstB, PsP] at F1
  rcases hP with ⟨k, hk2, hi, hd⟩ | ⟨he, hi, hd⟩
  · dsimp only at hi hd
    subst hi hd
    try k_fold
    by_cases h1 : 2 * k = n
    · k_steps
      unfold Stop
      (rename News _ _ _ _ => nE')
      refine ksw_end (_, _, _, _) (by assumption) nE' (by kst_in) trivial (by kst_all) (by ksw_same) ?p1 ?m1
      case p1 => exact .inr ⟨by omega, by dsimp only; omega, by dsimp only; rw [show n / 2 = k by omega]; rfl⟩
      case m1 => dsimp only; omega
    · by_cases h2 : 2 * k + 1 = n
      · k_steps
        exact hret _ [] _ _ (by k_asm) (by k_asm) ⟨rfl, _, by rw [if_neg (by omega), show n / 2 = k by omega]⟩
      · have h3 : 2 * k + 1 < n := by omega
        k_steps
        unfold Stop
        (rename News _ _ _ _ => nE')
        refine ksw_end (_, _, _, _) (by assumption) nE' (by kst_in) trivial (by kst_all) (by ksw_same) ?p2 ?m2
        case p2 => exact .inl ⟨k + 1, by omega, by dsimp only; omega, by dsimp only; exact rp_tx 34 k⟩
        case m2 => dsimp only; omega
  · dsimp only at hi hd
    subst hi hd
    try k_fold
    k_steps
    exact hret _ [] _ _ (by k_asm) (by k_asm) ⟨rfl, _, by rw [if_pos he]⟩
theorem parse_says (w : World) (mean mg mb) (n c : Nat) (t : Tok) (hn2 : n ≤ 100) (hc : c ≠ 34) :
    Says w mean mg mb 63 [.str (rs n c) t] 2 20 (RS (if n % 2 = 0 then tx 34 (n / 2) c else rp 34 (n / 2))) := says_of (parse_says0 w mean mg mb n c t hn2 hc)
end Mine
namespace Mine
theorem lit_hdr : Str.ofString "257 \"" = T hdr := by decide
section
variable {prog : Program} {w : World} {A : Around} {E : Value → Shared → Prop} {s : Shared} {t u v : Tok} {Q : Value → Shared → Prop}
theorem add_hdr {x : Str} {n c : Nat} (hx : x = T hdr) (hn : n ≤ 100) (h : ∀ t' tk, s.toks ≤ tk → Q (.str (rs n c) t') { s with toks := tk }) : wpAny (model prog w) A (binaryOp .Add (.str x t) (.str (T (List.replicate n 34 ++ [c])) u)) Q E s :=
  add_T (rs n c) (by rw [hx, T_append]; rfl) (by rw [rs, T_len, rs_len]; omega) h
theorem rep_rp {n : Nat} {u v : Nat} {x y : Str} (hx : x = T [34]) (hy : y = T [46]) (hn : n ≤ 100) (hu : 1 ≤ u) (huv : u + 1 ≤ v)
    (h : ∀ t' tk, s.toks ≤ tk → Q (.str (rp 46 n) t') { s with toks := tk }) :
    wpAny (model prog w) A (call (.builtin "str.replace") [.str (rp 34 n) t, .str x u, .str y v]) Q E s :=
  rep_T (List.replicate n 46) hx hy (swap_rep 34 46 n) (by decide) (by simp; omega) hu huv h
theorem rep_tx {n c a b : Nat} {u v : Nat} {x y : Str} (hx : x = T [a]) (hy : y = T [b]) (hab : a ≠ b) (hc : c ≠ a) (hn : n ≤ 100) (hu : 1 ≤ u) (huv : u + 1 ≤ v)
    (h : ∀ t' tk, s.toks ≤ tk → Q (.str (tx b n c) t') { s with toks := tk }) :
    wpAny (model prog w) A (call (.builtin "str.replace") [.str (tx a n c) t, .str x u, .str y v]) Q E s :=
  rep_T _ hx hy (swap_tx hc) hab (by rw [tx_len]; omega) hu huv h
theorem rep_if {P : Prop} [Decidable P] {n c : Nat} {u v : Nat} {x y : Str} (hx : x = T [34]) (hy : y = T [46]) (hc : c ≠ 34) (hn : n ≤ 100) (hu : 1 ≤ u) (huv : u + 1 ≤ v)
    (h : ∀ t' tk, s.toks ≤ tk → Q (.str (if P then tx 46 n c else rp 46 n) t') { s with toks := tk }) :
    wpAny (model prog w) A (call (.builtin "str.replace") [.str (if P then tx 34 n c else rp 34 n) t, .str x u, .str y v]) Q E s := by
  by_cases hp : P
  · simp only [if_pos hp] at h ⊢; exact rep_tx hx hy (by decide) hc hn hu huv h
  · simp only [if_neg hp] at h ⊢; exact rep_rp hx hy hn hu huv h
end
local macro_rules | `(tactic| walk_at "call builtin:str.replace") => `(tactic| (k_here; (first
  | refine rep_tx lit_dot lit_quo (by decide) (by assumption) (by assumption) (by omega) (Nat.le_refl _) ?_
  | refine rep_if lit_quo lit_dot (by assumption) (by omega) (by omega) (Nat.le_refl _) ?_); intro t8 tk8 hk8; (try dsimp only at hk8)))
local macro_rules | `(tactic| walk_at "binaryOp Add str str") => `(tactic| (k_here; refine add_hdr lit_hdr (by assumption) ?_; intro t8 tk8 hk8; (try dsimp only at hk8)))
local macro_rules | `(tactic| walk_at "call ref") => `(tactic| (k_here; k_dflt (refine' use_str (parse_says _ _ _ _ _ _ _ ?p1 ?p2) ?k1 ?k2 ?k3 ?k4 ?k5 ?k6 ?k7 ?k8 ?_; (case p1 => assumption); (case p2 => assumption); (case k1 => k_asm); (case k2 => k_asm); (case k3 => k_asm); (case k4 => k_asm); (case k5 => k_asm); (case k6 => first | exact rfl | assumption); (case k7 => ktr_room); (case k8 => ktr_units); k_whole); intro t9 h9 tk9 hk9 F9 N9; (try dsimp only at hk9)))
local macro_rules | `(tactic| walk_at "execs cons") => `(tactic| (k_here; refine wpAny_execs_cons ?_))

/-- what _law_read makes of n dots and a letter -/
def rd (n c : Nat) : Str := if n % 2 = 0 then tx 46 (n / 2) c else rp 46 (n / 2)
theorem read_says0 (w : World) (mean mg mb) (n c : Nat) (t : Tok) (hn2 : n ≤ 100) (hc : c ≠ 46) (hc2 : c ≠ 34) :
    Says0 w mean mg mb 94 [.str (tx 46 n c) t] 4 40 (RS (rd n c)) := by
  unfold Says0
  k_fill
  intro dp un gd cn cs a ccd cl outer A₀ base h₀ L m news s Q E B F X N T hk hroom hu hret
  refine wpAny_call ?_
  k_dflt cell_enter
  refine gentk (Nat.le_add_left 1 _) ?_
  intro tk₀ htk₀
  k_steps
  exact hret _ [] _ _ (by k_asm) (by k_asm) ⟨rfl, _, rfl⟩
theorem read_says (w : World) (mean mg mb) (n c : Nat) (t : Tok) (hn2 : n ≤ 100) (hc : c ≠ 46) (hc2 : c ≠ 34) :
    Says w mean mg mb 94 [.str (tx 46 n c) t] 4 40 (RS (rd n c)) := says_of (read_says0 w mean mg mb n c t hn2 hc hc2)
end Mine
namespace Mine
open PySem.Calls PySem.Builtin PySem.Builtin.Re
namespace Sr
/-! the machine -/
theorem step_done {m : Sre.M} (h : m.outcome.isSome = true) : m.step = m := by
  unfold Sre.M.step; rw [if_pos h]
theorem runFor_done {m : Sre.M} (h : m.outcome.isSome = true) : ∀ n, m.runFor n = m
  | 0 => rfl
  | n + 1 => by unfold Sre.M.runFor; rw [if_pos h]
theorem runFor_succ (m : Sre.M) (n : Nat) : m.runFor (n + 1) = m.step.runFor n := by
  cases h : m.outcome.isSome with
  | true => rw [runFor_done h, step_done h, runFor_done h]
  | false => conv => lhs; unfold Sre.M.runFor
             rw [h]; rfl
theorem runFor_add (m : Sre.M) : ∀ a b, m.runFor (a + b) = (m.runFor a).runFor b := by
  intro a
  induction a generalizing m with
  | zero => intro b; rw [Nat.zero_add]; rfl
  | succ a ih => intro b; rw [show a + 1 + b = (a + b) + 1 by omega, runFor_succ, runFor_succ, ih]

section
variable {M : Model} {A : Around} {E : Value → Shared → Prop} {s : Shared}
theorem drive {Q : Sre.M → Shared → Prop} : ∀ (turns : Nat) (m : Sre.M) (N : Nat), 1 ≤ turns → N ≤ 4 * turns → (m.runFor N).outcome.isSome = true → Q (m.runFor N) s → wpAny M A (reDrive turns m) Q E s := by
  intro turns
  induction turns with
  | zero => intro m N h1; omega
  | succ turns ih =>
    intro m N h1 h2 h3 h4
    unfold reDrive
    dsimp only
    have e4 : reTurnSteps = 4 := rfl
    cases h : (m.runFor reTurnSteps).outcome.isSome with
    | true =>
      simp only [if_true]
      refine wpAny_pure ?_
      have e : m.runFor reTurnSteps = m.runFor N := by
        rcases Nat.le_total reTurnSteps N with q | q
        · obtain ⟨d, rfl⟩ := Nat.exists_eq_add_of_le q
          rw [runFor_add, runFor_done h]
        · obtain ⟨d, hd⟩ := Nat.exists_eq_add_of_le q
          rw [hd, runFor_add, runFor_done h3]
      rw [e]; exact h4
    | false =>
      simp only [Bool.false_eq_true, if_false]
      have q : 4 < N := by
        rcases Nat.lt_or_ge 4 N with q | q
        · exact q
        · obtain ⟨d, hd⟩ := Nat.exists_eq_add_of_le q
          rw [e4, hd, runFor_add, runFor_done h3, h3] at h; cases h
      obtain ⟨d, rfl⟩ := Nat.exists_eq_add_of_le (Nat.le_of_lt q)
      rw [runFor_add] at h3 h4
      exact wpAny_bind (wpAny_rule (ih _ d (by omega) (by omega) (by rw [e4]; exact h3) (by rw [e4]; exact h4)))

theorem rules {α : Type} {f : α → PUnit → Sem (ForInStep PUnit)} {Q : PUnit → Shared → Prop} (hf : ∀ i u (Q' : ForInStep PUnit → Shared → Prop), Q' (.yield ⟨⟩) s → wpAny M A (f i u) Q' E s) (h : Q ⟨⟩ s) : ∀ l : List α,
    wpAny M A (forIn l PUnit.unit f) Q E s := by
  intro l
  induction l with
  | nil => exact wpAny_pure h
  | cons a l ih =>
    rw [List.forIn_cons]
    exact wpAny_bind (hf _ _ _ ih)

theorem toEnd {m : Sre.M} {N : Nat} {Q : Option Sre.M → Shared → Prop} (hN : N ≤ 1000) (ho : (m.runFor N).outcome.isSome = true)
    (hm : (m.runFor N).outcome = some .matched → Q (some (m.runFor N)) s) (hf : (m.runFor N).outcome = some .failed → Q none s) (hst : ∀ y, (m.runFor N).outcome ≠ some (.stuck y)) :
    wpAny M A (reRunToEnd m) Q E s := by
  unfold reRunToEnd
  refine wpAny_bind (drive (2 ^ 64) m N (by decide) (by omega) ho ?_)
  refine wpAny_bind (rules ?_ ?_ _)
  · intro i u Q' h
    refine wpAny_ite ?_
    split
    · exact wpAny_bind (wpAny_rule (wpAny_pure h))
    · exact wpAny_pure h
  generalize hx : (m.runFor N).outcome = x at *
  cases x with
  | none => cases ho
  | some o =>
    cases o with
    | matched => exact wpAny_pure (hm rfl)
    | failed => exact wpAny_pure (hf rfl)
    | stuck y => exact absurd rfl (hst y)
end

def code1 : Array Nat := #[14, 4, 0, 1, 1, 6, 1, 16, 46, 1]
def code2 : Array Nat := #[14, 9, 4, 1, 2, 16, 10, 16, 13, 0, 7, 7, 16, 13, 16, 10, 15, 18, 5, 16, 10, 15, 13, 11, 16, 13, 5, 5, 0, 16, 10, 1, 15, 2, 0, 1]

theorem inSet2 (c : Nat) (seen : Sre.Seen) (h1 : c ≠ 10) (h2 : c ≠ 13) : ∃ seen', Sre.inSet code2 c code2.size 5 true seen = .ok (false, seen') := by
  have e1 : (c == 10) = false := by simpa using h1
  have e2 : (c == 13) = false := by simpa using h2
  refine ⟨((seen.add 16).add 16).add 0, ?_⟩
  show (if (c == 10) = true then Except.ok (true, seen.add 16) else if (c == 13) = true then Except.ok (true, (seen.add 16).add 16) else Except.ok (!true, ((seen.add 16).add 16).add 0)) = _
  rw [e1, e2]
  rfl

theorem admitted2 (m : Sre.M) (hc : m.code = code2) (h : ∀ j, j < m.lim → m.text.getD j 0 ≠ 10 ∧ m.text.getD j 0 ≠ 13) : ∀ fuel s seen, ∃ seen', Sre.M.admitted m fuel s seen = .ok (none, seen') := by
  intro fuel
  induction fuel with
  | zero => intro s seen; exact ⟨seen, rfl⟩
  | succ fuel ih =>
    intro s seen
    unfold Sre.M.admitted
    by_cases hs : s ≥ m.lim
    · exact ⟨seen, if_pos hs⟩
    · rw [if_neg hs, hc]
      obtain ⟨seen', e⟩ := inSet2 (m.text.getD s 0) seen (h s (by omega)).1 (h s (by omega)).2
      rw [e]
      exact ih (s + 1) seen'

theorem search2 (text : Array Nat) (lim : Nat) (hl : 1 ≤ lim) (h : ∀ j, j < lim → text.getD j 0 ≠ 10 ∧ text.getD j 0 ≠ 13) :
    ((Sre.forSearch code2 text 0 0 lim false).runFor 1).outcome = some .failed := by
  obtain ⟨k, rfl⟩ : ∃ k, lim = k + 1 := ⟨lim - 1, by omega⟩
  have e : Sre.forSearch code2 text 0 0 (k + 1) false = ({ code := code2, text, lim := k + 1, start := 0, pc := 10, pos := 0, handed := 0, marks := #[], mustAdvance := false, seen := ({} : Sre.Seen).add 14, lastStart := k + 1 } : Sre.M).attemptFrom 0 true := rfl
  rw [e]
  generalize hm : ({ code := code2, text, lim := k + 1, start := 0, pc := 10, pos := 0, handed := 0, marks := #[], mustAdvance := false, seen := ({} : Sre.Seen).add 14, lastStart := k + 1 } : Sre.M) = m
  obtain ⟨seen', ea⟩ := admitted2 m (by rw [← hm]) (by rw [← hm]; exact h) (m.lim + 1 - 0) 0 m.seen
  have hf : m.hasFirstSet = true := by rw [← hm]; rfl
  have e2 : m.attemptFrom 0 true = { m with seen := seen' }.say false := by
    unfold Sre.M.attemptFrom
    rw [hf, ea]
    rfl
  rw [e2, ← hm]
  rfl

/-- an attempt at the place s -/
def stA (text : Array Nat) (lim s : Nat) (first must : Bool) (seen : Sre.Seen) : Sre.M :=
  { code := code1, text, lim, start := s, lastStart := lim, mustAdvance := must, pc := 5, pos := s, handed := s, outermost := first, marks := #[],
    frames := [{ wait := .nextStart, pc := 5, pos := s, outermost := first }], weight := 1, seen }
theorem search1 (text : Array Nat) (s k : Nat) (hs : s ≤ k + 1) : Sre.forSearch code1 text 0 s (k + 1 + 1) false = stA text (k + 1 + 1) s true false (({} : Sre.Seen).add 14) := by
  have h1 : (decide (s > k + 1 + 1) || decide (k + 1 + 1 - s < 1)) = false := by
    rw [Bool.or_eq_false_iff]; exact ⟨decide_eq_false (by omega), decide_eq_false (by omega)⟩
  show (if (decide (s > k + 1 + 1) || decide (k + 1 + 1 - s < 1)) = true then _ else _) = _
  rw [h1]
  rfl
theorem stepA (text : Array Nat) (lim s : Nat) (first must : Bool) (seen : Sre.Seen) (h : (s == 0 || text.getD (s - 1) 0 == 10) = false) :
    (stA text lim s first must seen).step = { stA text lim s first must ((seen.add 6).add 44) with answer := some false } := by
  show (if (s == 0 || text.getD (s - 1) 0 == 10) = true then _ else _) = _
  rw [h]
  rfl
theorem stepA2 (text : Array Nat) (lim s : Nat) (first must : Bool) (seen : Sre.Seen) (h : s < lim) :
    ({ stA text lim s first must seen with answer := some false } : Sre.M).step = stA text lim (s + 1) false false seen := by
  show (if s < lim then _ else _) = _
  rw [if_pos h]
  rfl
theorem stepA3 (text : Array Nat) (lim s : Nat) (first must : Bool) (seen : Sre.Seen) (h : ¬ s < lim) :
    (({ stA text lim s first must seen with answer := some false } : Sre.M).runFor 2).outcome = some .failed := by
  have e : ({ stA text lim s first must seen with answer := some false } : Sre.M).step = { stA text lim s first must seen with answer := some false, frames := [], weight := 0 } := by
    show (if s < lim then _ else _) = _
    rw [if_neg h]
    rfl
  rw [runFor_succ, e]
  rfl
theorem miss1 (text : Array Nat) (lim : Nat) (h : ∀ j, j < lim → text.getD j 0 ≠ 10) : ∀ d s first must seen, 1 ≤ s → s ≤ lim → lim - s = d → ((stA text lim s first must seen).runFor (2 * d + 3)).outcome = some .failed := by
  intro d
  induction d with
  | zero =>
    intro s first must seen h1 h2 h3
    have hb : (s == 0 || text.getD (s - 1) 0 == 10) = false := by
      rw [Bool.or_eq_false_iff]; exact ⟨by simp; omega, by simpa using h (s - 1) (by omega)⟩
    rw [runFor_succ, stepA _ _ _ _ _ _ hb]
    exact stepA3 _ _ _ _ _ _ (by omega)
  | succ d ih =>
    intro s first must seen h1 h2 h3
    have hb : (s == 0 || text.getD (s - 1) 0 == 10) = false := by
      rw [Bool.or_eq_false_iff]; exact ⟨by simp; omega, by simpa using h (s - 1) (by omega)⟩
    rw [show 2 * (d + 1) + 3 = (2 * d + 3) + 1 + 1 by omega, runFor_succ, stepA _ _ _ _ _ _ hb, runFor_succ, stepA2 _ _ _ _ _ _ (by omega)]
    exact ih (s + 1) false false _ (by omega) (by omega) (by omega)
theorem hit1 (text : Array Nat) (k : Nat) (seen : Sre.Seen) (h : text.getD 0 0 = 46) :
    ((stA text (k + 1) 0 true false seen).runFor 5).outcome = some .matched ∧ ((stA text (k + 1) 0 true false seen).runFor 5).start = 0 ∧ ((stA text (k + 1) 0 true false seen).runFor 5).handed = 1 := by
  have e1 : (stA text (k + 1) 0 true false seen).step = { stA text (k + 1) 0 true false ((seen.add 6).add 44) with pc := 7 } := rfl
  have e2 : ∀ seen, ({ stA text (k + 1) 0 true false seen with pc := 7 } : Sre.M).step = { stA text (k + 1) 0 true false (seen.add 16) with pc := 9, pos := 1 } := by
    intro seen
    show (match (Except.ok (text.getD 0 0 == 46, seen.add 16) : Except String (Bool × Sre.Seen)) with
      | .error why => _ | .ok (false, seen) => _ | .ok (true, seen) => _) = _
    rw [h]
    rfl
  rw [runFor_succ, e1, runFor_succ, e2]
  exact ⟨rfl, rfl, rfl⟩
end Sr
end Mine
namespace Mine
open PySem.Calls PySem.Builtin PySem.Builtin.Re
namespace Sr
def Pat (h : Heap) (p : Addr) (code : Array Nat) : Prop := ∃ o a0 a1 a3 a4 q oq items n, h.get? p = some o ∧ o.cls = .type "re.Pattern" ∧ o.dict = none ∧ o.data = .fields #[a0, a1, .int 0 0, a3, a4, .ref q, .int 0 0] ∧
  h.get? q = some oq ∧ oq.data = .seq items n ∧ (items.map reRawOf).map (·.toNat) = code
theorem Pat.keeps {h h' : Heap} {p : Addr} {code : Array Nat} (P : Pat h p code) (k : ∀ b o, h.get? b = some o → h'.get? b = some o) : Pat h' p code := by
  obtain ⟨o, a0, a1, a3, a4, q, oq, items, n, e1, e2, e3, e4, e5, e6, e7⟩ := P
  exact ⟨o, a0, a1, a3, a4, q, oq, items, n, k _ _ e1, e2, e3, e4, k _ _ e5, e6, e7⟩

section
variable {M : Model} {A : Around} {E : Value → Shared → Prop} {s : Shared}
theorem whole {p : Addr} {code : Array Nat} {x : Str} {t : Tok} {Q : ReTarget → Shared → Prop} (P : Pat s.heap p code)
    (h : Q { pattern := .ref p, string := .str x t, code := code, text := x.cps, kind := 0, groups := 0, pos := 0, lim := x.cps.size } s) : wpAny M A (reWholeTarget (.ref p) (.str x t)) Q E s := by
  obtain ⟨o, a0, a1, a3, a4, q, oq, items, n, e1, e2, e3, e4, e5, e6, e7⟩ := P
  unfold reWholeTarget
  refine wpAny_bind (wpAny_fieldsOf e1 e4 ?_)
  refine wpAny_bind (wpAny_of_eq (a := (x.cps, 0)) rfl ?_)
  show wpAny M A (do let is ← reRawItems (.ref q); pure { pattern := .ref p, string := .str x t, code := is.map (·.toNat), text := x.cps, kind := 0, groups := 0, pos := 0, lim := x.cps.size }) Q E s
  refine wpAny_bind ?_
  unfold reRawItems
  refine wpAny_bind (wpAny_seqItems e5 e6 ?_)
  refine wpAny_pure (wpAny_pure ?_)
  dsimp only [Option.getD]
  rw [e7]
  exact h
end

theorem named_two (a b : Value) : reNamed "re.Pattern.sub" "sub" ["repl", "string", "count"] 2 [a, b] [] = pure [some a, some b, none] := rfl
theorem slot_sub : Slot "re.Pattern" "sub" "re.Pattern.sub" :=
  .of (owner := "re.Pattern") (n := "sub") (by rw [typeLookup_type, builtinLookup_eq_fast]; kernel_rfl) (by decide +kernel) (by decide +kernel) (by decide +kernel)
    (by first | exact .inl (by decide +kernel) | exact .inr (by decide +kernel)) (by rw [isSubtype_type]; kernel_rfl)
theorem type_sub : typeOf (.builtin "re.Pattern.sub") = pure (.type "method_descriptor") := by show builtinType _ = _; rw [builtinType_eq_fast]; kernel_rfl
theorem entry_sub : entryFor table "re.Pattern.sub" = some Builtin.«re.Pattern.sub» := entryFor_of_tree (by kernel_rfl)
theorem entry_loop : entryFor table "re.Pattern.sub.loop" = some Builtin.«re.Pattern.sub.loop» := entryFor_of_tree (by kernel_rfl)
theorem plain_loop : plainId "re.Pattern.sub.loop" = true := by decide +kernel
theorem attrs_pat : PlainAttrs "re.Pattern" where
  ga := ⟨"object.__getattribute__", by rw [typeLookup_type, builtinLookup_eq_fast]; kernel_rfl, by kernel_rfl⟩
  noGetattr := by rw [typeLookup_type, builtinLookup_eq_fast]; kernel_rfl
theorem owner_pat : Manifest.owners.lookup (String.ofList ['n', 'r', 'e', 't', 't', 'a', 'P', '.', 'e', 'r'].reverse) = some Manifest.sig_re_Pattern := by kernel_rfl
theorem args_sub (a b c : Value) : argsOk "re.Pattern.sub" ⟨[a, b, c], []⟩ := by
  unfold argsOk; rw [signature?_of (id := "re.Pattern.sub") (n := ['b', 'u', 's']) (o := ['n', 'r', 'e', 't', 't', 'a', 'P', '.', 'e', 'r']) (by kernel_rfl) owner_pat]; kernel_rfl
theorem no_call : typeLookup (.type "str") "__call__" = pure none := by rw [typeLookup_type, builtinLookup_eq_fast]; kernel_rfl

section
variable {prog : Program} {w : World} {A : Around} {E : Value → Shared → Prop} {s : Shared} {h₀ : Heap} {L l : Addr} {m : Str → Option Value} {news : List (Addr × Obj)}
theorem push {its : Array Value} {n : Nat} {v : Value} {Q : Unit → Shared → Prop} (F : Fr h₀ L s.heap m) (N : News h₀ L s.heap ((l, listOf its n) :: news)) (hl : ∀ q ∈ news, q.1 ≠ l) (hz : its.size ≤ 1000)
    (h : ∀ h', Fr h₀ L h' m → News h₀ L h' ((l, listOf (its.push v) (n + 1)) :: news) → Q () { s with heap := h' }) : wpAny (model prog w) A (updateSeq l (·.push v)) Q E s := by
  have hz2 : its.size ≤ sizeLine := by rw [sizeLine_eq]; omega
  refine wpAny_updateSeq (N (l, listOf its n) (.head _)).1 rfl ?_ hz2 (by rw [Array.size_push]; omega)
  have z := news_upd (pre := []) (o' := listOf (its.push v) (n + 1)) (f := Obj.mapSeq (·.push v)) F N (fun _ hp => nomatch hp) hl (by simp [Obj.mapSeq]) rfl
  exact h _ z.1 z.2

/-- no more is found: the rest and the join -/
theorem loop_end {p : Addr} {code : Array Nat} {x repl : Str} {t tr : Tok} {n start done : Nat} {R : Result → Shared → Prop} {ts : List (Str × Tok)} {nn : Nat} {N₀ : Nat}
    (P : Pat s.heap p code) (F : Fr h₀ L s.heap m) (N : News h₀ L s.heap ((l, listOf (strValues ts).toArray nn) :: news)) (hl : ∀ q ∈ news, q.1 ≠ l) (hx : x.length ≤ 1000) (hts : ts.length ≤ 10) (hd : done < x.length)
    (hok : ∀ y : Str, y.length ≤ 1000 → JoinOk Str.empty (ts.map (·.1) ++ [y]) = true)
    (hN : N₀ ≤ 1000) (hf : ((Sre.forSearch code x.cps 0 start x.cps.size false).runFor N₀).outcome = some .failed)
    (h : ∀ t' h' tk, Fr h₀ L h' m → News h₀ L h' news → R (.ok (.ret (.str (Txt.join Str.empty (ts.map (·.1) ++ [⟨x.cps.extract done x.cps.size⟩])) t'))) { s with heap := h', toks := tk }) :
    wpAny (model prog w) A.in1 (Builtin.«re.Pattern.sub.loop» ⟨[.ref p, .str x t, .str repl tr, rawInt 0, rawInt 0, rawInt n, rawInt done, rawInt start, .bool false, .ref l, .bool false], []⟩)
      (fun fin s' => match fin with | .done f => R (.ok f) s' | .again c' => c'.quiet = true ∧ codeAny (model prog w) A c' R s') (fun e s' => R (.error e) s') s := by
  unfold Builtin.«re.Pattern.sub.loop»
  refine wpAny_bind (whole P ?_)
  refine wpAny_bind (wpAny_of_eq (a := ()) rfl ?_)
  refine wpAny_bind ?_
  show wpAny _ _ (reRunToEnd (Sre.forSearch code x.cps 0 ((start : Nat) : Int).toNat x.cps.size false)) _ _ _
  rw [Int.toNat_natCast]
  refine toEnd hN (by rw [hf]; rfl) (fun e => by rw [hf] at e; cases e) (fun _ => ?_) (fun y e => by rw [hf] at e; cases e)
  show wpAny _ _ (if ((done : Nat) : Int).toNat < x.cps.size then _ else _) _ _ _
  rw [Int.toNat_natCast, if_pos (show done < x.cps.size from hd)]
  have hlen : (⟨x.cps.extract done x.cps.size⟩ : Str).length ≤ 1000 := by
    show (x.cps.extract done x.cps.size).size ≤ 1000
    rw [Array.size_extract]
    have : x.cps.size ≤ 1000 := hx
    omega
  refine wpAny_bind (wpAny_mkStr ?_ (by show (⟨x.cps.extract done x.cps.size⟩ : Str).length ≤ sizeLine; rw [sizeLine_eq]; omega))
  refine wpAny_bind (push F N hl (by simp [strValues]; omega) ?_)
  intro h' F' N'
  refine wpAny_bind (wpAny_mkStr ?_ (by show (x.cps.extract 0 0).size ≤ sizeLine; simp))
  refine wpAny_bind (wpAny_seqItems (N' (l, _) (.head _)).1 rfl ?_)
  have he : (⟨x.cps.extract 0 0⟩ : Str) = Str.empty := by simp [Str.empty]
  have hv : (strValues ts).toArray.push (Value.str ⟨x.cps.extract done x.cps.size⟩ s.toks) = (strValues (ts ++ [(⟨x.cps.extract done x.cps.size⟩, s.toks)])).toArray := by simp [strValues]
  have hl' : (h').IsList l (strValues (ts ++ [((⟨x.cps.extract done x.cps.size⟩ : Str), s.toks)])).toArray := by
    rw [← hv]; exact ⟨_, (N' (l, _) (.head _)).1, rfl, _, rfl⟩
  show wpAny _ _ (if (((strValues ts).toArray.push (Value.str ⟨x.cps.extract done x.cps.size⟩ s.toks)).isEmpty) = true then _ else _) _ _ _
  rw [if_neg (by simp)]
  refine wpAny_bind ?_
  show wpAny _ _ (call (.builtin "str.join") [Value.str ⟨x.cps.extract 0 0⟩ _, .ref l]) _ _ _
  rw [he]
  refine SC.join (texts := ts.map (·.1) ++ [⟨x.cps.extract done x.cps.size⟩]) hl' (by simp) (hok _ hlen) ?_
  intro t' k
  exact wpAny_pure (h t' h' k F' (fun q hq => N' q (.tail _ hq)))

/-- one is found at the front: the turn -/
theorem loop_hit {p : Addr} {code : Array Nat} {x repl : Str} {t tr : Tok} {R : Result → Shared → Prop} {nn : Nat} {N₀ : Nat}
    (P : Pat s.heap p code) (F : Fr h₀ L s.heap m) (N : News h₀ L s.heap ((l, listOf #[] nn) :: news)) (hl : ∀ q ∈ news, q.1 ≠ l)
    (hN : N₀ ≤ 1000) (hm : ((Sre.forSearch code x.cps 0 0 x.cps.size false).runFor N₀).outcome = some .matched) (hs : ((Sre.forSearch code x.cps 0 0 x.cps.size false).runFor N₀).start = 0) (hh : ((Sre.forSearch code x.cps 0 0 x.cps.size false).runFor N₀).handed = 1)
    (h : ∀ h', Fr h₀ L h' m → News h₀ L h' ((l, listOf (strValues [(repl, tr)]).toArray (nn + 1)) :: news) →
      codeAny (model prog w) A (.builtin "re.Pattern.sub.loop" ⟨[.ref p, .str x t, .str repl tr, rawInt 0, rawInt 0, rawInt ((1 : Nat) : Int), rawInt ((1 : Nat) : Int), rawInt ((1 : Nat) : Int), .bool false, .ref l, .bool false], []⟩) R { s with heap := h' }) :
    wpAny (model prog w) A.in1 (Builtin.«re.Pattern.sub.loop» ⟨[.ref p, .str x t, .str repl tr, rawInt 0, rawInt 0, rawInt ((0 : Nat) : Int), rawInt ((0 : Nat) : Int), rawInt ((0 : Nat) : Int), .bool false, .ref l, .bool false], []⟩)
      (fun fin s' => match fin with | .done f => R (.ok f) s' | .again c' => c'.quiet = true ∧ codeAny (model prog w) A c' R s') (fun e s' => R (.error e) s') s := by
  unfold Builtin.«re.Pattern.sub.loop»
  refine wpAny_bind (whole P ?_)
  refine wpAny_bind (wpAny_of_eq (a := ()) rfl ?_)
  refine wpAny_bind ?_
  show wpAny _ _ (reRunToEnd (Sre.forSearch code x.cps 0 0 x.cps.size false)) _ _ _
  refine toEnd hN (by rw [hm]; rfl) (fun _ => ?_) (fun e => by rw [hm] at e; cases e) (fun y e => by rw [hm] at e; cases e)
  generalize (Sre.forSearch code x.cps 0 0 x.cps.size false).runFor N₀ = mm at hm hs hh
  show wpAny _ _ (if ((0 : Nat) : Int).toNat < mm.start then _ else _) _ _ _
  rw [hs, if_neg (by decide)]
  refine wpAny_bind (wpAny_pure ?_)
  show wpAny _ _ (if ((Value.str repl tr) != Value.none) = true then _ else _) _ _ _
  rw [if_pos (by rfl)]
  refine wpAny_bind (push F N hl (by simp) ?_)
  intro h' F' N'
  refine wpAny_pure ⟨plainId_quiet plain_loop _, ?_⟩
  rw [hh]
  exact h h' F' N'

/-- the call's own tree, up to the loop -/
theorem sub_start {p : Addr} {code : Array Nat} {x repl : Str} {t tr : Tok} {R : Result → Shared → Prop}
    (P : Pat s.heap p code) (F : Fr h₀ L s.heap m) (N : News h₀ L s.heap news) (hr : repl.cps.contains 92 = false)
    (h : ∀ l h', Fr h₀ L h' m → News h₀ L h' ((l, listOf #[] 0) :: news) → (∀ q ∈ news, q.1 ≠ l) →
      codeAny (model prog w) A (.builtin "re.Pattern.sub.loop" ⟨[.ref p, .str x t, .str repl tr, rawInt 0, rawInt 0, rawInt ((0 : Nat) : Int), rawInt ((0 : Nat) : Int), rawInt ((0 : Nat) : Int), .bool false, .ref l, .bool false], []⟩) R { s with heap := h' }) :
    wpAny (model prog w) A.in1 (Builtin.«re.Pattern.sub» ⟨[.ref p, .str repl tr, .str x t], []⟩)
      (fun fin s' => match fin with | .done f => R (.ok f) s' | .again c' => c'.quiet = true ∧ codeAny (model prog w) A c' R s') (fun e s' => R (.error e) s') s := by
  unfold Builtin.«re.Pattern.sub» reSubstitute
  refine wpAny_bind (wpAny_of_eq (named_two _ _) ?_)
  refine wpAny_bind (wpAny_pure ?_)
  refine wpAny_bind (wpAny_specialOf (typeIs_str _ _ _) no_call ?_)
  refine wpAny_bind (wpAny_of_eq (a := some repl) rfl ?_)
  refine wpAny_bind (wpAny_pure ?_)
  show wpAny _ _ (if (!repl.cps.contains 92) = true then _ else _) _ _ _
  rw [hr, if_pos (by rfl)]
  refine wpAny_bind (wpAny_pure ?_)
  refine wpAny_bind (wpAny_holding (whole P ?_))
  refine wpAny_bind (PyProof.Rows.newList_N F N ?_ (by decide))
  intro h' F' N'
  refine wpAny_pure ⟨plainId_quiet plain_loop _, ?_⟩
  exact h _ h' F' N' (fun q hq e => absurd (Heap.lt_size (N q hq).1) (by rw [e]; exact Nat.lt_irrefl _))

theorem getD_mem {l : List Nat} {j : Nat} (h : j < (T l).cps.size) : (T l).cps.getD j 0 ∈ l := by
  have hj : j < l.length := by simpa [T] using h
  have e : (T l).cps.getD j 0 = l[j] := by simp [T, Array.getD, hj]
  rw [e]; exact List.getElem_mem hj
theorem join_one (y : Str) : Txt.join Str.empty [y] = y := rfl
theorem join_two (a b : List Nat) : Txt.join Str.empty [T a, T b] = T (a ++ b) := by
  unfold Txt.join Str.glued
  simp [T, Str.empty]
theorem ok_small (ts : List Str) (h : (ts.map (·.length)).sum ≤ 10000) : JoinOk Str.empty ts = true := by
  have fl : ∀ (l : List Str) (a : Nat), l.foldl (fun acc y => acc + y.length + Str.empty.length) a = a + (l.map (·.length)).sum := by
    intro l
    induction l with
    | nil => intro a; rfl
    | cons y l ih => intro a; rw [List.foldl_cons, ih]; simp [Str.empty, Str.length]; omega
  unfold JoinOk Builtin.Str.tooLong
  rw [List.foldl_toArray, fl]
  simp [sizeLine]; omega
theorem ext_all (x : Str) : (⟨x.cps.extract 0 x.cps.size⟩ : Str) = x := by cases x; simp

theorem sub2 {p : Addr} {repl : Str} {l : List Nat} {t tr : Tok} {Q : Value → Shared → Prop}
    (P : Pat h₀ p code2) (F : Fr h₀ L s.heap m) (N : News h₀ L s.heap news) (hr : repl.cps.contains 92 = false) (h1 : 1 ≤ l.length) (h2 : l.length ≤ 200) (hne : ∀ k ∈ l, k ≠ 10 ∧ k ≠ 13)
    (h : ∀ t' h' tk, Fr h₀ L h' m → News h₀ L h' news → Q (.str (T l) t') { s with heap := h', toks := tk }) :
    wpAny (model prog w) A (call (.builtin "re.Pattern.sub") [.ref p, .str repl tr, .str (T l) t]) Q E s := by
  have hT : s.TypeIs (.ref p) "re.Pattern" := let ⟨o, _, _, _, _, _, _, _, _, e1, e2, _⟩ := P.keeps F.keep; ⟨o, e1, e2⟩
  have hlen : (T l).cps.size = l.length := by simp [T]
  refine wpAny_call (codeAny_call_builtin slot_sub.plain entry_sub (slot_sub.check _ _ _ _ _ _ _ _ hT (args_sub _ _ _)
    (sub_start (R := fun r s' => match r with | .ok (.ret v) => Q v s' | .ok _ => False | .error e => E e s') (P.keeps F.keep) F N hr ?_)))
  intro ll h' F' N' hl
  refine codeAny_builtin entry_loop ?_
  rw [Around.under_plainId plain_loop]
  refine loop_end (R := fun r s' => match r with | .ok (.ret v) => Q v s' | .ok _ => False | .error e => E e s') (s := { s with heap := h' }) (code := code2) (ts := []) (N₀ := 1) (start := 0) (done := 0) (P.keeps F'.keep) F' N' hl (by rw [T_len]; omega) (by decide) (by rw [T_len]; omega) ?_ (by decide) (search2 _ _ (by omega) fun j hj => hne _ (getD_mem hj)) ?_
  · intro y hy; exact ok_small _ (by simp; omega)
  · intro t' h'' tk F'' N''
    show Q (.str (Txt.join Str.empty [⟨(T l).cps.extract 0 (T l).cps.size⟩]) t') _
    rw [ext_all, join_one]
    exact h t' h'' tk F'' N''

theorem sub1 {p : Addr} {repl l : List Nat} {t tr : Tok} {Q : Value → Shared → Prop}
    (P : Pat h₀ p code1) (F : Fr h₀ L s.heap m) (N : News h₀ L s.heap news) (hr : (T repl).cps.contains 92 = false) (hrl : repl.length ≤ 10) (h1 : 1 ≤ l.length) (h2 : l.length ≤ 200) (hne : ∀ k ∈ l, k ≠ 10)
    (h : ∀ t' h' tk, Fr h₀ L h' m → News h₀ L h' news → Q (.str (T (repl ++ l)) t') { s with heap := h', toks := tk }) :
    wpAny (model prog w) A (call (.builtin "re.Pattern.sub") [.ref p, .str (T repl) tr, .str (T (46 :: l)) t]) Q E s := by
  have hT : s.TypeIs (.ref p) "re.Pattern" := let ⟨o, _, _, _, _, _, _, _, _, e1, e2, _⟩ := P.keeps F.keep; ⟨o, e1, e2⟩
  obtain ⟨k, hk⟩ : ∃ k, l.length = k + 1 := ⟨l.length - 1, by omega⟩
  have hlen : (T (46 :: l)).cps.size = k + 1 + 1 := by simp [T, hk]
  have hne' : ∀ j, j < (T (46 :: l)).cps.size → (T (46 :: l)).cps.getD j 0 ≠ 10 := fun j hj => by
    rcases List.mem_cons.mp (getD_mem hj) with e | e
    · rw [e]; decide
    · exact hne _ e
  refine wpAny_call (codeAny_call_builtin slot_sub.plain entry_sub (slot_sub.check _ _ _ _ _ _ _ _ hT (args_sub _ _ _)
    (sub_start (R := fun r s' => match r with | .ok (.ret v) => Q v s' | .ok _ => False | .error e => E e s') (P.keeps F.keep) F N hr ?_)))
  intro ll h' F' N' hl
  refine codeAny_builtin entry_loop ?_
  rw [Around.under_plainId plain_loop]
  have e0 : Sre.forSearch code1 (T (46 :: l)).cps 0 0 (T (46 :: l)).cps.size false = stA (T (46 :: l)).cps (k + 1 + 1) 0 true false (({} : Sre.Seen).add 14) := by rw [hlen]; exact search1 _ 0 k (by omega)
  have e1 : Sre.forSearch code1 (T (46 :: l)).cps 0 1 (T (46 :: l)).cps.size false = stA (T (46 :: l)).cps (k + 1 + 1) 1 true false (({} : Sre.Seen).add 14) := by rw [hlen]; exact search1 _ 1 k (by omega)
  have hh := hit1 (T (46 :: l)).cps (k + 1) (({} : Sre.Seen).add 14) (by simp [T])
  refine loop_hit (R := fun r s' => match r with | .ok (.ret v) => Q v s' | .ok _ => False | .error e => E e s') (s := { s with heap := h' }) (code := code1) (N₀ := 5) (P.keeps F'.keep) F' N' hl (by decide) (by rw [e0]; exact hh.1) (by rw [e0]; exact hh.2.1) (by rw [e0]; exact hh.2.2) ?_
  intro h2' F2 N2
  refine codeAny_builtin entry_loop ?_
  rw [Around.under_plainId plain_loop]
  refine loop_end (R := fun r s' => match r with | .ok (.ret v) => Q v s' | .ok _ => False | .error e => E e s') (s := { s with heap := h2' }) (code := code1) (ts := [(T repl, tr)]) (N₀ := 2 * (k + 1 + 1 - 1) + 3) (start := 1) (done := 1) (P.keeps F2.keep) F2 N2 hl (by rw [T_len]; simp; omega) (by simp) (by rw [T_len]; simp; omega) ?_ (by omega)
    (by rw [e1]; exact miss1 _ _ (fun j hj => hne' j (by omega)) _ 1 _ _ _ (by omega) (by omega) rfl) ?_
  · intro y hy; exact ok_small _ (by simp [T_len]; omega)
  · intro t' h'' tk F'' N''
    have e : (⟨(T (46 :: l)).cps.extract 1 (T (46 :: l)).cps.size⟩ : Str) = T l := by simp [T]
    show Q (.str (Txt.join Str.empty [T repl, ⟨(T (46 :: l)).cps.extract 1 (T (46 :: l)).cps.size⟩]) t') _
    rw [e, join_two]
    exact h t' h'' tk F'' N''
end
end Sr
end Mine
namespace Mine
theorem pat1 {P : Params} {h : Heap} (X : (hd.heap_39 P).In h) : Sr.Pat h 75 Sr.code1 :=
  ⟨_, _, _, _, _, 74, _, _, _, X 75 _ (by rfl), by rfl, by rfl, by rfl, X 74 _ (by rfl), by rfl, by decide +kernel⟩
theorem pat2 {P : Params} {h : Heap} (X : (hd.heap_39 P).In h) : Sr.Pat h 80 Sr.code2 :=
  ⟨_, _, _, _, _, 79, _, _, _, X 80 _ (by rfl), by rfl, by rfl, by rfl, X 79 _ (by rfl), by rfl, by decide +kernel⟩
section
variable {prog : Program} {w : World} {A : Around} {E : Value → Shared → Prop} {s : Shared} {h₀ : Heap} {L l : Addr} {m : Str → Option Value} {news : List (Addr × Obj)} {P : Params} {t tr : Tok} {n c : Nat}
theorem get_sub {p : Addr} {code : Array Nat} {pl : Sem Bool} {Q : Value × List Value → Shared → Prop} (P : Sr.Pat s.heap p code) (h : Q (.builtin "re.Pattern.sub", [.ref p]) s) : wpAny (model prog w) A (getMethod (.ref p) "sub" pl) Q E s := by
  obtain ⟨o, _, _, _, _, _, _, _, _, e1, e2, e3, _⟩ := P
  exact getMethod_builtin ⟨o, e1, e2⟩ Sr.attrs_pat Sr.slot_sub Sr.type_sub (fun a e => by cases e; exact ⟨o, e1, e3⟩) h
theorem get_sub1 {pl : Sem Bool} {Q : Value × List Value → Shared → Prop} (X : (hd.heap_39 P).In h₀) (F : Fr h₀ L s.heap m) (h : Q (.builtin "re.Pattern.sub", [.ref 75]) s) : wpAny (model prog w) A (getMethod (.ref 75) "sub" pl) Q E s := get_sub ((pat1 X).keeps F.keep) h
theorem get_sub2 {pl : Sem Bool} {Q : Value × List Value → Shared → Prop} (X : (hd.heap_39 P).In h₀) (F : Fr h₀ L s.heap m) (h : Q (.builtin "re.Pattern.sub", [.ref 80]) s) : wpAny (model prog w) A (getMethod (.ref 80) "sub" pl) Q E s := get_sub ((pat2 X).keeps F.keep) h
theorem call_sub2 {Q : Value → Shared → Prop} (X : (hd.heap_39 P).In h₀) (F : Fr h₀ L s.heap m) (N : News h₀ L s.heap news) (hn2 : n ≤ 100) (hc1 : c ≠ 10) (hc2 : c ≠ 13)
    (h : ∀ t' h' tk, Fr h₀ L h' m → News h₀ L h' news → Q (.str (tx 46 n c) t') { s with heap := h', toks := tk }) :
    wpAny (model prog w) A (call (.builtin "re.Pattern.sub") [.ref 80, .str (Str.ofString "\r\n") tr, .str (tx 46 n c) t]) Q E s :=
  Sr.sub2 (pat2 X) F N (by decide +kernel) (by rw [tx_len]; omega) (by rw [tx_len]; omega) (fun k hk => by
    rcases List.mem_append.mp hk with e | e
    · rw [List.eq_of_mem_replicate e]; decide
    · rw [List.mem_singleton.mp e]; exact ⟨hc1, hc2⟩) h
theorem lit_dd : Str.ofString ".." = T [46, 46] := by decide
theorem call_sub1 {x : Str} {Q : Value → Shared → Prop} (X : (hd.heap_39 P).In h₀) (F : Fr h₀ L s.heap m) (N : News h₀ L s.heap news) (hx : x = T [46, 46]) (hn : 0 < n) (hn2 : n ≤ 100) (hc1 : c ≠ 10)
    (h : ∀ t' h' tk, Fr h₀ L h' m → News h₀ L h' news → Q (.str (tx 46 (n + 1) c) t') { s with heap := h', toks := tk }) :
    wpAny (model prog w) A (call (.builtin "re.Pattern.sub") [.ref 75, .str x tr, .str (tx 46 n c) t]) Q E s := by
  subst hx
  obtain ⟨q, rfl⟩ : ∃ q, n = q + 1 := ⟨n - 1, by omega⟩
  exact Sr.sub1 (repl := [46, 46]) (l := List.replicate q 46 ++ [c]) (pat1 X) F N (by decide +kernel) (by decide) (by rw [tx_len]; omega) (by rw [tx_len]; omega) (fun k hk => by
    rcases List.mem_append.mp hk with e | e
    · rw [List.eq_of_mem_replicate e]; decide
    · rw [List.mem_singleton.mp e]; exact hc1) h
end
local macro_rules | `(tactic| walk_at "getMethod ref") => `(tactic| (k_here; k_dflt (first | refine' get_sub1 ?k1 ?k2 ?_ | refine' get_sub2 ?k1 ?k2 ?_); (case k1 => k_asm); (case k2 => k_asm)))
local macro_rules | `(tactic| walk_at "call builtin:re.Pattern.sub") => `(tactic| (k_here; (first
  | (k_dflt (refine' call_sub2 ?k1 ?k2 ?k3 ?k4 ?k5 ?k6 ?_); (case k1 => k_asm); (case k2 => k_asm); (case k3 => k_asm); (case k4 => assumption); (case k5 => assumption); (case k6 => assumption))
  | (k_dflt (refine' call_sub1 ?k1 ?k2 ?k3 lit_dd ?k4 ?k5 ?k6 ?_); (case k1 => k_asm); (case k2 => k_asm); (case k3 => k_asm); (case k4 => assumption); (case k5 => assumption); (case k6 => assumption))); intro t8 h8 tk8 F8 N8))
theorem quote_says0 (w : World) (mean mg mb) (n c : Nat) (t : Tok) (hn : 0 < n) (hn2 : n ≤ 100) (hc1 : c ≠ 10) (hc2 : c ≠ 13) :
    Says0 w mean mg mb 87 [.str (tx 46 n c) t] 4 40 (RS (tx 46 (n + 1) c)) := by
  unfold Says0
  k_fill
  intro dp un gd cn cs a ccd cl outer A₀ base h₀ L m news s Q E B F X N T hk hroom hu hret
  refine wpAny_call ?_
  k_dflt cell_enter
  k_steps
  exact hret _ [] _ _ (by k_asm) (by k_asm) ⟨rfl, _, rfl⟩
theorem quote_says (w : World) (mean mg mb) (n c : Nat) (t : Tok) (hn : 0 < n) (hn2 : n ≤ 100) (hc1 : c ≠ 10) (hc2 : c ≠ 13) :
    Says w mean mg mb 87 [.str (tx 46 n c) t] 4 40 (RS (tx 46 (n + 1) c)) := says_of (quote_says0 w mean mg mb n c t hn hn2 hc1 hc2)
end Mine
namespace Mine
def lc (c : Nat) : Str := T [c]
/-- the piles' sizes on the way -/
def stepN (n : Nat) : Nat := if n % 2 = 0 then n / 2 else if n / 2 % 2 = 0 then n - 1 else n + 1
def orb : Nat → Nat → List Nat
  | 0, n => [n]
  | k + 1, n => if n = 0 then [n] else n :: orb k (stepN n)
theorem orb_zero (k : Nat) : orb k 0 = [0] := by cases k <;> rfl
theorem stepN_le {n : Nat} (h : n ≤ 41) : stepN n ≤ 41 := by
  unfold stepN
  split
  · omega
  · split <;> omega
theorem orb_le : ∀ (k : Nat) {n : Nat}, n ≤ 41 → ∀ a ∈ orb k n, a ≤ 41
  | 0, n, h, a, ha => by rw [List.mem_singleton.mp ha]; exact h
  | k + 1, n, h, a, ha => by
    unfold orb at ha
    split at ha
    · rw [List.mem_singleton.mp ha]; exact h
    · rcases List.mem_cons.mp ha with rfl | ha
      · exact h
      · exact orb_le k (stepN_le h) a ha

section
variable {w : World} {mean : ExcName → Option Value} {mg mb : Str → Option Value} {n c : Nat} {t : Tok}
theorem read_even (hn : n ≤ 100) (hc1 : 97 ≤ c) (hc2 : c ≤ 122) (he : n % 2 = 0) : Says w mean mg mb 94 [.str (tx 46 n c) t] 4 40 (RS (tx 46 (n / 2) c)) := by
  have h := read_says w mean mg mb n c t hn (by omega) (by omega)
  rw [show rd n c = tx 46 (n / 2) c from if_pos he] at h
  exact h
theorem read_odd (hn : n ≤ 100) (hc1 : 97 ≤ c) (hc2 : c ≤ 122) (he : n % 2 = 1) : Says w mean mg mb 94 [.str (tx 46 n c) t] 4 40 (RS (rp 46 (n / 2))) := by
  have h := read_says w mean mg mb n c t hn (by omega) (by omega)
  rw [show rd n c = rp 46 (n / 2) from if_neg (by omega)] at h
  exact h
theorem bare_c (hn : 0 < n) (hn2 : n ≤ 100) (hc1 : 97 ≤ c) (hc2 : c ≤ 122) : Says w mean mg mb 101 [.str (tx 46 n c) t] 4 40 (RS (tx 46 (n - 1) c)) := bare_says w mean mg mb n c t hn hn2 (by omega) (by omega)
theorem quote_c (hn : 0 < n) (hn2 : n ≤ 100) (hc1 : 97 ≤ c) (hc2 : c ≤ 122) : Says w mean mg mb 87 [.str (tx 46 n c) t] 4 40 (RS (tx 46 (n + 1) c)) := quote_says w mean mg mb n c t hn hn2 (by omega) (by omega)
end
theorem drop_tx (k n c : Nat) : (List.replicate n k ++ [c]).drop ((List.replicate n k ++ [c]).length - 1) = [c] := by
  rw [tx_len, Nat.add_sub_cancel, List.drop_append_of_le_length (by simp)]; simp
theorem drop_rp (k n : Nat) : (List.replicate n k).drop ((List.replicate n k).length - 1) = List.replicate (min n 1) k := by
  rw [List.drop_replicate, List.length_replicate]; congr 1; omega
section
variable {prog : Program} {w : World} {A : Around} {E : Value → Shared → Prop} {s : Shared} {value slice : PySem.Expr} {t u v : Tok} {Q : Value → Shared → Prop} {h₀ : Heap} {L : Addr} {m : Str → Option Value} {news : List (Addr × Obj)}
theorem last_tx {n c : Nat} {ui : Tok} (hn2 : n ≤ 100) (F : Fr h₀ L s.heap m) (N : News h₀ L s.heap news)
    (h : ∀ h' t' k', Fr h₀ L h' m → News h₀ L h' news → Q (.str (lc c) t') { s with heap := h', toks := k' })
    (hs : subscripted slice false (.str (tx 46 n c) t) (.ref s.heap.objs.size) = operate [.ref s.heap.objs.size, .str (tx 46 n c) t] (getItem (.str (tx 46 n c) t) (.ref s.heap.objs.size)) := by with_unfolding_all rfl)
    (ht : ∀ r, letTemporaryGo value (.str (tx 46 n c) t) r = pure () := by intro _; with_unfolding_all rfl) :
    wpAny (model prog w) A (subscriptTail value slice (.str (tx 46 n c) t) (.ref s.heap.objs.size)) Q E { s with heap := s.heap.push { cls := .type "slice", data := .fields #[.int (-1) ui, .none, .none] } } :=
  slice_last_T _ F N (drop_tx 46 n c) (by rw [tx_len]; omega) h hs ht
theorem last_rp {n : Nat} {ui : Tok} (hn2 : n ≤ 100) (F : Fr h₀ L s.heap m) (N : News h₀ L s.heap news)
    (h : ∀ h' t' k', Fr h₀ L h' m → News h₀ L h' news → Q (.str (rp 46 (min n 1)) t') { s with heap := h', toks := k' })
    (hs : subscripted slice false (.str (rp 46 n) t) (.ref s.heap.objs.size) = operate [.ref s.heap.objs.size, .str (rp 46 n) t] (getItem (.str (rp 46 n) t) (.ref s.heap.objs.size)) := by with_unfolding_all rfl)
    (ht : ∀ r, letTemporaryGo value (.str (rp 46 n) t) r = pure () := by intro _; with_unfolding_all rfl) :
    wpAny (model prog w) A (subscriptTail value slice (.str (rp 46 n) t) (.ref s.heap.objs.size)) Q E { s with heap := s.heap.push { cls := .type "slice", data := .fields #[.int (-1) ui, .none, .none] } } :=
  slice_last_T _ F N (drop_rp 46 n) (by simp; omega) h hs ht
theorem eq_lc {c : Nat} (h : Q (.bool true) s) : wpAny (model prog w) A (compareOp .Eq (.str (lc c) t) (.str (lc c) u)) Q E s := eq_T (by simp) h
theorem eq_tx0 {c : Nat} (h : Q (.bool true) s) : wpAny (model prog w) A (compareOp .Eq (.str (tx 46 0 c) t) (.str (lc c) u)) Q E s := eq_T (by show (T [c] == T [c]) = true; simp) h
theorem eq_tx1 {n c : Nat} (hn : 0 < n) (h : Q (.bool false) s) : wpAny (model prog w) A (compareOp .Eq (.str (tx 46 n c) t) (.str (lc c) u)) Q E s :=
  eq_T (b := false) (by rw [tx, lc, T_beq]; exact decide_eq_false (fun e => by have := congrArg List.length e; simp at this; omega)) h
theorem eq_rp {n c : Nat} (hc : 97 ≤ c) (h : Q (.bool false) s) : wpAny (model prog w) A (compareOp .Eq (.str (rp 46 n) t) (.str (lc c) u)) Q E s :=
  eq_T (b := false) (by rw [rp, lc, T_beq]; exact decide_eq_false (fun e => by
    have hm : c ∈ List.replicate n 46 := by rw [e]; exact List.mem_singleton.mpr rfl
    have := List.eq_of_mem_replicate hm; omega)) h
theorem add_rp_lc {n c : Nat} (hn : n ≤ 100) (h : ∀ t' tk, s.toks ≤ tk → Q (.str (tx 46 n c) t') { s with toks := tk }) : wpAny (model prog w) A (binaryOp .Add (.str (rp 46 n) t) (.str (lc c) u)) Q E s := add_rp hn h
end
local macro_rules | `(tactic| walk_at "subscriptTail") => `(tactic| (k_here; (with_reducible show wpAny _ _ (subscriptTail _ _ (Value.str _ _) (Value.ref _)) _ _ _); (with_reducible rename Fr _ _ _ _ => F'); (with_reducible rename News _ _ _ _ => N'); (first | refine last_tx (s := ⟨_, _, _, _, _⟩) (by omega) F' N' ?_ | refine last_rp (s := ⟨_, _, _, _, _⟩) (by omega) F' N' ?_); intro _ _ _ _ _))
local macro_rules | `(tactic| walk_at "compareOp Eq str str") => `(tactic| (k_here; (with_reducible first | refine eq_lc ?_ | refine eq_tx0 ?_ | refine eq_tx1 (by omega) ?_ | refine eq_rp (by assumption) ?_)))
local macro_rules | `(tactic| walk_at "binaryOp Add str str") => `(tactic| (k_here; refine add_rp_lc (by omega) ?_; intro t8 tk8 hk8; (try dsimp only at hk8)))
local macro_rules | `(tactic| walk_at "call ref") => `(tactic| (k_here; k_dflt ((first
    | refine' use_str (read_even ?p1 ?p2 ?p3 ?p4) ?k1 ?k2 ?k3 ?k4 ?k5 ?k6 ?k7 ?k8 ?_
    | refine' use_str (bare_c ?p4 ?p1 ?p2 ?p3) ?k1 ?k2 ?k3 ?k4 ?k5 ?k6 ?k7 ?k8 ?_
    | refine' use_str (quote_c ?p4 ?p1 ?p2 ?p3) ?k1 ?k2 ?k3 ?k4 ?k5 ?k6 ?k7 ?k8 ?_); (case p1 => omega); (case p2 => assumption); (case p3 => assumption); (case p4 => omega); (case k1 => k_asm); (case k2 => k_asm); (case k3 => k_asm); (case k4 => k_asm); (case k5 => k_asm); (case k6 => first | exact rfl | assumption); (case k7 => ktr_room); (case k8 => ktr_units); k_whole); intro t9 h9 tk9 hk9 F9 N9; (try dsimp only at hk9)))
local macro_rules | `(tactic| walk_at "call ref") => `(tactic| (k_here; k_dflt ((first
    | refine' use_str (read_odd ?p1 ?p2 ?p3 ?p4) ?k1 ?k2 ?k3 ?k4 ?k5 ?k6 ?k7 ?k8 ?_); (case p1 => omega); (case p2 => assumption); (case p3 => assumption); (case p4 => omega); (case k1 => k_asm); (case k2 => k_asm); (case k3 => k_asm); (case k4 => k_asm); (case k5 => k_asm); (case k6 => first | exact rfl | assumption); (case k7 => ktr_room); (case k8 => ktr_units); k_whole); intro t9 h9 tk9 hk9 F9 N9; (try dsimp only at hk9)))
local macro_rules | `(tactic| walk_at "pyIter ref") => `(tactic| (k_here; refine Stop.mk ?_))
local macro_rules | `(tactic| walk_at "InvEndN") => `(tactic| (refine Stop.mk ?_))
local macro_rules | `(tactic| walk_at "exec For Name Call cons nil") => `(tactic| (k_here; (rename Fr _ _ _ _ => lF'); (with_unfolding_all refine' For_invVF lF' ?k1 ?k2 ?_; (case k1 => exact rfl); (case k2 => exact rfl); k_whole)))
local macro_rules | `(tactic| walk_at "call builtin:list.append") => `(tactic| (k_here; k_dflt (refine' append_K ?k1 ?k2 ?k3 ?_ ?z; (case k1 => k_asm); (case k2 => k_asm); (case k3 => exact Upd.head (by assumption)); (case z => (rw [sizeLine_eq, List.size_toArray]; omega)); k_whole); intro h' F' N'; (try k_sweep)))
abbrev WS := Nat × List Value × Nat × Nat
def WInv (N c : Nat) (pre : List Int) (st : WS) : Prop :=
  ∃ ns : List Nat, CarriedAll st.2.1 ((ns ++ [st.1]).map fun a => PyData.str (tx 46 a c)) ∧ orb 24 N = ns ++ orb (24 - pre.length) st.1 ∧ st.1 ≤ 41 ∧ st.2.1.length = pre.length + 1 ∧ pre.length ≤ 24
theorem sub_led {α : Type} {a : α} {l own : List α} : ∀ p ∈ [a] ++ l, p ∈ a :: (l ++ own) := by
  intro p hp
  rcases List.mem_append.mp hp with h | h
  · rw [List.mem_singleton.mp h]; exact .head _
  · exact .tail _ (List.mem_append.mpr (.inl h))
theorem sub_led2 {α : Type} {a : α} {l own : List α} : ∀ p ∈ a :: l, p ∈ a :: (l ++ own) := by
  intro p hp
  rcases List.mem_cons.mp hp with h | h
  · rw [h]; exact .head _
  · exact .tail _ (List.mem_append.mpr (.inl h))
theorem sub_led3 {α : Type} {a : α} {l own : List α} : ∀ p ∈ own, p ∈ a :: (l ++ own) := fun p hp => .tail _ (List.mem_append.mpr (.inr hp))
theorem carried_snoc {vs : List Value} {ds : List PyData} {x : Str} {t : Tok} : CarriedAll vs ds → CarriedAll (vs ++ [.str x t]) (ds ++ [.str x])
  | .nil => .cons (.str _ _) .nil
  | .cons h r => .cons h (carried_snoc r)
theorem winv_step {N c : Nat} {pre : List Int} {k k2 : Nat} {vs : List Value} {nn' tp' t : Nat} {kk : Int} {ns : List Nat} (hv : CarriedAll vs ((ns ++ [k]).map fun a => PyData.str (tx 46 a c))) (ho : orb 24 N = ns ++ orb (24 - pre.length) k)
    (h41 : k ≤ 41) (hlen : vs.length = pre.length + 1) (hlt : pre.length < 24) (h0 : 0 < k) (hk2 : stepN k = k2) : WInv N c (pre ++ [kk]) (k2, vs ++ [.str (tx 46 k2 c) t], nn', tp') := by
  refine ⟨ns ++ [k], ?_, ?_, ?_, ?_, ?_⟩
  · have := carried_snoc (x := tx 46 k2 c) (t := t) hv
    simpa using this
  · rw [ho, show 24 - pre.length = (24 - (pre ++ [kk]).length) + 1 by simp; omega]
    show ns ++ (if k = 0 then [k] else k :: orb _ (stepN k)) = _
    rw [if_neg (by omega), hk2]; simp
  · show k2 ≤ 41
    rw [← hk2]; exact stepN_le h41
  · simp; omega
  · simp; omega
/-- a list of piles -/
def Piles (ns : List Nat) (c : Nat) (r : Value) (tl : List (Addr × Obj)) : Prop :=
  ∃ l vs nn, r = .ref l ∧ tl = [(l, listOf (List.toArray vs) nn)] ∧ CarriedAll vs (ns.map fun a => PyData.str (tx 46 a c))
theorem walk_says0 (w : World) (mean mg mb) (n c : Nat) (t t2 : Tok) (hn2 : n ≤ 41) (hc1 : 97 ≤ c) (hc2 : c ≤ 122) :
    Says0 w mean mg mb 108 [.str (tx 46 n c) t, .str (lc c) t2] 6 80 (Piles (orb 24 n) c) := by
  unfold Says0
  k_fill
  intro dp un gd cn cs a ccd cl outer A₀ base h₀ L m news s Q E B F X N T hk hroom hu hret
  refine wpAny_call ?_
  k_dflt cell_enter
  k_steps
  unfold Stop
  rename_i lS _ l1 _ _ _ _ _ _ _ _ rgX lF lN hK
  with_unfolding_all refine' kst_range (σ := WS) (fun c' => (lS, listOf c'.2.1.toArray c'.2.2.1) :: news) (fun c' => [(Str.ofString "pile", .str (tx 46 c'.1 c) c'.2.2.2)]) (fun _ => True) [Str.ofString "name"] (WInv n c) (n, [.str (tx 46 n c) t], 0, t) rfl rgX (by decide) (n := 24) ?hn lF lN trivial ?kk ?kp ?turn ?done
  case hn => rfl
  case kk => kst_all
  case kp => exact ⟨[], .cons (.str _ _) .nil, rfl, hn2, rfl, by decide⟩
  case turn =>
    rintro ⟨k, vs, nn, tp⟩ pre kk tt u h tk own hkk hlt hoff _ hP F1 N1
    clear lF lN rgX hK
    dsimp only [kstB] at F1
    obtain ⟨ns, hv, ho, hk41, hlen, hpl⟩ := hP
    dsimp only at hv ho hk41 hlen
    have hD : ∀ p ∈ news ++ own, p.1 ≠ lS := by
      intro p hp
      rcases List.mem_append.mp hp with q | q
      · exact Nat.ne_of_lt (l1 p q)
      · exact hoff p q lS (.head _)
    have N2 : News _ _ h ((lS, listOf vs.toArray nn) :: (news ++ own)) := N1
    clear N1
    try k_fold
    rcases Nat.eq_zero_or_pos k with h0 | h0
    · subst h0
      k_steps
      (rename News h₀ L _ _ => nE)
      refine hret _ [(lS, listOf vs.toArray nn)] _ _ (by k_asm) (kst_newsOf nE sub_led) ⟨lS, vs, nn, rfl, rfl, ?_⟩
      rw [ho, orb_zero]; exact hv
    · rcases Nat.mod_two_eq_zero_or_one k with he | he
      · k_steps
        unfold Stop
        (rename News _ _ _ _ => nE); (try simp only [List.push_toArray] at nE)
        refine kst_end (k / 2, vs ++ [.str (tx 46 (k / 2) c) _], nn + 1, _) (by assumption) nE sub_led2 sub_led3 rfl trivial (by kst_all) (by kst_same) (winv_step hv ho hk41 hlen hlt h0 (if_pos he))
      · rcases Nat.mod_two_eq_zero_or_one (k / 2) with he2 | he2
        · k_steps
          unfold Stop
          (rename News _ _ _ _ => nE); (try simp only [List.push_toArray] at nE)
          refine kst_end (k - 1, vs ++ [.str (tx 46 (k - 1) c) _], nn + 1, _) (by assumption) nE sub_led2 sub_led3 rfl trivial (by kst_all) (by kst_same) (winv_step hv ho hk41 hlen hlt h0 (by unfold stepN; rw [if_neg (by omega), if_pos he2]))
        · k_steps
          unfold Stop
          (rename News _ _ _ _ => nE); (try simp only [List.push_toArray] at nE)
          refine kst_end (k + 1, vs ++ [.str (tx 46 (k + 1) c) _], nn + 1, _) (by assumption) nE sub_led2 sub_led3 rfl trivial (by kst_all) (by kst_same) (winv_step hv ho hk41 hlen hlt h0 (by unfold stepN; rw [if_neg (by omega), if_neg (by omega)]))
  case done =>
    rintro ⟨k, vs, nn, tp⟩ u h tk _ hP F1 N1
    clear lF lN rgX hK
    dsimp only [kstB] at F1
    obtain ⟨ns, hv, ho, hk41, hlen, hpl⟩ := hP
    dsimp only at hv ho hk41 hlen
    try k_fold
    k_steps
    (rename News h₀ L _ _ => nE)
    refine hret _ [(lS, listOf vs.toArray nn)] _ _ (by k_asm) nE ⟨lS, vs, nn, rfl, rfl, ?_⟩
    rw [ho]
    exact hv
theorem walk_says (w : World) (mean mg mb) (n c : Nat) (t t2 : Tok) (hn2 : n ≤ 41) (hc1 : 97 ≤ c) (hc2 : c ≤ 122) :
    Says w mean mg mb 108 [.str (tx 46 n c) t, .str (lc c) t2] 6 80 (Piles (orb 24 n) c) := says_of (walk_says0 w mean mg mb n c t t2 hn2 hc1 hc2)
end Mine
namespace Mine
def thr (N t : Nat) : Nat := 3 * N / 2 ^ t
def one (N t : Nat) : Nat := N / 2 ^ t
def du (N : Nat) : Nat → Nat → List Nat
  | 0, _ => []
  | k + 1, t => if thr N t = 0 then [] else (thr N t - one N t) :: ((if thr N t - one N t = 2 * (thr N (t + 1) - one N (t + 1)) then [] else [2 * (thr N (t + 1) - one N (t + 1))]) ++ du N k (t + 1))
theorem one_le (N t : Nat) : one N t ≤ thr N t := Nat.div_le_div_right (by omega)
theorem thr_le (N t : Nat) : thr N t ≤ 3 * N := Nat.div_le_self _ _
theorem thr_8 {N : Nat} (h : N ≤ 41) : thr N 8 = 0 := by unfold thr; omega

section
variable {prog : Program} {w : World} {A : Around} {E : Value → Shared → Prop} {s : Shared} {t u v : Tok} {Q : Value → Shared → Prop}
theorem fdiv_cast (a k : Nat) : ((a : Nat) : Int).fdiv (2 ^ k) = ((a / 2 ^ k : Nat) : Int) := by
  rw [Int.fdiv_eq_ediv_of_nonneg _ (Int.le_of_lt (by exact_mod_cast Nat.two_pow_pos k))]
  push_cast; rfl
theorem shr3 {N k : Nat} {e : Int} (he : e = (k : Int)) (h : Q (.int (thr N k : Nat) s.toks) { s with toks := s.toks + 1 }) : wpAny (model prog w) A (binaryOp .RShift (.int (3 * (N : Int)) t) (.int e u)) Q E s := by
  subst he
  refine rshift_int (by omega) ?_
  rw [Int.toNat_natCast, show (3 * (N : Int)) = ((3 * N : Nat) : Int) by omega, fdiv_cast]
  exact h
theorem shr1 {N k : Nat} {e : Int} (he : e = (k : Int)) (h : Q (.int (one N k : Nat) s.toks) { s with toks := s.toks + 1 }) : wpAny (model prog w) A (binaryOp .RShift (.int (N : Int) t) (.int e u)) Q E s := by
  subst he
  refine rshift_int (by omega) ?_
  rw [Int.toNat_natCast, fdiv_cast]
  exact h
theorem mul_dot {x : Str} {n : Int} (hx : x = T [46]) (h0 : 0 ≤ n) (h1 : n ≤ 1000) (h : ∀ t' tk, s.toks ≤ tk → Q (.str (rp 46 n.toNat) t') { s with toks := tk }) : wpAny (model prog w) A (binaryOp .Mult (.str x t) (.int n u)) Q E s := by
  subst hx
  exact mul_T _ (by simp) h0 h1 rfl h
theorem add_dot {n : Nat} {c : Nat} (hn : n ≤ 400) (h : ∀ t' tk, s.toks ≤ tk → Q (.str (tx 46 n c) t') { s with toks := tk }) : wpAny (model prog w) A (binaryOp .Add (.str (rp 46 n) t) (.str (lc c) u)) Q E s :=
  add_T (tx 46 n c) (T_append _ _) (by rw [tx, T_len, tx_len]; omega) h
theorem ne_no {a b : Int} (h : a = b) (hq : Q (.bool false) s) : wpAny (model prog w) A (compareOp .NotEq (.int a t) (.int b u)) Q E s := ne_int (by rw [show (a != b) = false by simpa using h]; exact hq)
theorem ne_yes {a b : Int} (h : a ≠ b) (hq : Q (.bool true) s) : wpAny (model prog w) A (compareOp .NotEq (.int a t) (.int b u)) Q E s := ne_int (by rw [show (a != b) = true by simpa using h]; exact hq)
theorem gt_no {a b : Int} (h : ¬ a > b) (hq : Q (.bool false) s) : wpAny (model prog w) A (compareOp .Gt (.int a t) (.int b u)) Q E s := gt_int (by rw [decide_eq_false h]; exact hq)
theorem gt_yes {a b : Int} (h : a > b) (hq : Q (.bool true) s) : wpAny (model prog w) A (compareOp .Gt (.int a t) (.int b u)) Q E s := gt_int (by rw [decide_eq_true h]; exact hq)
end
local macro_rules | `(tactic| walk_at "compareOp NotEq int int") => `(tactic| (k_here; first | refine ne_no (by assumption) ?_ | refine ne_yes (by assumption) ?_ | refine ne_no (by omega) ?_ | refine ne_yes (by omega) ?_))
local macro_rules | `(tactic| walk_at "compareOp Gt int int") => `(tactic| (k_here; first | refine gt_no (by omega) ?_ | refine gt_yes (by omega) ?_))
local macro_rules | `(tactic| walk_at "binaryOp RShift int int") => `(tactic| (k_here; (first
  | refine shr3 (k := _) rfl ?_ | refine shr3 (k := _ + 1) (Int.natCast_succ _).symm ?_ | refine shr1 (k := _) rfl ?_ | refine shr1 (k := _ + 1) (Int.natCast_succ _).symm ?_)))
local macro_rules | `(tactic| walk_at "binaryOp Mult str int") => `(tactic| (k_here; refine mul_dot lit_dot (by first | assumption | omega) (by first | assumption | omega) ?_; intro t8 tk8 hk8; (try dsimp only at hk8)))
local macro_rules | `(tactic| walk_at "binaryOp Add str str") => `(tactic| (k_here; refine add_dot (by first | assumption | omega) ?_; intro t8 tk8 hk8; (try dsimp only at hk8)))
local macro_rules | `(tactic| walk_at "KswEnd") => `(tactic| (refine Stop.mk ?_))
local macro_rules | `(tactic| walk_at "exec While Compare cons nil") => `(tactic| (k_here; refine Stop.mk ?_))
local macro_rules | `(tactic| walk_at "call builtin:list.append") => `(tactic| (k_here; k_dflt (refine' append_K ?k1 ?k2 ?k3 ?_ ?z; (case k1 => k_asm); (case k2 => k_asm); (case k3 => exact Upd.head (by assumption)); (case z => (simp only [sizeLine_eq, List.size_toArray, List.push_toArray, List.length_append, List.length_cons, List.length_nil, Array.size_push]; omega)); k_whole); intro h' F' N'; (try k_sweep)))
abbrev DS := Nat × List Value × Nat × Nat
def DInv (N c : Nat) (st : DS) : Prop :=
  ∃ ns : List Nat, CarriedAll st.2.1 (ns.map fun a => PyData.str (tx 46 a c)) ∧ du N 9 1 = ns ++ du N (10 - st.1) st.1 ∧ 1 ≤ st.1 ∧ st.1 ≤ 8 ∧ st.2.1.length ≤ 2 * st.1
theorem du_step {N k : Nat} {ns : List Nat} (ho : du N 9 1 = ns ++ du N (10 - k) k) (hk : k ≤ 8) (h0 : 0 < thr N k) :
    du N 9 1 = (ns ++ ((thr N k - one N k) :: (if thr N k - one N k = 2 * (thr N (k + 1) - one N (k + 1)) then [] else [2 * (thr N (k + 1) - one N (k + 1))]))) ++ du N (10 - (k + 1)) (k + 1) := by
  rw [ho, show 10 - k = (10 - (k + 1)) + 1 by omega]
  conv => lhs; rw [du]
  rw [if_neg (by omega)]
  simp
theorem k_7 {N k : Nat} (hn : N ≤ 41) (hk : k ≤ 8) (h0 : 0 < thr N k) : k ≤ 7 := by
  rcases Nat.lt_or_ge k 8 with h | h
  · omega
  · rw [show k = 8 by omega, thr_8 hn] at h0; exact absurd h0 (Nat.lt_irrefl _)
theorem dinv1 {N c k nn' tp' t : Nat} {vs : List Value} {ns : List Nat} (hv : CarriedAll vs (ns.map fun a => PyData.str (tx 46 a c))) (ho : du N 9 1 = ns ++ du N (10 - k) k) (hn : N ≤ 41) (hk1 : 1 ≤ k) (hk8 : k ≤ 8) (hlen : vs.length ≤ 2 * k) (h0 : 0 < thr N k)
    (he : thr N k - one N k = 2 * (thr N (k + 1) - one N (k + 1))) : DInv N c (k + 1, vs ++ [.str (tx 46 (thr N k - one N k) c) t], nn', tp') := by
  have h7 := k_7 hn hk8 h0
  refine ⟨ns ++ [thr N k - one N k], ?_, ?_, ?_, ?_, ?_⟩
  · have := carried_snoc (x := tx 46 (thr N k - one N k) c) (t := t) hv
    simpa using this
  · have := du_step ho hk8 h0
    rw [if_pos he] at this
    exact this
  · show 1 ≤ k + 1; omega
  · show k + 1 ≤ 8; omega
  · simp; omega
theorem dinv2 {N c k nn' tp' t t2 : Nat} {vs : List Value} {ns : List Nat} (hv : CarriedAll vs (ns.map fun a => PyData.str (tx 46 a c))) (ho : du N 9 1 = ns ++ du N (10 - k) k) (hn : N ≤ 41) (hk1 : 1 ≤ k) (hk8 : k ≤ 8) (hlen : vs.length ≤ 2 * k) (h0 : 0 < thr N k)
    (he : ¬ thr N k - one N k = 2 * (thr N (k + 1) - one N (k + 1))) : DInv N c (k + 1, vs ++ [.str (tx 46 (thr N k - one N k) c) t] ++ [.str (tx 46 (2 * (thr N (k + 1) - one N (k + 1))) c) t2], nn', tp') := by
  have h7 := k_7 hn hk8 h0
  refine ⟨ns ++ [thr N k - one N k] ++ [2 * (thr N (k + 1) - one N (k + 1))], ?_, ?_, ?_, ?_, ?_⟩
  · have := carried_snoc (x := tx 46 (2 * (thr N (k + 1) - one N (k + 1))) c) (t := t2) (carried_snoc (x := tx 46 (thr N k - one N k) c) (t := t) hv)
    simpa using this
  · have := du_step ho hk8 h0
    rw [if_neg he] at this
    simpa using this
  · show 1 ≤ k + 1; omega
  · show k + 1 ≤ 8; omega
  · simp; omega
theorem due_says0 (w : World) (mean mg mb) (n c : Nat) (t t2 : Tok) (hn2 : n ≤ 41) (hc1 : 97 ≤ c) (hc2 : c ≤ 122) :
    Says0 w mean mg mb 115 [.int (n : Int) t, .str (lc c) t2] 6 80 (Piles (du n 9 1) c) := by
  unfold Says0
  k_fill
  intro dp un gd cn cs a ccd cl outer A₀ base h₀ L m news s Q E B F X N T hk hroom hu hret
  refine wpAny_call ?_
  k_dflt cell_enter
  k_steps
  unfold Stop
  rename_i lS _ l1 _ _ lF lN
  with_unfolding_all refine' ksw_while (σ := DS) (fun c' => (lS, listOf c'.2.1.toArray c'.2.2.1) :: news) (fun c' => [(Str.ofString "t", .int (c'.1 : Int) c'.2.2.2)]) (fun _ => True) [Str.ofString "here", Str.ofString "later"] (DInv n c) (fun st => 9 - st.1) (1, [], 0, _) lF lN trivial ?kk ?kp ?_
  case kk => kst_all
  case kp => exact ⟨[], .nil, rfl, Nat.le_refl _, by show 1 ≤ 8; decide, by show 0 ≤ 2; decide⟩
  have hD : ∀ p ∈ news, p.1 ≠ lS := fun p q => Nat.ne_of_lt (l1 p q)
  clear lF lN
  rintro ⟨k, vs, nn, tk1⟩ u h tk _ hP F1 N1
  dsimp only [kstB] at F1 N1
  obtain ⟨ns, hv, ho, hk1, hk8, hlen⟩ := hP
  dsimp only at hv ho hk1 hk8 hlen
  have e1 := one_le n k
  have e2 := one_le n (k + 1)
  have e3 := thr_le n k
  have e4 := thr_le n (k + 1)
  have hI1 : thr n k - one n k = 2 * (thr n (k + 1) - one n (k + 1)) → ((thr n k : Int) - (one n k : Int)) = 2 * ((thr n (k + 1) : Int) - (one n (k + 1) : Int)) := fun e => by omega
  have hI2 : ¬ thr n k - one n k = 2 * (thr n (k + 1) - one n (k + 1)) → ((thr n k : Int) - (one n k : Int)) ≠ 2 * ((thr n (k + 1) : Int) - (one n (k + 1) : Int)) := fun e q => e (by omega)
  have hb0 : 0 ≤ 2 * ((thr n (k + 1) : Int) - (one n (k + 1) : Int)) := by omega
  have hb1 : 2 * ((thr n (k + 1) : Int) - (one n (k + 1) : Int)) ≤ 1000 := by omega
  have hb2 : (2 * ((thr n (k + 1) : Int) - (one n (k + 1) : Int))).toNat ≤ 400 := by omega
  have hz1 : ((thr n k : Int) - (one n k : Int)).toNat = thr n k - one n k := by omega
  have hz2 : (2 * ((thr n (k + 1) : Int) - (one n (k + 1) : Int))).toNat = 2 * (thr n (k + 1) - one n (k + 1)) := by omega
  try k_fold
  rcases Nat.eq_zero_or_pos (thr n k) with h0 | h0
  · k_steps
    (rename News h₀ L _ _ => nE)
    refine hret _ [(lS, listOf vs.toArray nn)] _ _ (by k_asm) nE ⟨lS, vs, nn, rfl, rfl, ?_⟩
    rw [ho, show 10 - k = (9 - k) + 1 by omega, du, if_pos h0, List.append_nil]
    exact hv
  · by_cases hne : thr n k - one n k = 2 * (thr n (k + 1) - one n (k + 1))
    · have hI := hI1 hne
      clear hI1 hI2
      k_steps
      unfold Stop
      (rename News _ _ _ _ => nE); (simp only [List.push_toArray, hz1] at nE)
      refine ksw_end (k + 1, vs ++ [.str (tx 46 (thr n k - one n k) c) _], nn + 1, _) (by assumption) nE (fun p hp => hp) trivial (by kst_all) (by ksw_same) (dinv1 hv ho hn2 hk1 hk8 hlen h0 hne) (by dsimp only; omega)
    · have hI := hI2 hne
      clear hI1 hI2
      k_steps
      unfold Stop
      (rename News _ _ _ _ => nE); (simp only [List.push_toArray, hz1, hz2] at nE)
      refine ksw_end (k + 1, vs ++ [.str (tx 46 (thr n k - one n k) c) _] ++ [.str (tx 46 (2 * (thr n (k + 1) - one n (k + 1))) c) _], nn + 1 + 1, _) (by assumption) nE (fun p hp => hp) trivial (by kst_all) (by ksw_same) (dinv2 hv ho hn2 hk1 hk8 hlen h0 hne) (by dsimp only; omega)
theorem due_says (w : World) (mean mg mb) (n c : Nat) (t t2 : Tok) (hn2 : n ≤ 41) (hc1 : 97 ≤ c) (hc2 : c ≤ 122) :
    Says w mean mg mb 115 [.int (n : Int) t, .str (lc c) t2] 6 80 (Piles (du n 9 1) c) := says_of (due_says0 w mean mg mb n c t t2 hn2 hc1 hc2)
/-- the two tell the same -/
theorem orb_du : ∀ n, n < 41 → 0 < n → orb 24 n = du n 9 1 := by decide +kernel
end Mine
namespace Mine
/-- the runs: what is taken and the changes -/
def runsL : Nat → Nat → List (Nat × Nat)
  | 0, n => if n = 1 then [(0, 0)] else []
  | d + 1, n => if n = 1 then [(0, 0)] else if n % 2 = 0 then (runsL d (n / 2)).map (fun p => (2 * p.1, p.2))
    else (runsL d (n - 1)).map (fun p => (p.1 + 1, p.2 + 1)) ++ (runsL d (n + 1)).map (fun p => (p.1, p.2 + 1))
theorem runsL_len : ∀ d n, (runsL d n).length ≤ 2 ^ d
  | 0, n => by unfold runsL; split <;> simp
  | d + 1, n => by
    have h1 := runsL_len d (n / 2)
    have h2 := runsL_len d (n - 1)
    have h3 := runsL_len d (n + 1)
    have h4 : 0 < 2 ^ d := Nat.two_pow_pos d
    unfold runsL
    rw [Nat.pow_succ]
    split
    · simp; omega
    · split
      · simp; omega
      · simp; omega
abbrev Led := List (Addr × Obj)
def PairAt (led : Led) (v : Value) (p : Nat × Nat) : Prop :=
  ∃ (t : Addr) (o : Obj) (ta tb : Tok) (nt : Nat), v = .ref t ∧ (t, o) ∈ led ∧ o.cls = .type "tuple" ∧ o.data = .seq #[.int (p.1 : Int) ta, .int (p.2 : Int) tb] nt
inductive PairsAt (led : Led) : List Value → List (Nat × Nat) → Prop
  | nil : PairsAt led [] []
  | cons {v : Value} {p : Nat × Nat} {vs : List Value} {ps : List (Nat × Nat)} : PairAt led v p → PairsAt led vs ps → PairsAt led (v :: vs) (p :: ps)
theorem PairAt.mono {l l' : Led} {v : Value} {p : Nat × Nat} (h : ∀ q ∈ l, q ∈ l') : PairAt l v p → PairAt l' v p
  | ⟨t, o, ta, tb, nt, a, b, c, d⟩ => ⟨t, o, ta, tb, nt, a, h _ b, c, d⟩
theorem PairsAt.mono {l l' : Led} (h : ∀ q ∈ l, q ∈ l') : ∀ {vs : List Value} {ps : List (Nat × Nat)}, PairsAt l vs ps → PairsAt l' vs ps
  | _, _, .nil => .nil
  | _, _, .cons a r => .cons (a.mono h) (r.mono h)
theorem PairsAt.length {l : Led} : ∀ {vs : List Value} {ps : List (Nat × Nat)}, PairsAt l vs ps → vs.length = ps.length
  | _, _, .nil => rfl
  | _, _, .cons a r => by rw [List.length_cons, List.length_cons, r.length]
theorem PairsAt.snoc {l : Led} {v : Value} {p : Nat × Nat} (a : PairAt l v p) : ∀ {vs : List Value} {ps : List (Nat × Nat)}, PairsAt l vs ps → PairsAt l (vs ++ [v]) (ps ++ [p])
  | _, _, .nil => .cons a .nil
  | _, _, .cons b r => .cons b (r.snoc a)
theorem PairsAt.append {l : Led} : ∀ {vs ws : List Value} {ps qs : List (Nat × Nat)}, PairsAt l vs ps → PairsAt l ws qs → PairsAt l (vs ++ ws) (ps ++ qs)
  | _, _, _, _, .nil, h => h
  | _, _, _, _, .cons a r, h => .cons a (r.append h)
/-- a list of pairs -/
def Runs (ps : List (Nat × Nat)) (r : Value) (tl : Led) : Prop :=
  ∃ (l : Addr) (vs : List Value) (nn : Nat), r = .ref l ∧ (l, ({ cls := .type "list", data := .seq vs.toArray nn } : Obj)) ∈ tl ∧ PairsAt tl vs ps
/-- a pair comes back -/
def TupBack (h₀ : Heap) (L : Addr) (m : Str → Option Value) (s : Shared) (led : Led) (p : Nat × Nat) (y : Value) (s' : Shared) : Prop :=
  ∃ (t : Addr) (o : Obj) (ta tb : Tok) (nt : Nat) (h' : Heap) (tk : Nat), y = .ref t ∧ o.cls = .type "tuple" ∧ o.data = .seq #[.int (p.1 : Int) ta, .int (p.2 : Int) tb] nt ∧
    s' = { s with heap := h', toks := tk } ∧ Fr h₀ L h' m ∧ News h₀ L h' ((t, o) :: led) ∧ ∀ q ∈ led, q.1 ≠ t
open PySem.Spec PySem.Calls LCg LCp in
theorem comp_runs {prog : Program} {w : World} {A : Around} {h₀ : Heap} {L : Addr} {m : Str → Option Value} {env : PySem.Env} {elt : PySem.Expr} {x x₂ : Str} {scope : Scope} {cl : List (Str × Addr)} {s : Shared} {ax : Addr} {k : Nat} {all : List Value} {Fin : List Value → Led → Prop} (f : Nat × Nat → Nat × Nat)
    (turn : ∀ (p : Nat × Nat) (ta tb : Tok) (I : Addr) (oI : Obj) (C : Addr) (oC : Obj) (D : Addr) (ys : List Value) (m₂ : Str → Option Value) (h : Heap) (tk : Nat) (news : Led) (E' : Value → Shared → Prop), NsObj oC m₂ → m₂ x = some (.int (p.1 : Int) ta) → m₂ x₂ = some (.int (p.2 : Int) tb) → Fr h₀ L h m → News h₀ L h ((I, oI) :: (C, oC) :: (D, lst ys) :: news) →
      wpAny (model prog w) A (eval elt (compEnvC scope cl C env)) (TupBack h₀ L m { s with heap := h, toks := tk } ((I, oI) :: (C, oC) :: (D, lst ys) :: news) (f p)) E' { s with heap := h, toks := tk }) :
    ∀ (vs : List Value) (ps : List (Nat × Nat)) (pre ys : List Value) (qs : List (Nat × Nat)) (news : Led), all = pre ++ vs → PairsAt news vs ps → PairsAt news ys qs → (ax, ({ cls := .type "list", data := .seq all.toArray k } : Obj)) ∈ news →
      (∀ (ys' : List Value) (news' : Led), PairsAt news' ys' (qs ++ ps.map f) → (∀ q ∈ news, q ∈ news') → Fin ys' news') →
      CompRestP prog w A h₀ L m env elt x x₂ scope cl s (SrcAt h₀ ax all.toArray) (fun i v => all.toArray[i]? = some v) Fin vs.length pre.length ys news := by
  intro vs
  induction vs with
  | nil =>
    intro ps pre ys qs news he hp hq hm fin
    cases hp
    exact CompRestP.zero (fin ys news (by simpa using hq) (fun _ h => h))
  | cons v vs ih =>
    intro ps pre ys qs news he hp hq hm fin
    cases hp with
    | cons a r =>
    rename_i p ps
    refine CompRestP.succ fun v' hv' => ?_
    have hv : v' = v := by
      rw [he] at hv'
      simpa using hv'.symm
    subst hv
    obtain ⟨t, o, ta, tb, nt, rfl, hmem, hc, hd⟩ := a
    refine ⟨t, o, _, _, nt, rfl, hmem, hc, hd, ?_⟩
    intro I oI C oC D m₂ h tk E' hC hx hx2 F N off ne
    refine wpAny_mono (turn p ta tb I oI C oC D ys m₂ h tk news E' hC hx hx2 F N) ?_ (fun _ _ h => h)
    rintro y s' ⟨t2, o2, ta2, tb2, nt2, h2, tk2, rfl, hc2, hd2, rfl, F2, N2, off2⟩
    have sub : ∀ q ∈ news, q ∈ (t2, o2) :: news := fun q hq => .tail _ hq
    refine CompEnd.intro F2 N2 ((t2, o2) :: news) ?_ ?_ ?_ ?_
    · intro q hq
      rcases List.mem_cons.mp hq with h1 | hq
      · rw [h1]; exact .tail _ (.head _)
      · rcases List.mem_cons.mp hq with h1 | hq
        · rw [h1]; exact .tail _ (.tail _ (.head _))
        · rcases List.mem_cons.mp hq with h1 | hq
          · rw [h1]; exact .tail _ (.tail _ (.tail _ (.head _)))
          · rcases List.mem_cons.mp hq with h1 | hq
            · rw [h1]; exact .head _
            · exact .tail _ (.tail _ (.tail _ (.tail _ hq)))
    · exact ⟨⟨Ne.symm (off2 _ (.head _)), Ne.symm (off2 _ (.tail _ (.head _))), Ne.symm (off2 _ (.tail _ (.tail _ (.head _))))⟩, off⟩
    · exact .inr ⟨_, sub _ hm, rfl, k, rfl⟩
    · have := ih ps (pre ++ [.ref t]) (ys ++ [.ref t2]) (qs ++ [f p]) ((t2, o2) :: news) (by rw [he]; simp) (r.mono sub) ((hq.mono sub).snoc ⟨t2, o2, ta2, tb2, nt2, rfl, .head _, hc2, hd2⟩) (sub _ hm)
        (fun ys' news' h1 h2 => fin ys' news' (by simpa using h1) (fun q hq => h2 q (sub q hq)))
      rw [List.length_append, List.length_singleton] at this
      exact this
/-- the one below -/
def RunsIH (w : World) (mean : ExcName → Option Value) (mg mb : Str → Option Value) (c d : Nat) : Prop :=
  ∀ (n : Nat) (t t2 t3 : Tok), 1 ≤ n → n + d ≤ 90 → Says w mean mg mb 120 [.str (tx 46 n c) t, .str (lc c) t2, .int (d : Int) t3] (6 + 4 * d) (100 + 30 * d) (Runs (runsL d n))
theorem use_runs {w : World} {mean : ExcName → Option Value} {mg mb : Str → Option Value} {n c d : Nat} {x : Int} {t t2 t3 : Tok} (H : RunsIH w mean mg mb c d) (hn : 1 ≤ n) (hn2 : n + d ≤ 90) (hx : x = (d : Int))
    {dp un : Nat} {gd : Option (List Code)} {cn : Str} {cs : Scope} {a : Addr} {ccd : Value} {cl : List (Str × Addr)} {outer : List PySem.Env} {A₀ : Around} {base h₀ : Heap} {L : Addr} {m : Str → Option Value} {news : List (Addr × Obj)} {s : Shared} {Q E : Value → Shared → Prop}
    (B : Below A₀ base outer h₀) (F : Fr h₀ L s.heap m) (X : (hd.heap_39 w.params).In h₀) (N : News h₀ L s.heap news) (Tp : Top hd.view_39 lo mean mg mb h₀) (hk : cs.kind = .function)
    (hd : dp + (6 + 4 * d) < recursionLimit) (hu : un + (100 + 30 * d) < cLine)
    (hret : ∀ r tl h' tk', s.toks ≤ tk' → Fr h₀ L h' m → News h₀ L h' (tl ++ news) → Runs (runsL d n) r tl → Q r { s with heap := h', toks := tk' }) :
    wpAny (model Challenge.rw_wn0009_01.row.prog w) (ktrTop dp un gd cn cs L a ccd cl outer) (call (.ref 120) [.str (tx 46 n c) t, .str (lc c) t2, .int x t3]) Q E s := by
  subst hx
  exact use_says (H n t t2 t3 hn hn2) B F X N Tp hk hd hu hret
end Mine
namespace Mine
section
variable {prog : Program} {w : World} {A : Around} {E : Value → Shared → Prop} {s : Shared} {t u v : Tok} {Q : Value → Shared → Prop}
theorem eqi_no {a b : Int} (h : a ≠ b) (hq : Q (.bool false) s) : wpAny (model prog w) A (compareOp .Eq (.int a t) (.int b u)) Q E s := eq_int (by rw [show (a == b) = false by simpa using h]; exact hq)
theorem eqi_yes {a b : Int} (h : a = b) (hq : Q (.bool true) s) : wpAny (model prog w) A (compareOp .Eq (.int a t) (.int b u)) Q E s := eq_int (by rw [show (a == b) = true by simpa using h]; exact hq)
theorem dot_lc {x : Str} {c : Nat} (hx : x = T [46]) (h : ∀ t' tk, s.toks ≤ tk → Q (.str (tx 46 1 c) t') { s with toks := tk }) : wpAny (model prog w) A (binaryOp .Add (.str x t) (.str (lc c) u)) Q E s := by
  subst hx
  exact add_T (tx 46 1 c) (T_append _ _) (by rw [tx, T_len, tx_len]; omega) h
theorem eqt_yes {n c : Nat} (hn : n = 1) (h : Q (.bool true) s) : wpAny (model prog w) A (compareOp .Eq (.str (tx 46 n c) t) (.str (tx 46 1 c) u)) Q E s := by
  subst hn
  exact eq_T (by simp) h
theorem eqt_no {n c : Nat} (hn : n ≠ 1) (h : Q (.bool false) s) : wpAny (model prog w) A (compareOp .Eq (.str (tx 46 n c) t) (.str (tx 46 1 c) u)) Q E s :=
  eq_T (b := false) (by rw [tx, tx, T_beq]; exact decide_eq_false (fun e => by have := congrArg List.length e; simp at this; omega)) h
end
local macro_rules | `(tactic| walk_at "subscriptTail") => `(tactic| (k_here; (with_reducible show wpAny _ _ (subscriptTail _ _ (Value.str _ _) (Value.ref _)) _ _ _); (with_reducible rename Fr _ _ _ _ => F'); (with_reducible rename News _ _ _ _ => N'); (first | refine last_tx (s := ⟨_, _, _, _, _⟩) (by omega) F' N' ?_ | refine last_rp (s := ⟨_, _, _, _, _⟩) (by omega) F' N' ?_); intro _ _ _ _ _))
local macro_rules | `(tactic| walk_at "compareOp Eq str str") => `(tactic| (k_here; (with_reducible first | refine eq_lc ?_ | refine eqt_yes (by assumption) ?_ | refine eqt_no (by assumption) ?_ | refine eq_rp (by assumption) ?_)))
local macro_rules | `(tactic| walk_at "compareOp Eq int int") => `(tactic| (k_here; first | refine eqi_no (by omega) ?_ | refine eqi_yes (by omega) ?_))
local macro_rules | `(tactic| walk_at "binaryOp Add str str") => `(tactic| (k_here; refine dot_lc lit_dot ?_; intro t8 tk8 hk8; (try dsimp only at hk8)))
local macro_rules | `(tactic| walk_at "call ref") => `(tactic| (k_here; k_dflt ((first
    | refine' use_str (read_even ?p1 ?p2 ?p3 ?p4) ?k1 ?k2 ?k3 ?k4 ?k5 ?k6 ?k7 ?k8 ?_
    | refine' use_str (bare_c ?p4 ?p1 ?p2 ?p3) ?k1 ?k2 ?k3 ?k4 ?k5 ?k6 ?k7 ?k8 ?_
    | refine' use_str (quote_c ?p4 ?p1 ?p2 ?p3) ?k1 ?k2 ?k3 ?k4 ?k5 ?k6 ?k7 ?k8 ?_); (case p1 => omega); (case p2 => assumption); (case p3 => assumption); (case p4 => omega); (case k1 => k_asm); (case k2 => k_asm); (case k3 => k_asm); (case k4 => k_asm); (case k5 => k_asm); (case k6 => first | exact rfl | assumption); (case k7 => ktr_room); (case k8 => ktr_units); k_whole); intro t9 h9 tk9 hk9 F9 N9; (try dsimp only at hk9)))
local macro_rules | `(tactic| walk_at "call ref") => `(tactic| (k_here; k_dflt ((first
    | refine' use_str (read_odd ?p1 ?p2 ?p3 ?p4) ?k1 ?k2 ?k3 ?k4 ?k5 ?k6 ?k7 ?k8 ?_); (case p1 => omega); (case p2 => assumption); (case p3 => assumption); (case p4 => omega); (case k1 => k_asm); (case k2 => k_asm); (case k3 => k_asm); (case k4 => k_asm); (case k5 => k_asm); (case k6 => first | exact rfl | assumption); (case k7 => ktr_room); (case k8 => ktr_units); k_whole); intro t9 h9 tk9 hk9 F9 N9; (try dsimp only at hk9)))
local macro_rules | `(tactic| walk_at "call ref") => `(tactic| (k_here; k_dflt (refine' use_runs ?p0 ?p1 ?p2 ?p3 ?k1 ?k2 ?k3 ?k4 ?k5 ?k6 ?k7 ?k8 ?_; (case p0 => assumption); (case p1 => omega); (case p2 => omega); (case p3 => omega); (case k1 => k_asm); (case k2 => k_asm); (case k3 => k_asm); (case k4 => k_asm); (case k5 => k_asm); (case k6 => first | exact rfl | assumption); (case k7 => ktr_room); (case k8 => ktr_units); k_whole); intro r9 tl9 h9 tk9 hk9 F9 N9 R9; (try dsimp only at hk9); obtain ⟨l9, vs9, nn9, e9, mp9⟩ := R9; subst e9))
local macro_rules | `(tactic| walk_at "SrcLP") => `(tactic| (refine Stop.mk ?_))
local macro_rules | `(tactic| walk_at "TupBack") => `(tactic| (refine Stop.mk ?_))
local macro_rules | `(tactic| walk_at "binaryOp Add ref ref") => `(tactic| (refine Stop.mk ?_))
theorem pairs_fit {led : Led} {vs : List Value} {d n : Nat} (h : PairsAt led vs (runsL d n)) (hd : d ≤ 20) : vs.toArray.size ≤ sizeLine := by
  rw [List.size_toArray, h.length, sizeLine_eq]
  have h1 := runsL_len d n
  have h2 : 2 ^ d ≤ 2 ^ 20 := Nat.pow_le_pow_right (by decide) hd
  have h3 : (2 : Nat) ^ 20 ≤ 16777216 := by decide
  omega
theorem all_lt {d : Addr} : ∀ {l : Led}, AllLt d l → ∀ q ∈ l, q.1 ≠ d
  | [], _, _, h => nomatch h
  | _ :: _, x, q, h => by
    rcases List.mem_cons.mp h with rfl | h
    · exact Nat.ne_of_lt x.1
    · exact all_lt x.2 q h
theorem tup_back {h₀ : Heap} {L : Addr} {m : Str → Option Value} {s : Shared} {t I C D : Addr} {oI oC oD : Obj} {news : Led} {p : Nat × Nat} {x y : Int} {ta tb : Tok} {nt : Nat} {h' : Heap} {tk : Nat} (F : Fr h₀ L h' m)
    (N : News h₀ L h' ((t, { cls := .type "tuple", data := .seq #[.int x ta, .int y tb] nt }) :: (I, oI) :: (C, oC) :: (D, oD) :: news)) (l : I < t ∧ C < t ∧ D < t ∧ AllLt t news) (hx : x = (p.1 : Int)) (hy : y = (p.2 : Int)) :
    TupBack h₀ L m s ((I, oI) :: (C, oC) :: (D, oD) :: news) p (.ref t) { s with heap := h', toks := tk } := by
  subst hx hy
  refine ⟨t, _, ta, tb, nt, h', tk, rfl, rfl, rfl, rfl, F, N, ?_⟩
  intro q hq
  rcases List.mem_cons.mp hq with rfl | hq
  · exact Nat.ne_of_lt l.1
  · rcases List.mem_cons.mp hq with rfl | hq
    · exact Nat.ne_of_lt l.2.1
    · rcases List.mem_cons.mp hq with rfl | hq
      · exact Nat.ne_of_lt l.2.2.1
      · exact all_lt l.2.2.2 q hq
theorem sub_runs {a : Addr × Obj} {tl news news2 : Led} (h : ∀ q ∈ tl ++ news, q ∈ news2) : ∀ q ∈ (a :: news2) ++ news, q ∈ a :: news2 := by
  intro q hq
  rcases List.mem_append.mp hq with hq | hq
  · exact hq
  · exact .tail _ (h q (List.mem_append.mpr (.inr hq)))
theorem sub_runs2 {a b c : Addr × Obj} {tl tl2 news news2 news3 : Led} (h : ∀ q ∈ tl2 ++ (tl ++ news), q ∈ news2) (h2 : ∀ q ∈ c :: news2, q ∈ news3) : ∀ q ∈ (a :: b :: news3) ++ news, q ∈ a :: b :: news3 := by
  intro q hq
  rcases List.mem_append.mp hq with hq | hq
  · exact hq
  · exact .tail _ (.tail _ (h2 q (.tail _ (h q (List.mem_append.mpr (.inr (List.mem_append.mpr (.inr hq))))))))
theorem two_fit {l1 l2 : Led} {vs ws : List Value} {d n k : Nat} {f g : Nat × Nat → Nat × Nat} (h : PairsAt l1 vs ([] ++ (runsL d n).map f)) (h' : PairsAt l2 ws ([] ++ (runsL d k).map g)) (hd : d ≤ 20) : vs.toArray.size + ws.toArray.size ≤ sizeLine := by
  rw [List.size_toArray, List.size_toArray, h.length, h'.length, sizeLine_eq]
  simp only [List.nil_append, List.length_map]
  have h1 := runsL_len d n
  have h2 := runsL_len d k
  have h3 : 2 ^ d ≤ 2 ^ 20 := Nat.pow_le_pow_right (by decide) hd
  have h4 : (2 : Nat) ^ 20 ≤ 8388608 := by decide
  omega
theorem runs_0 (w : World) (mean mg mb) (n c d : Nat) (t t2 t3 : Tok) (hn : n = 1) (hc1 : 97 ≤ c) (hc2 : c ≤ 122) :
    Says0 w mean mg mb 120 [.str (tx 46 n c) t, .str (lc c) t2, .int (d : Int) t3] 6 100 (Runs [(0, 0)]) := by
  unfold Says0
  k_fill
  intro dp un gd cn cs a ccd cl outer A₀ base h₀ L m news s Q E B F X N T hk hroom hu hret
  refine wpAny_call ?_
  k_dflt cell_enter
  k_steps
  (rename News h₀ L _ _ => nE)
  exact hret _ [(_, _), (_, _)] _ _ (by k_asm) nE ⟨_, [.ref _], 0, rfl, .head _, .cons ⟨_, _, _, _, _, rfl, .tail _ (.head _), rfl, rfl⟩ .nil⟩
theorem runs_1 (w : World) (mean mg mb) (n c d : Nat) (t t2 t3 : Tok) (hn : n ≠ 1) (hd : d = 0) (hc1 : 97 ≤ c) (hc2 : c ≤ 122) :
    Says0 w mean mg mb 120 [.str (tx 46 n c) t, .str (lc c) t2, .int (d : Int) t3] 6 100 (Runs []) := by
  unfold Says0
  k_fill
  intro dp un gd cn cs a ccd cl outer A₀ base h₀ L m news s Q E B F X N T hk hroom hu hret
  refine wpAny_call ?_
  k_dflt cell_enter
  k_steps
  (rename News h₀ L _ _ => nE)
  exact hret _ [(_, _)] _ _ (by k_asm) nE ⟨_, [], 0, rfl, .head _, .nil⟩
theorem runs_2 (w : World) (mean mg mb) (n c d : Nat) (t t2 t3 : Tok) (ih : RunsIH w mean mg mb c d) (hn0 : 1 ≤ n) (hn : n ≠ 1) (he : n % 2 = 0) (hnd : n + d ≤ 90) (hd20 : d ≤ 20) (hc1 : 97 ≤ c) (hc2 : c ≤ 122) :
    Says0 w mean mg mb 120 [.str (tx 46 n c) t, .str (lc c) t2, .int ((d + 1 : Nat) : Int) t3] (6 + 4 * (d + 1)) (100 + 30 * (d + 1)) (Runs ((runsL d (n / 2)).map (fun p => (2 * p.1, p.2)))) := by
  unfold Says0
  k_fill
  intro dp un gd cn cs a ccd cl outer A₀ base h₀ L m news s Q E B F X N T hk hroom hu hret
  refine wpAny_call ?_
  k_dflt cell_enter
  k_steps
  unfold Stop
  (rename _ ∧ PairsAt _ _ (runsL _ _) => mp)
  refine LCp.SrcLP.ledger rfl (by k_asm) (by k_asm) (List.mem_append.mpr (.inl mp.1)) (pairs_fit mp.2 hd20) ?_
  intro g'
  refine comp_runs (fun p => (2 * p.1, p.2)) ?turn _ _ [] [] [] _ rfl (mp.2.mono fun q hq => List.mem_append.mpr (.inl hq)) .nil (List.mem_append.mpr (.inl mp.1)) ?fin
  case turn =>
    intro p ta tb I oI C oC D ys m2 h tk news2 E' hC hx hx2 F2 N2
    (try k_fold)
    k_steps
    rename_i F3 N3 l3
    exact tup_back F3 N3 l3 rfl rfl
  case fin =>
    intro ys news2 hp2 hsub
    k_steps
    (rename News h₀ L _ _ => nE)
    exact hret _ (_ :: news2) _ _ (by k_asm) (kst_newsOf nE (sub_runs hsub)) ⟨_, ys, _, rfl, .head _, hp2.mono (fun q hq => .tail _ hq)⟩
theorem runs_3 (w : World) (mean mg mb) (n c d : Nat) (t t2 t3 : Tok) (ih : RunsIH w mean mg mb c d) (hn0 : 1 ≤ n) (hn : n ≠ 1) (he : n % 2 = 1) (hnd : n + (d + 1) ≤ 90) (hd20 : d ≤ 20) (hc1 : 97 ≤ c) (hc2 : c ≤ 122) :
    Says0 w mean mg mb 120 [.str (tx 46 n c) t, .str (lc c) t2, .int ((d + 1 : Nat) : Int) t3] (6 + 4 * (d + 1)) (100 + 30 * (d + 1)) (Runs ((runsL d (n - 1)).map (fun p => (p.1 + 1, p.2 + 1)) ++ (runsL d (n + 1)).map (fun p => (p.1, p.2 + 1)))) := by
  unfold Says0
  k_fill
  intro dp un gd cn cs a ccd cl outer A₀ base h₀ L m news s Q E B F X N T hk hroom hu hret
  refine wpAny_call ?_
  k_dflt cell_enter
  k_steps
  unfold Stop
  (rename _ ∧ PairsAt _ _ (runsL _ (n - 1)) => mp1)
  (rename _ ∧ PairsAt _ _ (runsL _ (n + 1)) => mp2)
  refine LCp.SrcLP.ledger rfl (by k_asm) (by k_asm) (List.mem_append.mpr (.inr (List.mem_append.mpr (.inl mp1.1)))) (pairs_fit mp1.2 hd20) ?_
  intro g'
  refine comp_runs (fun p => (p.1 + 1, p.2 + 1)) ?turn _ _ [] [] [] _ rfl (mp1.2.mono fun q hq => List.mem_append.mpr (.inr (List.mem_append.mpr (.inl hq)))) .nil (List.mem_append.mpr (.inr (List.mem_append.mpr (.inl mp1.1)))) ?fin
  case turn =>
    intro p ta tb I oI C oC D ys m2 h tk news2 E' hC hx hx2 F2 N2
    (try k_fold)
    k_steps
    rename_i F3 N3 l3
    exact tup_back F3 N3 l3 rfl rfl
  case fin =>
    intro ys news2 hp2 hsub
    k_steps
    unfold Stop
    refine LCp.SrcLP.ledger rfl (by k_asm) (by k_asm) (.tail _ (hsub _ (List.mem_append.mpr (.inl mp2.1)))) (pairs_fit mp2.2 hd20) ?_
    intro g''
    refine comp_runs (fun p => (p.1, p.2 + 1)) ?turn _ _ [] [] [] _ rfl (mp2.2.mono fun q hq => .tail _ (hsub _ (List.mem_append.mpr (.inl hq)))) .nil (.tail _ (hsub _ (List.mem_append.mpr (.inl mp2.1)))) ?fin
    case turn =>
      intro p ta tb I oI C oC D ys m2 h tk news2 E' hC hx hx2 F2 N2
      (try k_fold)
      k_steps
      rename_i F3 N3 l3
      exact tup_back F3 N3 l3 rfl rfl
    case fin =>
      intro ys2 news3 hp3 hsub3
      k_steps
      unfold Stop
      (rename News _ _ _ (_ :: news3) => N4)
      refine add_arrays (by k_asm) N4 ⟨_, (N4 _ (.tail _ (hsub3 _ (.head _)))).1, rfl, _, rfl⟩ ⟨_, (N4 _ (.head _)).1, rfl, _, rfl⟩ ?_ (two_fit hp2 hp3 hd20)
      intro h5 F5 N5
      k_steps
      (rename News h₀ L _ _ => nE)
      refine hret _ (_ :: _ :: news3) _ _ (by k_asm) (kst_newsOf nE (sub_runs2 hsub hsub3)) ⟨_, ys ++ ys2, _, rfl, .head _, ?_⟩
      exact (hp2.mono fun q hq => .tail _ (.tail _ (hsub3 q (.tail _ hq)))).append (hp3.mono fun q hq => .tail _ (.tail _ hq))
theorem says_mono {w : World} {mean : ExcName → Option Value} {mg mb : Str → Option Value} {f : Addr} {vs : List Value} {d u d' u' : Nat} {R : Value → List (Addr × Obj) → Prop} (H : Says w mean mg mb f vs d u R) (h1 : d ≤ d') (h2 : u ≤ u') : Says w mean mg mb f vs d' u' R := by
  intro dp un gd cn cs a ccd cl outer A₀ base h₀ L m news s Q E B F X N Tp hk hr hu hret
  exact H dp un gd cn cs a ccd cl outer A₀ base h₀ L m news s Q E B F X N Tp hk (by omega) (by omega) hret
theorem runs_all (w : World) (mean : ExcName → Option Value) (mg mb : Str → Option Value) (c : Nat) (hc1 : 97 ≤ c) (hc2 : c ≤ 122) : ∀ d, d ≤ 20 → RunsIH w mean mg mb c d
  | 0, _ => by
    intro n t t2 t3 h1 hnd
    by_cases hn : n = 1
    · have := says_of (runs_0 w mean mg mb n c 0 t t2 t3 hn hc1 hc2)
      rw [show runsL 0 n = [(0, 0)] from if_pos hn]
      exact this
    · have := says_of (runs_1 w mean mg mb n c 0 t t2 t3 hn rfl hc1 hc2)
      rw [show runsL 0 n = [] from if_neg hn]
      exact this
  | d + 1, hd => by
    have ih := runs_all w mean mg mb c hc1 hc2 d (by omega)
    intro n t t2 t3 h1 hnd
    by_cases hn : n = 1
    · have := says_of (runs_0 w mean mg mb n c (d + 1) t t2 t3 hn hc1 hc2)
      rw [show runsL (d + 1) n = [(0, 0)] from if_pos hn]
      exact says_mono this (by omega) (by omega)
    · rcases Nat.mod_two_eq_zero_or_one n with he | he
      · have := says_of (runs_2 w mean mg mb n c d t t2 t3 ih h1 hn he (by omega) (by omega) hc1 hc2)
        rw [show runsL (d + 1) n = (runsL d (n / 2)).map (fun p => (2 * p.1, p.2)) from (if_neg hn).trans (if_pos he)]
        exact this
      · have := says_of (runs_3 w mean mg mb n c d t t2 t3 ih h1 hn he (by omega) (by omega) hc1 hc2)
        rw [show runsL (d + 1) n = (runsL d (n - 1)).map (fun p => (p.1 + 1, p.2 + 1)) ++ (runsL d (n + 1)).map (fun p => (p.1, p.2 + 1)) from (if_neg hn).trans (if_neg (by omega))]
        exact this
theorem runs_says (w : World) (mean : ExcName → Option Value) (mg mb : Str → Option Value) (n c : Nat) (t t2 t3 : Tok) (h1 : 1 ≤ n) (h2 : n ≤ 70) (hc1 : 97 ≤ c) (hc2 : c ≤ 122) :
    Says w mean mg mb 120 [.str (tx 46 n c) t, .str (lc c) t2, .int 12 t3] 60 500 (Runs (runsL 12 n)) :=
  says_mono (runs_all w mean mg mb c hc1 hc2 12 (by omega) n t t2 t3 h1 (by omega)) (by omega) (by omega)
end Mine
namespace Mine
/-! two lists of piles -/
theorem strs_all {f : Nat → Str} (hf : ∀ a, PyData.strOk (f a) = true) : ∀ ns : List Nat, PyData.canLayAll0 (ns.map fun a => PyData.str (f a)) = true
  | [] => rfl
  | a :: r => by
    show (PyData.strOk (f a) && PyData.canLayAll0 (r.map fun a => PyData.str (f a))) = true
    rw [hf a, strs_all hf r]; rfl
theorem strs_depth {f : Nat → Str} : ∀ ns : List Nat, PyData.depthAll (ns.map fun a => PyData.str (f a)) = 0
  | [] => rfl
  | a :: r => by simp [PyData.depthAll, PyData.depth, strs_depth r]
theorem strs_eqv {f : Nat → Str} : ∀ ns : List Nat, PyData.eqvAll (ns.map fun a => PyData.str (f a)) (ns.map fun a => PyData.str (f a)) = true
  | [] => rfl
  | a :: r => by
    show ((f a == f a) && PyData.eqvAll (r.map fun a => PyData.str (f a)) (r.map fun a => PyData.str (f a))) = true
    rw [strs_eqv r]; simp
theorem tx_ok {c : Nat} (hc : c ≤ 122) (a : Nat) : PyData.strOk (tx 46 a c) = true := by
  show ((List.replicate a 46 ++ [c]).toArray.all (· < 0x110000)) = true
  rw [List.all_toArray, List.all_eq_true]
  intro x hx
  rcases List.mem_append.mp hx with h | h
  · rw [List.eq_of_mem_replicate h]; decide
  · rw [List.mem_singleton.mp h]; exact decide_eq_true (by omega)
section
variable {prog : Program} {w : World} {A : Around} {E : Value → Shared → Prop} {s : Shared} {Q : Value → Shared → Prop} {h₀ : Heap} {L : Addr} {m : Str → Option Value} {news : List (Addr × Obj)}
open PyProof.Rows PySem.Calls in
theorem piles_ne {c : Nat} {ns ms : List Nat} {l1 l2 : Addr} {vs ws : List Value} {k1 k2 : Nat} (N : News h₀ L s.heap news) (h1 : (l1, ({ cls := .type "list", data := .seq vs.toArray k1 } : Obj)) ∈ news) (h2 : (l2, ({ cls := .type "list", data := .seq ws.toArray k2 } : Obj)) ∈ news)
    (a1 : CarriedAll vs (ns.map fun a => PyData.str (tx 46 a c))) (a2 : CarriedAll ws (ms.map fun a => PyData.str (tx 46 a c))) (e : ns = ms) (hc : c ≤ 122) (hu : A.units + 64 < cLine) (hq : Q (.bool false) s) : wpAny (model prog w) A (compareOp .NotEq (.ref l1) (.ref l2)) Q E s := by
  subst e
  have sh : SeqAt.shaped (.list (ns.map fun a => PyData.str (tx 46 a c))) = true := by
    simp [SeqAt.shaped, PyData.canLay0, PyData.depth, strs_all (tx_ok hc), strs_depth]
  refine ne_dataH (reads_newData ⟨_, (N _ h1).1, rfl, _, rfl⟩ a1) (reads_newData ⟨_, (N _ h2).1, rfl, _, rfl⟩ a2) sh sh hu ?_
  rw [show PyData.eqv (.list (ns.map fun a => PyData.str (tx 46 a c))) (.list (ns.map fun a => PyData.str (tx 46 a c))) = true from strs_eqv ns]
  exact hq
theorem piles_ne2 {c : Nat} {ns ms : List Nat} {l1 l2 : Addr} {vs ws : List Value} {k1 k2 : Nat} (N : News h₀ L s.heap ((l2, ({ cls := .type "list", data := .seq ws.toArray k2 } : Obj)) :: (l1, ({ cls := .type "list", data := .seq vs.toArray k1 } : Obj)) :: news))
    (a1 : CarriedAll vs (ns.map fun a => PyData.str (tx 46 a c))) (a2 : CarriedAll ws (ms.map fun a => PyData.str (tx 46 a c))) (e : ns = ms) (hc : c ≤ 122) (hu : A.units + 64 < cLine) (hq : News h₀ L s.heap news → Q (.bool false) s) : wpAny (model prog w) A (compareOp .NotEq (.ref l1) (.ref l2)) Q E s :=
  piles_ne N (.tail _ (.head _)) (.head _) a1 a2 e hc hu (hq (kst_newsOf N fun p hp => .tail _ (.tail _ hp)))
end
/-! the sort -/
def evalT {α : Type} (lt : Nat → Nat → Bool) : KasT α → α
  | .ret a => a
  | .ask i j k => evalT lt (k (lt i j))
def okT {α : Type} (n : Nat) (lt : Nat → Nat → Bool) : KasT α → Bool
  | .ret _ => true
  | .ask i j k => decide (i < n) && decide (j < n) && okT n lt (k (lt i j))
theorem kasWp_eval {α : Type} {n : Nat} {lt : Nat → Nat → Bool} {cmp : Nat → Nat → (Bool → Shared → Prop) → Shared → Prop} {Q : α → Shared → Prop} {s : Shared} (hc : ∀ i j (C : Bool → Shared → Prop), i < n → j < n → C (lt i j) s → cmp i j C s) :
    ∀ t : KasT α, okT n lt t = true → Q (evalT lt t) s → t.kasWp cmp Q s
  | .ret a, _, h => h
  | .ask i j k, ho, h => by
    simp only [okT, Bool.and_eq_true, decide_eq_true_eq] at ho
    exact hc i j _ ho.1.1 ho.1.2 (kasWp_eval hc (k (lt i j)) ho.2 h)
def pairLt (p q : Nat × Nat) : Bool := if p.1 = q.1 then decide (p.2 < q.2) else decide (p.1 < q.1)
def psLt (ps : List (Nat × Nat)) (i j : Nat) : Bool := pairLt (ps.getD i (0, 0)) (ps.getD j (0, 0))
def sortIx (ps : List (Nat × Nat)) : List Nat := (evalT (psLt ps) (kas_sort ps.length)).toList
def sortOk (ps : List (Nat × Nat)) : Bool := okT ps.length (psLt ps) (kas_sort ps.length) && (sortIx ps).all (fun i => decide (i < ps.length))
def sortPs (ps : List (Nat × Nat)) : List (Nat × Nat) := (sortIx ps).map fun i => ps.getD i (0, 0)
theorem PairsAt.getD {l : Led} : ∀ {vs : List Value} {ps : List (Nat × Nat)} {i : Nat}, PairsAt l vs ps → i < ps.length → PairAt l (vs.getD i Value.none) (ps.getD i (0, 0))
  | _, _, _, .nil, h => absurd h (Nat.not_lt_zero _)
  | _, _, 0, .cons a r, h => a
  | _, _, i + 1, .cons a r, h => r.getD (Nat.lt_of_succ_lt_succ h)
theorem PairsAt.perm {l : Led} {vs : List Value} {ps : List (Nat × Nat)} (hp : PairsAt l vs ps) : ∀ {ix : List Nat}, (ix.all fun i => decide (i < ps.length)) = true → PairsAt l (ix.map fun i => vs.getD i Value.none) (ix.map fun i => ps.getD i (0, 0))
  | [], _ => .nil
  | i :: r, h => by
    rw [List.all_cons, Bool.and_eq_true] at h
    exact .cons (hp.getD (of_decide_eq_true h.1)) (hp.perm h.2)
section
variable {prog : Program} {w : World} {A : Around} {E : Value → Shared → Prop} {s : Shared} {h₀ : Heap} {L : Addr} {m : Str → Option Value} {news : List (Addr × Obj)}
open PyProof.Rows PySem.Calls PySem.Spec in
theorem pair_lt {p q : Nat × Nat} {v u : Value} {C : Bool → Shared → Prop} (N : News h₀ L s.heap news) (hv : PairAt news v p) (hu : PairAt news u q) (h : C (pairLt p q) s) : wpAny (model prog w) A (keyLt' (tuples' true) v u) C E s := by
  obtain ⟨t1, o1, a1, b1, n1, rfl, m1, c1, d1⟩ := hv
  obtain ⟨t2, o2, a2, b2, n2, rfl, m2, c2, d2⟩ := hu
  refine kat_lt (N _ m1).1 d1 (N _ m2).1 d2 ?_
  show KatLex prog w A true false C [(.int (p.1 : Int) a1, .int (q.1 : Int) a2), (.int (p.2 : Int) b1, .int (q.2 : Int) b2)] 0 s
  refine kat_cons (wpAny_eqBool_int ?_)
  unfold pairLt at h
  by_cases e : p.1 = q.1
  · rw [if_pos e] at h
    rw [show ((p.1 : Int) == (q.1 : Int)) = true from beq_iff_eq.mpr (by omega)]
    refine kat_yes (kat_cons (wpAny_eqBool_int ?_))
    by_cases e2 : p.2 = q.2
    · rw [show ((p.2 : Int) == (q.2 : Int)) = true from beq_iff_eq.mpr (by omega)]
      refine kat_yes (kat_nil ?_)
      rw [decide_eq_false (show ¬ p.2 < q.2 by omega)] at h
      exact h
    · rw [show ((p.2 : Int) == (q.2 : Int)) = false from beq_eq_false_iff_ne.mpr (by omega)]
      refine kat_no (kat_one _ _ (lt_int ?_))
      show C (decide ((p.2 : Int) < (q.2 : Int))) s
      rw [show decide ((p.2 : Int) < (q.2 : Int)) = decide (p.2 < q.2) from decide_eq_decide.mpr (by omega)]
      exact h
  · rw [if_neg e] at h
    rw [show ((p.1 : Int) == (q.1 : Int)) = false from beq_eq_false_iff_ne.mpr (by omega)]
    refine kat_no (oneLt_int ?_)
    rw [show decide ((p.1 : Int) < (q.1 : Int)) = decide (p.1 < q.1) from decide_eq_decide.mpr (by omega)]
    exact h
theorem kat_tups_of {h : Heap} (N : News h₀ L h news) : ∀ {vs : List Value} {ps : List (Nat × Nat)}, PairsAt news vs ps → ∃ fs : List Value, KatTups h vs fs ∧ fs.length = ps.length ∧ ∀ v ∈ fs, ∃ a t, v = Value.int a t
  | _, _, .nil => ⟨[], .nil, rfl, fun _ h => nomatch h⟩
  | _, _, .cons a r => by
    obtain ⟨t1, o1, a1, b1, n1, rfl, m1, c1, d1⟩ := a
    obtain ⟨fs, k, e, i⟩ := kat_tups_of N r
    refine ⟨_, .cons (N _ m1).1 c1 d1 rfl k, by simp [e], fun v hv => ?_⟩
    rcases List.mem_cons.mp hv with rfl | hv
    · exact ⟨_, _, rfl⟩
    · exact i v hv
open PyProof.Rows PySem.Calls PySem.Spec in
theorem sorted_runs {l : Addr} {k : Nat} {vs : List Value} {ps : List (Nat × Nat)} {Q : Value → Shared → Prop} (F : Fr h₀ L s.heap m) (N : News h₀ L s.heap news) (hm : (l, ({ cls := .type "list", data := .seq vs.toArray k } : Obj)) ∈ news) (hp : PairsAt news vs ps)
    (hok : sortOk ps = true) (h2 : 2 ≤ ps.length) (h64 : ps.length < 64)
    (h : ∀ D vs' c h', Fr h₀ L h' m → News h₀ L h' ((D, ({ cls := .type "list", data := .seq (List.toArray vs') c } : Obj)) :: news) → PairsAt news vs' (sortPs ps) → Q (.ref D) { s with heap := h' }) :
    wpAny (model prog w) A (call (.builtin "sorted") [.ref l]) Q E s := by
  have hl := hp.length
  unfold sortOk at hok
  rw [Bool.and_eq_true] at hok
  refine kat_sorted F N ⟨_, (N _ hm).1, rfl, _, rfl⟩ (by omega) (by omega) ?_
  intro D e1 h' F' N' l1
  have N2 : News h₀ L h' news := fun q hq => N' q (.tail _ hq)
  obtain ⟨fs, kt, kl, ki⟩ := kat_tups_of N2 hp
  refine kat_kind (T := .type "int") kt (by omega) (fun v hv => ?_) rfl ?_
  · obtain ⟨a, t, rfl⟩ := ki v hv
    exact Looks.of_pure rfl
  · rw [hl]
    refine kasWp_eval (n := ps.length) (lt := psLt ps) (fun i j C hi hj hC => ?_) _ hok.1 ?_
    · exact pair_lt (s := ⟨h', _, _, _, _⟩) N2 (hp.getD hi) (hp.getD hj) hC
    · refine KasFin.intro F' N' (UpdF.head (fun p hp => Nat.ne_of_lt (l1 p hp))) ?_
      intro h'' c F'' N''
      exact h D _ c h'' F'' N'' (hp.perm hok.2)
/-! one alone -/
open PyProof.Rows PySem.Calls PySem.Spec in
theorem one_list_sort {a : Addr} {v : Value} {n : Nat} {P : PySem.Fin → Shared → Prop} (F : Fr h₀ L s.heap m) (N : News h₀ L s.heap news) (ho : s.heap.get? a = some (seqObj "list" #[v] n)) (haL : a ≠ L) (ha0 : h₀.get? a = none) (hna : ∀ p ∈ news, p.1 ≠ a)
    (h : ∀ c h', Fr h₀ L h' m → News h₀ L h' ((a, seqObj "list" #[v] c) :: news) → P (.done (.ret .none)) { s with heap := h' }) :
    wpAny (model prog w) A (Builtin.«list.sort» ⟨[.ref a], []⟩) P E s := by
  have ha : a < s.heap.objs.size := Heap.lt_size ho
  have s1 := Heap.SameBut.update s.heap a (Obj.mapSeq fun _ => (#[] : Array Value))
  obtain ⟨e1, ho1⟩ : ∃ e1, (s.heap.update a (Obj.mapSeq fun _ => (#[] : Array Value))).get? a = some (seqObj "list" #[] e1) := ⟨_, get?_update_seq ho fun _ => #[]⟩
  have F3 : Fr h₀ L (((s.heap.update a (Obj.mapSeq fun _ => (#[] : Array Value))).push (seqObj "tuple" #[v] 0)).push (seqObj "list" #[] 0)) m := ((kas_fr F s1 haL ha0).push _).push _
  have N2 : News h₀ L (((s.heap.update a (Obj.mapSeq fun _ => (#[] : Array Value))).push (seqObj "tuple" #[v] 0)).push (seqObj "list" #[] 0)) news :=
    (kas_news N s1 hna).grown fun b x e => Heap.get?_push_of_some _ (Heap.get?_push_of_some _ e)
  have N3 : News h₀ L (((s.heap.update a (Obj.mapSeq fun _ => (#[] : Array Value))).push (seqObj "tuple" #[v] 0)).push (seqObj "list" #[] 0)) ([] ++ (a, seqObj "list" #[] e1) :: news) := fun p hp => by
    rcases List.mem_cons.mp hp with rfl | hp
    · exact ⟨Heap.get?_push_of_some _ (Heap.get?_push_of_some _ ho1), haL, ha0⟩
    · exact N2 p hp
  have na := N3 (a, seqObj "list" #[] e1) (.head _)
  rw [list_sort_plain]
  refine wpAny_bind (listItems_at ho rfl ?_)
  refine wpAny_bind (listUpdate_at ho rfl ?_ (by show 1 ≤ _; rw [sizeLine_eq]; omega) (Nat.zero_le _))
  refine wpAny_bind (seqEpoch_at ho1 rfl ?_)
  refine wpAny_bind (wpAny_newTuple ?_ (by show 1 ≤ _; rw [sizeLine_eq]; omega))
  refine wpAny_bind (wpAny_newList ?_ (Nat.zero_le _))
  refine wpAny_holding ?_
  show wpAny (model prog w) A _ P E { s with heap := ((s.heap.update a (Obj.mapSeq fun _ => (#[] : Array Value))).push (seqObj "tuple" #[v] 0)).push (seqObj "list" #[] 0) }
  dsimp only
  have hn2 : (#[v] : Array Value).size < 2 := by show 1 < 2; omega
  rw [if_pos hn2, if_pos hn2]
  refine wpAny_bind (wpAny_pure ?_)
  refine wpAny_bind (wpAny_pure ?_)
  dsimp only
  have hz : (arrOf (SortSt.mk' general' ((#[v] : Array Value).zip #[v]) #[] 7 none)).map (fun x => x.2) = #[v] := by
    show (((#[v] : Array Value).zip #[v]).map fun x => x.2) = #[v]
    simp
  rw [hz]
  obtain ⟨c2, hc2⟩ : ∃ c2, ((((s.heap.update a (Obj.mapSeq fun _ => (#[] : Array Value))).push (seqObj "tuple" #[v] 0)).push (seqObj "list" #[] 0)).update a (Obj.mapSeq fun _ => #[v])).get? a = some (seqObj "list" #[v] c2) := ⟨_, get?_update_seq na.1 fun _ => #[v]⟩
  refine wpAny_bind (seqEpoch_at na.1 rfl ?_)
  refine wpAny_bind (listUpdate_at na.1 rfl ?_ (Nat.zero_le _) (by show 1 ≤ _; rw [sizeLine_eq]; omega))
  show wpAny (model prog w) A (if (e1 != e1) = true then _ else _) _ _ _
  simp only [bne_self_eq_false, Bool.false_eq_true, if_false]
  have s2 := Heap.SameBut.update (((s.heap.update a (Obj.mapSeq fun _ => (#[] : Array Value))).push (seqObj "tuple" #[v] 0)).push (seqObj "list" #[] 0)) a (Obj.mapSeq fun _ => #[v])
  exact wpAny_pure (h c2 _ (kas_fr F3 s2 na.2.1 na.2.2) (news_set N3 (fun _ h => nomatch h) hna s2 hc2))
open PyProof.Rows PySem.Calls PySem.Spec in
theorem one_sorted {l : Addr} {v : Value} {Q : Value → Shared → Prop} (F : Fr h₀ L s.heap m) (N : News h₀ L s.heap news) (hl : s.heap.IsList l #[v])
    (h : ∀ D c h', Fr h₀ L h' m → News h₀ L h' ((D, ({ cls := .type "list", data := .seq #[v] c } : Obj)) :: news) → Q (.ref D) { s with heap := h' }) :
    wpAny (model prog w) A (call (.builtin "sorted") [.ref l]) Q E s := by
  refine Calls.call_function_entry kind_sorted plain_sorted entry_sorted (args_sorted1 _) ?_
  unfold Builtin.«sorted»
  refine wpAny_bind (m := checkCount "sorted" 1 1 _) (wpAny_pure ?_)
  refine wpAny_bind (collect_list hl ?_ (by show 1 ≤ _; rw [sizeLine_eq]; omega))
  refine wpAny_bind (wpAny_newList ?_ (by show 1 ≤ _; rw [sizeLine_eq]; omega))
  have hsz : ((s.heap.push (seqObj "list" #[] 0)).update s.heap.objs.size (Obj.mapSeq (· ++ #[v]))).objs.size = s.heap.objs.size + 1 := by
    rw [Heap.size_update, size_push']
  have hoL : (((s.heap.push (seqObj "list" #[] 0)).update s.heap.objs.size (Obj.mapSeq (· ++ #[v]))).push (seqObj "list" #[v] 0)).get? (s.heap.objs.size + 1) = some (seqObj "list" #[v] 0) := by
    rw [← hsz]; exact Heap.get?_push_size _ rfl
  have keep : ∀ b o, s.heap.get? b = some o → (((s.heap.push (seqObj "list" #[] 0)).update s.heap.objs.size (Obj.mapSeq (· ++ #[v]))).push (seqObj "list" #[v] 0)).get? b = some o := fun b o q => by
    have hlt : b < s.heap.objs.size := Heap.lt_size q
    rw [Heap.get?_push_ne _ _ _ (by rw [hsz]; exact Nat.ne_of_lt (Nat.lt_succ_of_lt hlt)), Heap.get?_update_ne _ _ _ _ (Nat.ne_of_lt hlt), Heap.get?_push_ne _ _ _ (Nat.ne_of_lt hlt)]
    exact q
  have hL : L < s.heap.objs.size := F.ns.lt
  show wpAny _ _ _ _ _ { s with heap := ((s.heap.push (seqObj "list" #[] 0)).update s.heap.objs.size (Obj.mapSeq (· ++ #[v]))).push (seqObj "list" #[v] 0) }
  rw [hsz]
  refine wpAny_bind (wpAny_holding (wpAny_call_entry slot_list_sort ⟨_, hoL, rfl⟩ entry_list_sort ?body (args_list_sort _)))
  case body =>
    refine one_list_sort (s := { s with heap := ((s.heap.push (seqObj "list" #[] 0)).update s.heap.objs.size (Obj.mapSeq (· ++ #[v]))).push (seqObj "list" #[v] 0) })
      (F.kept keep) (N.grown keep) hoL (Nat.ne_of_gt (Nat.lt_succ_of_lt hL)) (Heap.get?_none_of_le (Nat.le_trans F.above (Nat.le_succ_of_le (Nat.le_of_lt hL))))
      (fun p hp => Nat.ne_of_lt (Nat.lt_succ_of_lt (Heap.lt_size (N p hp).1))) fun c h' F' N' => ?_
    exact ⟨_, rfl, wpAny_pure ⟨_, rfl, h _ c h' F' N'⟩⟩
/-- sorted, of one or more -/
theorem sorted_any {l : Addr} {k : Nat} {vs : List Value} {ps : List (Nat × Nat)} {Q : Value → Shared → Prop} (F : Fr h₀ L s.heap m) (N : News h₀ L s.heap news) (hm : (l, ({ cls := .type "list", data := .seq vs.toArray k } : Obj)) ∈ news) (hp : PairsAt news vs ps)
    (hok : sortOk ps = true) (h2 : 1 ≤ ps.length) (h64 : ps.length < 64) (h1 : ps.length = 1 → sortPs ps = ps)
    (h : ∀ D vs' c h', Fr h₀ L h' m → News h₀ L h' ((D, ({ cls := .type "list", data := .seq (List.toArray vs') c } : Obj)) :: news) → PairsAt news vs' (sortPs ps) → Q (.ref D) { s with heap := h' }) :
    wpAny (model prog w) A (call (.builtin "sorted") [.ref l]) Q E s := by
  by_cases e : ps.length = 1
  · cases hp with
    | nil => cases e
    | cons a r =>
      cases r with
      | cons _ _ => simp at e
      | nil =>
        rename_i v p
        refine one_sorted F N ⟨_, (N _ hm).1, rfl, _, rfl⟩ ?_
        intro D c h' F' N'
        exact h D [v] c h' F' N' (by rw [h1 e]; exact .cons a .nil)
  · exact sorted_runs F N hm hp hok (by omega) h64 h
/-! the data -/
def pairData (p : Nat × Nat) : PyData := .tuple [.int (p.1 : Int), .int (p.2 : Int)]
theorem reads_pairs {h : Heap} (N : News h₀ L h news) : ∀ {vs : List Value} {ps : List (Nat × Nat)}, PairsAt news vs ps → ∃ as, ReadsAll h vs (ps.map pairData) as
  | _, _, .nil => ⟨_, .nil⟩
  | _, _, .cons a r => by
    obtain ⟨t1, o1, a1, b1, n1, rfl, m1, c1, d1⟩ := a
    obtain ⟨as, k⟩ := reads_pairs N r
    exact ⟨_, .cons (reads_tuple_at (N _ m1).1 c1 d1 (.cons (.int _ _) (.cons (.int _ _) .nil))) k⟩
theorem reads_runs {h : Heap} {l : Addr} {k : Nat} {vs : List Value} {ps : List (Nat × Nat)} (N : News h₀ L h news) (hm : (l, ({ cls := .type "list", data := .seq vs.toArray k } : Obj)) ∈ news) (hp : PairsAt news vs ps) : ∃ as, Reads h (.ref l) (.list (ps.map pairData)) as := by
  obtain ⟨as, r⟩ := reads_pairs N hp
  exact ⟨_, reads_list_at (N _ hm).1 rfl rfl r⟩
theorem pairs_all : ∀ ps : List (Nat × Nat), PyData.canLayAll0 (ps.map pairData) = true
  | [] => rfl
  | a :: r => by
    show (PyData.canLay0 (pairData a) && PyData.canLayAll0 (r.map pairData)) = true
    rw [pairs_all r]; rfl
theorem pairs_eqv : ∀ ps : List (Nat × Nat), PyData.eqvAll (ps.map pairData) (ps.map pairData) = true
  | [] => rfl
  | a :: r => by
    show (PyData.eqv (pairData a) (pairData a) && PyData.eqvAll (r.map pairData) (r.map pairData)) = true
    rw [pairs_eqv r]; simp [pairData, PyData.eqv, PyData.eqvAll]
theorem pairs_depth : ∀ ps : List (Nat × Nat), PyData.depthAll (ps.map pairData) ≤ 2
  | [] => by simp [PyData.depthAll]
  | a :: r => by
    have := pairs_depth r
    simp [PyData.depthAll, PyData.depth, pairData]
    omega
theorem runs_eq {l1 l2 : Addr} {k1 k2 : Nat} {vs ws : List Value} {ps qs : List (Nat × Nat)} {Q : Value → Shared → Prop} (N : News h₀ L s.heap news) (h1 : (l1, ({ cls := .type "list", data := .seq vs.toArray k1 } : Obj)) ∈ news) (h2 : (l2, ({ cls := .type "list", data := .seq ws.toArray k2 } : Obj)) ∈ news)
    (a1 : PairsAt news vs ps) (a2 : PairsAt news ws qs) (e : ps = qs) (hu : A.units + 64 < cLine) (hq : Q (.bool true) s) : wpAny (model prog w) A (compareOp .Eq (.ref l1) (.ref l2)) Q E s := by
  subst e
  obtain ⟨as, r1⟩ := reads_runs N h1 a1
  obtain ⟨bs, r2⟩ := reads_runs N h2 a2
  have hd := pairs_depth ps
  have sh : SeqAt.shaped (.list (ps.map pairData)) = true := by
    simp [SeqAt.shaped, PyData.canLay0, PyData.depth, pairs_all]
    omega
  refine eq_dataH r1 r2 sh sh hu ?_
  rw [show PyData.eqv (.list (ps.map pairData)) (.list (ps.map pairData)) = true from pairs_eqv ps]
  exact hq
end
end Mine
namespace Mine
/-- a mark in the context: the loop is next -/
inductive Mark : Prop | mk
theorem four {vs : List Value} {ns : List Int} (h : IntsAre vs ns) (hl : ns.length = 4) : ∃ (x0 x1 x2 x3 : Int) (t0 t1 t2 t3 : Tok), ns = [x0, x1, x2, x3] ∧ vs = [.int x0 t0, .int x1 t1, .int x2 t2, .int x3 t3] := by
  cases h with
  | nil => cases hl
  | cons x0 t0 h =>
    cases h with
    | nil => cases hl
    | cons x1 t1 h =>
      cases h with
      | nil => cases hl
      | cons x2 t2 h =>
        cases h with
        | nil => cases hl
        | cons x3 t3 h =>
          cases h with
          | nil => exact ⟨x0, x1, x2, x3, t0, t1, t2, t3, rfl, rfl⟩
          | cons _ _ _ => simp at hl
theorem two {vs : List Value} {x0 x1 : Int} (h : IntsAre vs [x0, x1]) : ∃ t0 t1 : Tok, vs = [.int x0 t0, .int x1 t1] := by
  cases h with
  | cons _ t0 h =>
    cases h with
    | cons _ t1 h =>
      cases h with
      | nil => exact ⟨t0, t1, rfl⟩
theorem len4 (w : List Int) (f : Int → Int) : (List.map f (List.take 4 w) ++ List.drop (((List.map f (List.take 4 w)).length : Nat) : Int).toNat [26, 10, 9, 23]).length = 4 := by
  rw [Int.toNat_natCast]
  simp
  omega
theorem letter_of (x : Int) : ∃ c : Nat, (97 + x.fmod 26).toNat = c ∧ 97 ≤ c ∧ c ≤ 122 := by
  have h1 := Int.fmod_nonneg_of_pos x (b := 26) (by decide)
  have h2 := Int.fmod_lt_of_pos x (b := 26) (by decide)
  exact ⟨_, rfl, by omega, by omega⟩
section
variable {prog : Program} {w : World} {A : Around} {E : Value → Shared → Prop} {s : Shared} {t u v : Tok} {Q : Value → Shared → Prop}
theorem num_add {x : Int} (h : ∀ n : Nat, 1 ≤ n → n ≤ 40 → Q (.int (n : Int) s.toks) { s with toks := s.toks + 1 }) : wpAny (model prog w) A (binaryOp .Add (.int 1 t) (.int (Int.fmod x 40) u)) Q E s := by
  refine add_int ?_
  have h1 := Int.fmod_nonneg_of_pos x (b := 40) (by decide)
  have h2 := Int.fmod_lt_of_pos x (b := 40) (by decide)
  have := h (1 + x.fmod 40).toNat (by omega) (by omega)
  rw [Int.toNat_of_nonneg (by omega)] at this
  exact this
theorem few_add {x : Int} (h : Stop (∀ n : Nat, 2 ≤ n → n ≤ 13 → Q (.int (n : Int) s.toks) { s with toks := s.toks + 1 })) : wpAny (model prog w) A (binaryOp .Add (.int 2 t) (.int (Int.fmod x 12) u)) Q E s := by
  refine add_int ?_
  have h1 := Int.fmod_nonneg_of_pos x (b := 12) (by decide)
  have h2 := Int.fmod_lt_of_pos x (b := 12) (by decide)
  have := h (2 + x.fmod 12).toNat (by omega) (by omega)
  rw [Int.toNat_of_nonneg (by omega)] at this
  exact this
theorem mul_nat {x : Str} {n : Nat} (hx : x = T [46]) (h1 : n ≤ 1000) (h : ∀ t' tk, s.toks ≤ tk → Q (.str (rp 46 n) t') { s with toks := tk }) : wpAny (model prog w) A (binaryOp .Mult (.str x t) (.int (n : Int) u)) Q E s := by
  refine mul_dot hx (by omega) (by omega) ?_
  rw [Int.toNat_natCast]
  exact h
end
theorem news_cells {h₀ : Heap} {L : Addr} {h : Heap} {b c x y : Addr × Obj} (N : News h₀ L h [b, c, x, y]) : News h₀ L h [x, y] := kst_newsOf N (by
  intro p hp
  simp only [List.mem_cons, List.not_mem_nil, or_false] at hp ⊢
  rcases hp with h | h
  · exact .inr (.inr (.inl h))
  · exact .inr (.inr (.inr h)))
theorem news_pick {h₀ : Heap} {L : Addr} {h : Heap} {b c d e f x y : Addr × Obj} (N : News h₀ L h [b, c, d, e, f, x, y]) : News h₀ L h [b, x, y] := kst_newsOf N (by
  intro p hp
  simp only [List.mem_cons, List.not_mem_nil, or_false] at hp ⊢
  rcases hp with h | h | h
  · exact .inl h
  · exact .inr (.inr (.inr (.inr (.inr (.inl h)))))
  · exact .inr (.inr (.inr (.inr (.inr (.inr h))))))
end Mine
namespace Mine
open PySem.Calls PySem.Spec in
theorem range_turns {prog : Program} {w : World} {A : Around} {E : Value → Shared → Prop} {s : Shared} {env : PySem.Env} {h₀ : Heap} {x : Str} {px : Pos} {body : List PySem.Stmt} {Q : Flow → Shared → Prop} {r : Addr} {b : Int} {t₀ u₀ v₀ : Tok} {n : Nat} {m₀ : Str → Option Value} {news : Led}
    (J : Nat → (Str → Option Value) → Led → Prop) (hh : A.handled = none) (hr : IsRange s.heap r 0 b 1 t₀ u₀ v₀) (hsmall : Builtin.Range.small 0 b 1 = true) (hn : Builtin.Range.rangeSize 0 b 1 = (n : Int)) (F : Fr h₀ env.locals s.heap m₀) (N : News h₀ env.locals s.heap news) (h0 : J 0 m₀ news)
    (turn : ∀ (i : Nat) (t : Tok) (m₁ : Str → Option Value) (news₁ : Led) (I : Addr) (oI : Obj) (h : Heap) (tk : Nat), i < n → J i m₁ news₁ → (∀ p ∈ news₁, p.1 ≠ I) → Fr h₀ env.locals h m₁ → News h₀ env.locals h ((I, oI) :: news₁) →
      wpAny (model prog w) A (assign (.Name x px) env (.int (i : Int) t)) (fun _ s₃ => wpAny (model prog w) A (execs body env) (UnrPostW h₀ env.locals { s with heap := h, toks := tk } [(I, oI)] (J (i + 1)) Q) E s₃) E { s with heap := h, toks := tk })
    (done : ∀ (h : Heap) (tk : Nat) (m' : Str → Option Value) (news' : Led), Fr h₀ env.locals h m' → News h₀ env.locals h news' → J n m' news' → Q .next { s with heap := h, toks := tk }) :
    wpAny (model prog w) A (pyIter (.ref r)) (fun it s₂ => TurnsAt prog w A h₀ env (.Name x px) body Q E it s₂) E s := by
  refine wpAny_pyIter_range hr hsmall ?_
  have W : Walks prog w A s.heap.objs.size [s.heap.objs.size] [s.heap.objs.size] n (fun i v => i < n ∧ ∃ t, v = .int (0 + i * 1) t)
      (fun i h => IsRangeIter h s.heap.objs.size (0 + (i : Nat) * 1) ((n : Int) - (i : Nat)) 1) := (Walks.range hh _ 0 1 n).bound
  refine ⟨s.heap.objs.size, [s.heap.objs.size], [s.heap.objs.size], n, _, _, _, m₀, news, J, rfl, KTurns.ofWalks W (fun i v s' Q' E' st hq => wpAny_of_eq (rfl : letOwnedTupleGo (.Name x px) (.ref _) v = pure ()) hq), ?_, ?_, ?_, ?_, F.push _, fun p hp => ⟨Heap.get?_push_of_some _ (N p hp).1, (N p hp).2⟩, h0, ?_, ?_⟩
  · intro hm
    exact absurd F.ns.lt ((List.mem_singleton.mp hm) ▸ Nat.lt_irrefl _)
  · intro b hb
    rw [List.mem_singleton.mp hb]
    exact next_is_new F
  · intro p hp hI
    exact absurd (Heap.lt_size (N p hp).1) ((List.mem_singleton.mp hI) ▸ Nat.lt_irrefl _)
  · show IsRangeIter _ _ _ _ _
    rw [hn]
    simpa using Heap.get?_push_size _ rfl
  · intro i v m₁ news₁ h₁ tk₁ own hi hP hJ hoff hown hget hall hst F₁ N₁
    obtain ⟨_, t, rfl⟩ := hP
    have e1 : (0 : Int) + (i : Int) * 1 = (i : Int) := by omega
    rw [e1]
    have hst' : IsRangeIter h₁ s.heap.objs.size (0 + ((i + 1 : Nat) : Int) * 1) ((n : Int) - ((i + 1 : Nat) : Int)) 1 := hst
    obtain ⟨oI, hoI⟩ : ∃ oI, h₁.get? s.heap.objs.size = some oI := ⟨_, hst'⟩
    have hin := hall s.heap.objs.size (List.mem_singleton.mpr rfl) (next_is_new F) oI hoI
    have N₂ : News h₀ env.locals h₁ ((s.heap.objs.size, oI) :: news₁) := fun p hp => by
      rcases List.mem_cons.mp hp with rfl | hp
      · exact N₁ _ (List.mem_append_left _ hin)
      · exact N₁ _ (List.mem_append_right _ hp)
    have hne : ∀ p ∈ news₁, p.1 ≠ s.heap.objs.size := fun p hp e => hoff p hp (List.mem_singleton.mpr e)
    have fin : ∀ s₃, UnrEndW h₀ env.locals { s with heap := h₁, toks := tk₁ } [(s.heap.objs.size, oI)] (J (i + 1)) s₃ →
        LoopStepU h₀ env.locals [s.heap.objs.size] own (J (i + 1)) { s with heap := h₁, toks := tk₁ } .next s₃ := by
      rintro s₃ ⟨h', tk, m', news', e, F', N', ho, hk'⟩
      refine ⟨rfl, h', tk, m', news', e, F', ?_, ?_, hk'⟩
      · rintro ⟨pa, po⟩ hp
        rcases List.mem_append.mp hp with hp | hp
        · have e2 : pa = s.heap.objs.size := List.mem_singleton.mp (hown _ hp)
          subst e2
          have h2 : h₁.get? s.heap.objs.size = some po := hget _ hp
          have h6 : oI = po := Option.some.inj (hoI.symm.trans h2)
          subst h6
          exact N' _ (.head _)
        · exact N' _ (.tail _ hp)
      · intro p hp hI
        exact ho p hp _ (.head _) (List.mem_singleton.mp hI)
    refine wpAny_mono (turn i t m₁ news₁ _ oI h₁ tk₁ hi hJ hne F₁ N₂) (fun _ s₂ h₂ => wpAny_mono h₂ (fun f s₃ p => ?_) fun _ _ e => e) fun _ _ e => e
    cases f with
    | ret v => exact .ret p
    | brk => exact .brk p
    | next => exact .next (fin _ p)
    | cont => exact .cont (fin _ p)
  · intro h' tk m' news' F' N' _ hJ
    exact done h' tk m' news' F' N' hJ
/-! what is due -/
def G1 (f i : Nat) (l : List Int) (q : Int) : List Int := if ((f : Int) - 1 - 2 * (i : Int) + (i : Int)).fdiv (2 ^ q.toNat) > 0 then l ++ [q] else l
def G2 (f i : Nat) (l : List Int) (q : Int) : List Int := if Builtin.bitAnd (((f : Int) - 1 - 2 * (i : Int)).fdiv (2 ^ q.toNat)) 1 = 0 then l ++ [q] else l
def placesL (f i : Nat) : List Int := (rangeKs 0 8).foldl (G1 f i) []
def cnt (f i : Nat) : Nat := ((placesL f i).foldl (G2 f i) []).length
def dueL (f : Nat) : Nat → List (Nat × Nat)
  | 0 => []
  | i + 1 => if Builtin.bitAnd ((f : Int) - 1 - 2 * (i : Int)) (i : Int) = 0 then dueL f i ++ [(i, cnt f i)] else dueL f i
theorem dueL_len (f : Nat) : ∀ i, (dueL f i).length ≤ i
  | 0 => Nat.le_refl _
  | i + 1 => by
    have := dueL_len f i
    unfold dueL
    split
    · simp; exact this
    · omega
/-- between the turns -/
def DJ (f : Nat) (D a2 a1 : Addr) (m₀ : Str → Option Value) (i : Nat) (m₁ : Str → Option Value) (news₁ : Led) : Prop :=
  ∃ (vs : List Value) (nn : Nat) (o2 o1 : Obj) (tl : Led) (c2 c1 : Option Value) (u : Str → Option Value), news₁ = (D, ({ cls := .type "list", data := .seq vs.toArray nn } : Obj)) :: (a2, o2) :: (a1, o1) :: tl ∧
    m₁ = (fun z => if z = Str.ofString "places" then u z else m₀ z) ∧ o2.data = .cell c2 ∧ o1.data = .cell c1 ∧ (∀ p ∈ tl, p.1 ≠ D) ∧ (∀ p ∈ tl, p.1 ≠ a2) ∧ (∀ p ∈ tl, p.1 ≠ a1) ∧ PairsAt tl vs (dueL f i)
open PySem.Calls PySem.Spec in
theorem due_turns {prog : Program} {w : World} {A : Around} {E : Value → Shared → Prop} {s : Shared} {env : PySem.Env} {h₀ : Heap} {x : Str} {px : Pos} {body : List PySem.Stmt} {Q : Flow → Shared → Prop} {r : Addr} {b : Int} {t₀ u₀ v₀ : Tok} {n f : Nat} {m₀ : Str → Option Value} {D a2 a1 : Addr} {p2 p1 : Obj} {d2 d1 : Option Value}
    (hb : b = (n : Int)) (hn : n ≤ 100) (hh : A.handled = none) (hr : IsRange s.heap r 0 b 1 t₀ u₀ v₀) (F : Fr h₀ env.locals s.heap m₀) (N : News h₀ env.locals s.heap [(D, ({ cls := .type "list", data := .seq #[] 0 } : Obj)), (a2, p2), (a1, p1)]) (e2 : p2.data = .cell d2) (e1 : p1.data = .cell d1)
    (turn : ∀ (i : Nat) (t : Tok) (vs : List Value) (nn : Nat) (o2 o1 : Obj) (tl : Led) (c2 c1 : Option Value) (u : Str → Option Value) (I : Addr) (oI : Obj) (h : Heap) (tk : Nat), i < n → o2.data = .cell c2 → o1.data = .cell c1 → (∀ p ∈ tl, p.1 ≠ D) → (∀ p ∈ tl, p.1 ≠ a2) → (∀ p ∈ tl, p.1 ≠ a1) → (∀ p ∈ tl, p.1 ≠ I) →
      I ≠ D → I ≠ a2 → I ≠ a1 → PairsAt tl vs (dueL f i) → Fr h₀ env.locals h (fun z => if z = Str.ofString "places" then u z else m₀ z) → News h₀ env.locals h ((I, oI) :: (D, ({ cls := .type "list", data := .seq vs.toArray nn } : Obj)) :: (a2, o2) :: (a1, o1) :: tl) →
      wpAny (model prog w) A (assign (.Name x px) env (.int (i : Int) t)) (fun _ s₃ => wpAny (model prog w) A (execs body env) (UnrPostW h₀ env.locals { s with heap := h, toks := tk } [(I, oI)] (DJ f D a2 a1 m₀ (i + 1)) Q) E s₃) E { s with heap := h, toks := tk })
    (done : ∀ (vs : List Value) (nn : Nat) (tl : Led) (u : Str → Option Value) (h : Heap) (tk : Nat), PairsAt tl vs (dueL f n) → Fr h₀ env.locals h (fun z => if z = Str.ofString "places" then u z else m₀ z) → News h₀ env.locals h ((D, ({ cls := .type "list", data := .seq vs.toArray nn } : Obj)) :: tl) → Q .next { s with heap := h, toks := tk }) :
    wpAny (model prog w) A (pyIter (.ref r)) (fun it s₂ => TurnsAt prog w A h₀ env (.Name x px) body Q E it s₂) E s := by
  subst hb
  refine range_turns (n := n) (DJ f D a2 a1 m₀) hh hr (by exact small_one (by omega) (by omega) (by omega) (by omega)) (by exact rangeSize_nat _ _) F N ⟨[], 0, p2, p1, [], d2, d1, m₀, rfl, by funext z; simp, e2, e1, (fun _ h => nomatch h), (fun _ h => nomatch h), (fun _ h => nomatch h), .nil⟩ ?_ ?_
  · rintro i t m₁ news₁ I oI h tk hi ⟨vs, nn, o2, o1, tl, c2, c1, u, rfl, rfl, q2, q1, hD, h2, h1, hp⟩ hI F₁ N₁
    exact turn i t vs nn o2 o1 tl c2 c1 u I oI h tk hi q2 q1 hD h2 h1 (fun p hp => hI p (.tail _ (.tail _ (.tail _ hp)))) (Ne.symm (hI _ (.head _))) (Ne.symm (hI _ (.tail _ (.head _)))) (Ne.symm (hI _ (.tail _ (.tail _ (.head _))))) hp F₁ N₁
  · rintro h tk m' news' F' N' ⟨vs, nn, o2, o1, tl, c2, c1, u, rfl, rfl, q2, q1, hD, h2, h1, hp⟩
    exact done vs nn tl u h tk hp F' (kst_newsOf N' fun p hp => by
      rcases List.mem_cons.mp hp with rfl | hp
      · exact .head _
      · exact .tail _ (.tail _ (.tail _ hp)))
theorem due_end {f i : Nat} {D a2 a1 I : Addr} {m₀ m' : Str → Option Value} {h₀ : Heap} {L : Addr} {s₁ : Shared} {oI o2 o1 : Obj} {vs : List Value} {nn : Nat} {tl all : Led} {c2 c1 : Option Value} {h' : Heap} {tk : Nat} (F : Fr h₀ L h' m') (N : News h₀ L h' all)
    (sub : ∀ p ∈ (I, oI) :: (D, ({ cls := .type "list", data := .seq vs.toArray nn } : Obj)) :: (a2, o2) :: (a1, o1) :: tl, p ∈ all) (nID : I ≠ D) (nI2 : I ≠ a2) (nI1 : I ≠ a1) (hI : ∀ p ∈ tl, p.1 ≠ I) (hm : ∀ z, ¬ z = Str.ofString "places" → m' z = m₀ z) (q2 : o2.data = .cell c2) (q1 : o1.data = .cell c1)
    (hD : ∀ p ∈ tl, p.1 ≠ D) (h2 : ∀ p ∈ tl, p.1 ≠ a2) (h1 : ∀ p ∈ tl, p.1 ≠ a1) (hp : PairsAt tl vs (dueL f (i + 1))) : UnrEndW h₀ L s₁ [(I, oI)] (DJ f D a2 a1 m₀ (i + 1)) { s₁ with heap := h', toks := tk } := by
  refine ⟨h', tk, m', (D, ({ cls := .type "list", data := .seq vs.toArray nn } : Obj)) :: (a2, o2) :: (a1, o1) :: tl, rfl, F, fun p hp => N p (sub p hp), ?_, ⟨vs, nn, o2, o1, tl, c2, c1, m', rfl, ?_, q2, q1, hD, h2, h1, hp⟩⟩
  · intro p hp q hq
    rw [List.mem_singleton.mp hq]
    rcases List.mem_cons.mp hp with rfl | hp
    · exact Ne.symm nID
    · rcases List.mem_cons.mp hp with rfl | hp
      · exact Ne.symm nI2
      · rcases List.mem_cons.mp hp with rfl | hp
        · exact Ne.symm nI1
        · exact hI p hp
  · funext z
    by_cases hz : z = Str.ofString "places"
    · rw [if_pos hz]
    · rw [if_neg hz, hm z hz]
theorem g1_mem {f i : Nat} : ∀ (ks l : List Int), (∀ k ∈ ks, 0 ≤ k) → (∀ k ∈ l, 0 ≤ k) → ∀ k ∈ ks.foldl (G1 f i) l, 0 ≤ k
  | [], l, _, hl => hl
  | q :: ks, l, hk, hl => by
    rw [List.foldl_cons]
    refine g1_mem ks _ (fun k h => hk k (.tail _ h)) ?_
    unfold G1
    split
    · intro k h
      rcases List.mem_append.mp h with h | h
      · exact hl k h
      · rw [List.mem_singleton.mp h]; exact hk q (.head _)
    · exact hl
theorem places_pos {f i : Nat} {k : Int} (h : k ∈ placesL f i) : 0 ≤ k :=
  g1_mem (rangeKs 0 8) [] (fun k hk => (mem_rangeKs hk).1) (fun _ h => nomatch h) k h
theorem len_led {prog : Program} {w : World} {A : Around} {E : Value → Shared → Prop} {s : Shared} {h₀ : Heap} {L l : Addr} {ys : List Value} {k : Nat} {news : Led} {Q : Value → Shared → Prop} (N : News h₀ L s.heap news) (hm : (l, ({ cls := .type "list", data := .seq ys.toArray k } : Obj)) ∈ news) {c : Nat} (hc : ys.length = c) (hle : ys.length ≤ 1000)
    (h : Q (.int (c : Int) (s.toks + 1)) { s with toks := s.toks + 1 + 1 }) : wpAny (model prog w) A (call (.builtin "len") [.ref l]) Q E s := by
  subst hc
  exact len_list (items := ys.toArray) ⟨_, (N _ hm).1, rfl, _, rfl⟩ (by rw [List.size_toArray]; omega) h
theorem new_tup {prog : Program} {w : World} {A : Around} {E : Value → Shared → Prop} {s : Shared} {h₀ : Heap} {L : Addr} {m : Str → Option Value} {vs : List Value} {news : Led} {Q : Value → Shared → Prop} (F : Fr h₀ L s.heap m) (N : News h₀ L s.heap news) (hsz : vs.length ≤ 10)
    (h : ∀ T h', Fr h₀ L h' m → News h₀ L h' ((T, ({ cls := .type "tuple", data := .seq vs.toArray } : Obj)) :: news) → (∀ q ∈ news, q.1 < T) → Q (.ref T) { s with heap := h' }) : wpAny (model prog w) A (newTuple vs) Q E s := by
  refine wpAny_newTuple (h _ _ (F.push _) ?_ (fun q hq => Heap.lt_size (N q hq).1)) (by rw [sizeLine_eq]; omega)
  intro p hp
  rcases List.mem_cons.mp hp with rfl | hp
  · exact ⟨Heap.get?_push_size _ rfl, Nat.ne_of_gt F.ns.lt, next_is_new F⟩
  · exact ⟨Heap.get?_push_of_some _ (N p hp).1, (N p hp).2⟩
theorem sub_due {T d1 d2 I D a2 a1 : Addr × Obj} {tl : Led} : ∀ p ∈ I :: D :: a2 :: a1 :: T :: tl, p ∈ T :: d1 :: d2 :: I :: D :: a2 :: a1 :: tl := by
  intro p hp
  rcases List.mem_cons.mp hp with rfl | hp
  · exact .tail _ (.tail _ (.tail _ (.head _)))
  · rcases List.mem_cons.mp hp with rfl | hp
    · exact .tail _ (.tail _ (.tail _ (.tail _ (.head _))))
    · rcases List.mem_cons.mp hp with rfl | hp
      · exact .tail _ (.tail _ (.tail _ (.tail _ (.tail _ (.head _)))))
      · rcases List.mem_cons.mp hp with rfl | hp
        · exact .tail _ (.tail _ (.tail _ (.tail _ (.tail _ (.tail _ (.head _))))))
        · rcases List.mem_cons.mp hp with rfl | hp
          · exact .head _
          · exact .tail _ (.tail _ (.tail _ (.tail _ (.tail _ (.tail _ (.tail _ hp))))))
def sternB (f : Nat) : Bool := sortOk (runsL 12 f) && decide (1 ≤ (runsL 12 f).length) && decide ((runsL 12 f).length < 64) && (decide ((runsL 12 f).length ≠ 1) || decide (sortPs (runsL 12 f) = runsL 12 f)) && decide (sortPs (runsL 12 f) = dueL f ((f + 1) / 2))
theorem stern_all : ∀ f, f < 14 → 2 ≤ f → sternB f = true := by decide +kernel
theorem stern (f : Nat) (h1 : 2 ≤ f) (h2 : f ≤ 13) : sortOk (runsL 12 f) = true ∧ 1 ≤ (runsL 12 f).length ∧ (runsL 12 f).length < 64 ∧ ((runsL 12 f).length = 1 → sortPs (runsL 12 f) = runsL 12 f) ∧ sortPs (runsL 12 f) = dueL f ((f + 1) / 2) := by
  have h := stern_all f (by omega) h1
  unfold sternB at h
  simp only [Bool.and_eq_true, Bool.or_eq_true, decide_eq_true_eq] at h
  obtain ⟨⟨⟨⟨a, b⟩, c⟩, d⟩, e⟩ := h
  refine ⟨a, b, c, fun q => ?_, e⟩
  rcases d with d | d
  · exact absurd q d
  · exact d
end Mine
namespace Mine
/-- a second mark: what is due is built -/
def Mark2 : Prop := True
theorem Mark2.mk : Mark2 := True.intro
local macro_rules | `(tactic| walk_at "exec For Name Subscript cons nil") => `(tactic| (k_here; refine Stop.mk ?_))
local macro_rules | `(tactic| walk_at "call ref") => `(tactic| (k_here; k_dflt (refine' use_says (walk_says _ _ _ _ _ _ _ _ ?p1 ?p2 ?p3) ?k1 ?k2 ?k3 ?k4 ?k5 ?k6 ?k7 ?k8 ?_; (case p1 => omega); (case p2 => assumption); (case p3 => assumption); (case k1 => k_asm); (case k2 => k_asm); (case k3 => k_asm); (case k4 => k_asm); (case k5 => k_asm); (case k6 => first | exact rfl | assumption); (case k7 => ktr_room); (case k8 => ktr_units); k_whole); intro r9 tl9 h9 tk9 hk9 F9 N9 R9; (try dsimp only at hk9); k_dflt (obtain ⟨l9, vs9, nn9, e9, tl9', ca9⟩ := R9); subst e9; subst tl9'; (try dsimp only [List.cons_append, List.nil_append] at N9)))
local macro_rules | `(tactic| walk_at "call ref") => `(tactic| (k_here; k_dflt (refine' use_says (due_says _ _ _ _ _ _ _ _ ?p1 ?p2 ?p3) ?k1 ?k2 ?k3 ?k4 ?k5 ?k6 ?k7 ?k8 ?_; (case p1 => omega); (case p2 => assumption); (case p3 => assumption); (case k1 => k_asm); (case k2 => k_asm); (case k3 => k_asm); (case k4 => k_asm); (case k5 => k_asm); (case k6 => first | exact rfl | assumption); (case k7 => ktr_room); (case k8 => ktr_units); k_whole); intro r9 tl9 h9 tk9 hk9 F9 N9 R9; (try dsimp only at hk9); k_dflt (obtain ⟨l9, vs9, nn9, e9, tl9', ca9⟩ := R9); subst e9; subst tl9'; (try dsimp only [List.cons_append, List.nil_append] at N9)))
local macro_rules | `(tactic| walk_at "binaryOp Mult str int") => `(tactic| (k_here; refine mul_nat lit_dot (by omega) ?_; intro t8 tk8 hk8; (try dsimp only at hk8)))
local macro_rules | `(tactic| walk_at "binaryOp Add str str") => `(tactic| (k_here; refine add_dot (by omega) ?_; intro t8 tk8 hk8; (try dsimp only at hk8)))
local macro_rules | `(tactic| walk_at "binaryOp Add int int") => `(tactic| (k_here; with_reducible first | (refine few_add ?_) | (refine num_add ?_; intro n9 hn9 hn9')))
local macro_rules | `(tactic| walk_at "compareOp NotEq ref ref") => `(tactic| (k_here; refine piles_ne2 (by k_asm) (by assumption) (by assumption) (orb_du _ (by omega) (by omega)) (by assumption) (by ke_room) ?_; intro N9))
local macro_rules | `(tactic| walk_at "exec For Name Subscript cons nil") => `(tactic| (k_here; (with_reducible rename Mark => hMark); (rename Fr _ _ _ _ => lF'); (with_unfolding_all refine' For_turns lF' ?_; k_whole)))
local macro_rules | `(tactic| walk_at "exec For Name Call cons nil") => `(tactic| (k_here; (rename Fr _ _ _ _ => lF'); (with_unfolding_all refine' For_turns lF' ?_; k_whole)))
local macro_rules | `(tactic| walk_at "pyIter ref") => `(tactic| (k_here; (with_reducible rename IsRange _ _ _ _ _ _ _ _ => rgX); (with_reducible show wpAny _ _ (pyIter (Value.ref _)) (fun it s₂ => TurnsAt _ _ _ _ _ _ _ _ _ it s₂) _ _); refine Stop.mk ?_))
local macro_rules | `(tactic| walk_at "my_ne") => `(tactic| first | assumption | k_ne | exact Ne.symm (by assumption))
local macro_rules | `(tactic| walk_at "my_all") => `(tactic| first | assumption | exact List.forall_mem_nil _ | exact List.forall_mem_cons.mpr ⟨by walk_at "my_ne", by walk_at "my_all"⟩)
local macro_rules | `(tactic| walk_at "my_updF") => `(tactic| first | (refine' UpdF.head ?a; (case a => walk_at "my_all")) | (refine' UpdF.tail ?a ?b; (case a => walk_at "my_ne"); (case b => walk_at "my_updF")))
local macro_rules | `(tactic| walk_at "my_upd") => `(tactic| first | (refine' Upd.head ?a; (case a => walk_at "my_all")) | (refine' Upd.tail ?a ?b; (case a => walk_at "my_ne"); (case b => walk_at "my_upd")))
local macro_rules | `(tactic| walk_at "storeName") => `(tactic| ((with_reducible rename Mark2 => hMk); k_here; k_dflt (refine' storeX_C ?F ?N ?c ?U ?d ?_ ?a ?b; (case a => rfl); (case b => rfl); (case F => k_asm); (case N => k_asm); (case c => rfl); (case U => walk_at "my_updF"); (case d => k_asm); k_whole); intro h' o' F' N' d'; (try dsimp only at N'); (try k_sweep)))
local macro_rules | `(tactic| walk_at "compareOp Eq int int") => `(tactic| ((with_reducible rename Mark2 => hMk); k_here; first | refine eqi_no (by assumption) ?_ | refine eqi_yes (by assumption) ?_))
local macro_rules | `(tactic| walk_at "compareOp Gt int int") => `(tactic| ((with_reducible rename Mark2 => hMk); k_here; first | refine gt_no (by assumption) ?_ | refine gt_yes (by assumption) ?_))
local macro_rules | `(tactic| walk_at "call builtin:list.append") => `(tactic| ((with_reducible rename Mark2 => hMk); k_here; (with_reducible show wpAny _ _ (call (Value.builtin _) [Value.ref _, _]) _ _ _); k_dflt (refine' append_K ?k1 ?k2 ?k3 ?_ ?z; (case k1 => k_asm); (case k2 => k_asm); (case k3 => walk_at "my_upd"); (case z => (rw [sizeLine_eq, List.size_toArray]; omega)); k_whole); intro h' F' N'; (try k_sweep)))
local macro_rules | `(tactic| walk_at "call builtin:len") => `(tactic| ((with_reducible rename Mark2 => hMk); k_here; (with_reducible show wpAny _ _ (call (Value.builtin "len") [Value.ref _]) _ _ _); k_dflt (refine' len_led ?k1 ?k2 ?k3 ?k4 ?_; (case k1 => k_asm); (case k2 => k_mem); (case k3 => assumption); (case k4 => assumption); k_whole)))
local macro_rules | `(tactic| walk_at "newTuple") => `(tactic| ((with_reducible rename Mark2 => hMk); k_here; k_dflt (refine' new_tup ?F ?N ?z ?_; (case F => k_asm); (case N => k_asm); (case z => exact Nat.le_of_ble_eq_true rfl)); intro T9 h' F' N' l1; (try k_lt l1); (try k_sweep)))
local macro_rules | `(tactic| walk_at "call builtin:sorted") => `(tactic| ((with_reducible rename Mark2 => hMk); k_here; refine Stop.mk ?_))
local macro_rules | `(tactic| walk_at "compareOp Eq ref ref") => `(tactic| ((with_reducible rename Mark2 => hMk); k_here; refine Stop.mk ?_))
local macro_rules | `(tactic| walk_at "call ref") => `(tactic| (k_here; k_dflt (refine' use_says (runs_says _ _ _ _ _ _ _ _ _ ?p0 ?p1 ?p2 ?p3) ?k1 ?k2 ?k3 ?k4 ?k5 ?k6 ?k7 ?k8 ?_; (case p0 => omega); (case p1 => omega); (case p2 => assumption); (case p3 => assumption); (case k1 => k_asm); (case k2 => k_asm); (case k3 => k_asm); (case k4 => k_asm); (case k5 => k_asm); (case k6 => first | exact rfl | assumption); (case k7 => ktr_room); (case k8 => ktr_units); k_whole); intro r9 tl9 h9 tk9 hk9 F9 N9 R9; (try dsimp only at hk9); k_dflt (obtain ⟨l9, vs9, nn9, e9, mp9⟩ := R9); subst e9))
local macro_rules | `(tactic| walk_at "CompSrcT") => `(tactic| ((with_reducible rename Mark2 => hMk); k_here; refine Stop.mk ?_))
local macro_rules | `(tactic| walk_at "CompEnd") => `(tactic| ((with_reducible rename Mark2 => hMk); refine Stop.mk ?_))
local macro_rules | `(tactic| walk_at "UnrEndW") => `(tactic| ((with_reducible rename Mark2 => hMk); refine Stop.mk ?_))
theorem main : PySem.Challenge.rw_wn0009_01.Holds := by
  refine hd ?_
  k_go0
  (all_goals try k_fold)
  k_steps
  unfold Stop
  (rename IntsAre _ (_ ++ _) => hI1)
  obtain ⟨x0, x1, x2, x3, t0, t1, t2, t3, e, ev⟩ := four hI1 (len4 _ _)
  (rename Fr _ _ _ _ => F)
  (rename News _ _ _ _ => N)
  obtain ⟨c, hce, hc1, hc2⟩ := letter_of x3
  rw [e] at F
  change Fr _ _ _ (fun y => if y = Str.ofString "letter" then some (Value.str { cps := #[(97 + x3.fmod 26).toNat] } _) else _) at F
  rw [hce] at F
  change Fr _ _ _ (fun y => if y = Str.ofString "letter" then some (Value.str (lc c) _) else _) at F
  clear hI1 e hce
  subst ev
  have mark : Mark := .mk
  have N2 := news_pick N
  clear N
  (try k_fold)
  k_steps
  unfold Stop
  intro f hf1 hf2
  (rename Fr _ _ _ _ => F)
  (rename News _ _ _ _ => N)
  have N2 := news_cells N
  clear N
  (try k_fold)
  k_steps
  unfold Stop
  have mark2 : Mark2 := .mk
  (rename Fr _ _ _ _ => F5)
  (rename News _ _ _ _ => N5)
  (rename IsRange _ _ _ _ _ _ _ _ => rg5)
  (rename (Obj.data _ = Data.cell _) => e1)
  (rename (Obj.data _ = Data.cell _) => e2)
  have hb : ((f : Int) + 1).fdiv 2 = (((f + 1) / 2 : Nat) : Int) := by rw [Int.fdiv_eq_ediv_of_nonneg _ (by decide)]; omega
  with_unfolding_all refine due_turns (f := f) (n := (f + 1) / 2) hb (by omega) rfl rg5 F5 N5 (by assumption) (by assumption) ?turn ?done
  case turn =>
    intro i t vs nn o2 o1 tl c2 c1 u I oI h tk hi q2 q1 hD h2 h1 hI nID nI2 nI1 hp F6 N6
    clear F5 N5 rg5
    have hvl : vs.length ≤ 100 := by rw [hp.length]; exact Nat.le_trans (dueL_len f i) (by omega)
    by_cases hq : Builtin.bitAnd ((f : Int) - 1 - 2 * (i : Int)) (i : Int) = 0
    · (try k_fold)
      k_steps
      unfold Stop
      (rename Fr _ _ _ _ => F7)
      (rename News _ _ _ _ => N7)
      (rename IsRange _ _ _ _ _ _ _ _ => rg7)
      with_unfolding_all refine LCt.CompSrcT.range (n := 8) rfl F7 N7 rg7 (by decide) (by rfl) (by decide) ?_
      intro g7
      refine kci_range (G1 f i) ?turn1 ?fin1 ?grow1
      case grow1 => intro l k; unfold G1; split <;> simp
      case turn1 =>
        intro k8 t8 I8 oI8 C8 oC8 D8 m8 ys8 l8 h8 tk8 E8 hlo8 hhi8 hy8 hC8 hx8 F8 N8 off8 ne8 mk8
        by_cases hg : ((f : Int) - 1 - 2 * (i : Int) + (i : Int)).fdiv (2 ^ k8.toNat) > 0
        · (try k_fold)
          k_steps
          unfold Stop
          exact LCg.CompEnd.intro (by k_asm) (by k_asm) _ (fun p hp => hp) off8 True.intro (kci_el (if_pos hg) rfl rfl)
        · (try k_fold)
          k_steps
          unfold Stop
          exact LCg.CompEnd.intro (by k_asm) (by k_asm) _ (fun p hp => hp) off8 True.intro (kci_no (if_neg hg) rfl)
      case fin1 =>
        unfold KPfDone
        intro ys hy hlen
        (try k_fold)
        k_steps
        unfold Stop
        (rename Fr _ _ _ _ => F9)
        (rename News _ _ _ _ => N9)
        with_unfolding_all refine LCt.CompSrcT.ledger rfl F9 N9 (by k_mem) (by rw [List.size_toArray, sizeLine_eq]; omega) ?_
        intro g9
        refine kci_list (G2 f i) hy ?turn2 ?fin2 ?grow2
        case grow2 => intro l k; unfold G2; split <;> simp
        case turn2 =>
          intro k8 t8 I8 oI8 C8 oC8 D8 m8 ys8 l8 h8 tk8 E8 hk8 hy8 hC8 hx8 F8 N8 off8 ne8 mk8
          have hlo8 : 0 ≤ k8 := places_pos hk8
          by_cases hg : Builtin.bitAnd (((f : Int) - 1 - 2 * (i : Int)).fdiv (2 ^ k8.toNat)) 1 = 0
          · (try k_fold)
            k_steps
            unfold Stop
            exact LCg.CompEnd.intro (by k_asm) (by k_asm) _ (fun p hp => hp) off8 (.inr ⟨_, by k_mem, rfl, _, rfl⟩) (kci_el (if_pos hg) rfl rfl)
          · (try k_fold)
            k_steps
            unfold Stop
            exact LCg.CompEnd.intro (by k_asm) (by k_asm) _ (fun p hp => hp) off8 (.inr ⟨_, by k_mem, rfl, _, rfl⟩) (kci_no (if_neg hg) rfl)
        case fin2 =>
          unfold KPfDone
          intro zs hz hlen2
          have hcnt : zs.length = cnt f i := hz.length
          have hlen3 : zs.length ≤ 1000 := by rw [List.size_toArray] at hlen2; omega
          (try k_fold)
          k_steps
          unfold Stop
          rename_i T9 hX lT hY F11 N11
          simp only [List.push_toArray] at N11
          obtain ⟨_, _, lI, lDt, l2t, l1t, lAll⟩ := lT
          refine due_end (vs := vs ++ [.ref T9]) (tl := (T9, _) :: tl) F11 N11 sub_due nID nI2 nI1 (List.forall_mem_cons.mpr ⟨Nat.ne_of_gt lI, hI⟩) (fun z hz => (if_neg hz).trans (if_neg hz)) (by assumption) (by assumption) (List.forall_mem_cons.mpr ⟨Nat.ne_of_gt lDt, hD⟩) (List.forall_mem_cons.mpr ⟨Nat.ne_of_gt l2t, h2⟩) (List.forall_mem_cons.mpr ⟨Nat.ne_of_gt l1t, h1⟩) ?_
          rw [dueL, if_pos hq]
          exact (hp.mono fun q hq => .tail _ hq).snoc ⟨T9, _, t, _, 0, rfl, .head _, rfl, rfl⟩
    · (try k_fold)
      k_steps
      unfold Stop
      (rename News _ _ _ _ => N7)
      exact due_end (by assumption) N7 (fun p hp => hp) nID nI2 nI1 hI (fun z hz => if_neg hz) (by assumption) (by assumption) hD h2 h1 (by rw [dueL, if_neg hq]; exact hp)
  case done =>
    intro vs nn tl u h tk hp F6 N6
    clear F5 N5 rg5
    obtain ⟨s1, s2, s3, s4, s5⟩ := stern f hf1 hf2
    (try k_fold)
    k_steps
    unfold Stop
    (rename _ ∧ PairsAt _ _ (runsL _ _) => mp)
    refine sorted_any (by k_asm) (by k_asm) (List.mem_append.mpr (.inl mp.1)) (mp.2.mono fun q hq => List.mem_append.mpr (.inl hq)) s1 s2 s3 s4 ?_
    intro D9 ws c9 h9 F9 N9 P9
    (try k_fold)
    k_steps
    unfold Stop
    refine runs_eq N9 (.head _) (.tail _ (List.mem_append.mpr (.inr (.head _)))) (P9.mono fun q hq => .tail _ hq) (hp.mono fun q hq => .tail _ (List.mem_append.mpr (.inr (.tail _ hq)))) s5 (by ke_room) ?_
    k_steps
end Mine
theorem PySem.Challenge.cw_wn0009_01_holds : PySem.Challenge.rw_wn0009_01.Holds := by
  exact Mine.main
