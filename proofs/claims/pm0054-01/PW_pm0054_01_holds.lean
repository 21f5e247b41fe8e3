import PyProof.Rows.All
import Wide.All
import OpenK.AllK
import Wide.FinOn
import PySem.Challenge.RW_pm0054_01
set_option Elab.async false
set_option maxRecDepth 100000
set_option maxHeartbeats 8000000
open PySem PySem.W PyProof.Rows
namespace Mine
open_top hd for PySem.Challenge.rw_pm0054_01
end Mine
open PySem.Calls PySem.Spec
namespace Mine
section
def Does (w : World) (d : Nat) (f : Addr) (vs : List Value) (news : List (Addr × Obj)) (R : Value → List (Addr × Obj) → Prop) : Prop :=
  ∀ (dp un : Nat) (gd : Option (List Code)) (cn : Str) (cs : Scope) (a : Addr) (ccd : Value) (cl : List (Str × Addr)) (outer : List Env) (A₀ : Around) (base h₀ : Heap) (L : Addr) (m mg mb : Str → Option Value) (mean : ExcName → Option Value) (s : Shared) (Q E : Value → Shared → Prop),
    Below A₀ base outer h₀ → Fr h₀ L s.heap m → (Mine.hd.heap_39 w.params).In h₀ → News h₀ L s.heap news →
    Top Mine.hd.view_39 (looseW Mine.hd.view_39 [Str.ofString "tspecials", Str.ofString "_name_disallowed_re", Str.ofString "_value_disallowed_re", Str.ofString "_formatparam", Str.ofString "bisect_left"]) mean mg mb h₀ →
    cs.kind = .function → dp + d < recursionLimit → un + 20 * d < cLine →
    (∀ r news' h' tk', R r news' → Fr h₀ L h' m → News h₀ L h' news' → Q r { s with heap := h', toks := tk' }) →
    wpAny (model Challenge.rw_pm0054_01.row.prog w) (ktrTop dp un gd cn cs L a ccd cl outer) (call (.ref f) vs) Q E s
theorem Does.use {w : World} {d : Nat} {f : Addr} {vs : List Value} {news : List (Addr × Obj)} {R : Value → List (Addr × Obj) → Prop} {dp un : Nat} {gd : Option (List Code)} {cn : Str} {cs : Scope} {a : Addr} {ccd : Value} {cl : List (Str × Addr)} {outer : List Env} {A₀ : Around} {base h₀ : Heap} {L : Addr} {m mg mb : Str → Option Value} {mean : ExcName → Option Value} {s : Shared} {Q E : Value → Shared → Prop}
    (B : Below A₀ base outer h₀) (F : Fr h₀ L s.heap m) (X : (Mine.hd.heap_39 w.params).In h₀) (N : News h₀ L s.heap news)
    (T : Top Mine.hd.view_39 (looseW Mine.hd.view_39 [Str.ofString "tspecials", Str.ofString "_name_disallowed_re", Str.ofString "_value_disallowed_re", Str.ofString "_formatparam", Str.ofString "bisect_left"]) mean mg mb h₀)
    (hk : cs.kind = .function) (D : Does w d f vs news R) (hd : dp + d < recursionLimit) (hu : un + 20 * d < cLine)
    (ret : ∀ r news' h' tk', R r news' → Fr h₀ L h' m → News h₀ L h' news' → Q r { s with heap := h', toks := tk' }) :
    wpAny (model Challenge.rw_pm0054_01.row.prog w) (ktrTop dp un gd cn cs L a ccd cl outer) (call (.ref f) vs) Q E s := D _ _ _ _ _ _ _ _ _ _ _ _ _ _ _ _ _ _ _ _ B F X N T hk hd hu ret
def DoesK (w : World) (d : Nat) (f : Addr) (vs : List Value) (kw : List (Str × Value)) (news : List (Addr × Obj)) (R : Value → List (Addr × Obj) → Prop) : Prop :=
  ∀ (dp un : Nat) (gd : Option (List Code)) (cn : Str) (cs : Scope) (a : Addr) (ccd : Value) (cl : List (Str × Addr)) (outer : List Env) (A₀ : Around) (base h₀ : Heap) (L : Addr) (m mg mb : Str → Option Value) (mean : ExcName → Option Value) (s : Shared) (Q E : Value → Shared → Prop),
    Below A₀ base outer h₀ → Fr h₀ L s.heap m → (Mine.hd.heap_39 w.params).In h₀ → News h₀ L s.heap news →
    Top Mine.hd.view_39 (looseW Mine.hd.view_39 [Str.ofString "tspecials", Str.ofString "_name_disallowed_re", Str.ofString "_value_disallowed_re", Str.ofString "_formatparam", Str.ofString "bisect_left"]) mean mg mb h₀ →
    cs.kind = .function → dp + d < recursionLimit → un + 20 * d < cLine →
    (∀ r news' h' tk', R r news' → Fr h₀ L h' m → News h₀ L h' news' → Q r { s with heap := h', toks := tk' }) →
    wpAny (model Challenge.rw_pm0054_01.row.prog w) (ktrTop dp un gd cn cs L a ccd cl outer) (call (.ref f) vs kw) Q E s
theorem DoesK.use {w : World} {d : Nat} {f : Addr} {vs : List Value} {kw : List (Str × Value)} {news : List (Addr × Obj)} {R : Value → List (Addr × Obj) → Prop} {dp un : Nat} {gd : Option (List Code)} {cn : Str} {cs : Scope} {a : Addr} {ccd : Value} {cl : List (Str × Addr)} {outer : List Env} {A₀ : Around} {base h₀ : Heap} {L : Addr} {m mg mb : Str → Option Value} {mean : ExcName → Option Value} {s : Shared} {Q E : Value → Shared → Prop}
    (B : Below A₀ base outer h₀) (F : Fr h₀ L s.heap m) (X : (Mine.hd.heap_39 w.params).In h₀) (N : News h₀ L s.heap news)
    (T : Top Mine.hd.view_39 (looseW Mine.hd.view_39 [Str.ofString "tspecials", Str.ofString "_name_disallowed_re", Str.ofString "_value_disallowed_re", Str.ofString "_formatparam", Str.ofString "bisect_left"]) mean mg mb h₀)
    (hk : cs.kind = .function) (D : DoesK w d f vs kw news R) (hd : dp + d < recursionLimit) (hu : un + 20 * d < cLine)
    (ret : ∀ r news' h' tk', R r news' → Fr h₀ L h' m → News h₀ L h' news' → Q r { s with heap := h', toks := tk' }) :
    wpAny (model Challenge.rw_pm0054_01.row.prog w) (ktrTop dp un gd cn cs L a ccd cl outer) (call (.ref f) vs kw) Q E s := D _ _ _ _ _ _ _ _ _ _ _ _ _ _ _ _ _ _ _ _ B F X N T hk hd hu ret
/-- the rows of a dict of cuts -/
inductive CutRows (news : List (Addr × Obj)) : List (Str × Value) → List (Str × Str × Str) → Prop
  | nil : CutRows news [] []
  | cons {x l r : Str} {a : Addr} {n : Nat} {t1 t2 : Tok} {kvs : List (Str × Value)} {T : List (Str × Str × Str)} : (a, listOf #[.str l t1, .str r t2] n) ∈ news → CutRows news kvs T → CutRows news ((x, .ref a) :: kvs) ((x, l, r) :: T)
theorem CutRows.uncons {news : List (Addr × Obj)} {kvs : List (Str × Value)} {x l r : Str} {T : List (Str × Str × Str)} (h : CutRows news kvs ((x, l, r) :: T)) : ∃ a n t1 t2 kvs', kvs = (x, .ref a) :: kvs' ∧ (a, listOf #[.str l t1, .str r t2] n) ∈ news ∧ CutRows news kvs' T := by
  cases h with
  | cons hm h => exact ⟨_, _, _, _, _, rfl, hm, h⟩
theorem CutRows.unnil {news : List (Addr × Obj)} {kvs : List (Str × Value)} (h : CutRows news kvs []) : kvs = [] := by
  cases h; rfl
def CutsAt (w : World) (news : List (Addr × Obj)) (dc : Addr) (T : List (Str × Str × Str)) : Prop :=
  ∃ o kvs, o.IsDictOf (PySem.strKind Challenge.rw_pm0054_01.row.prog w) kvs ∧ (dc, o) ∈ news ∧ (dc == sysModules) = false ∧ CutRows news kvs T
theorem Does.mono {w : World} {d : Nat} {f : Addr} {vs : List Value} {news : List (Addr × Obj)} {R R' : Value → List (Addr × Obj) → Prop} (h : Does w d f vs news R) (hr : ∀ r nw, R r nw → R' r nw) : Does w d f vs news R' := by
  unfold Does at h ⊢
  intro dp un gd cn cs a ccd cl outer A₀ base h₀ L m mg mb mean s Q E B F X N T hk hd hu hret
  exact h dp un gd cn cs a ccd cl outer A₀ base h₀ L m mg mb mean s Q E B F X N T hk hd hu fun r nw h' tk' hR => hret r nw h' tk' (hr r nw hR)
/-- a mark that stops the walk -/
def Hold (P : Prop) : Prop := P
theorem Hold.of {P : Prop} (h : Hold P) : P := h
end
section
section
variable {prog : Program} {w : World} {A : Around} {E : Value → Shared → Prop} {s : Shared} {h₀ : Heap} {L : Addr} {news : List (Addr × Obj)}
theorem my_len {l : Addr} {its : Array Value} {n : Nat} {Q : Value → Shared → Prop} (N : News h₀ L s.heap news) (hm : (l, listOf its n) ∈ news) (hfit : its.size < 1000)
    (h : Q (.int its.size (s.toks + 1)) { s with toks := s.toks + 1 + 1 }) : wpAny (model prog w) A (call (.builtin "len") [.ref l]) Q E s :=
  call_len_list (N.isList hm) (by omega) h
theorem my_item {value slice : PySem.Expr} {l : Addr} {its : Array Value} {n : Nat} {ns : List Int} {k : Int} {u : Tok} {Q : Value → Shared → Prop} (N : News h₀ L s.heap news) (hm : (l, listOf its n) ∈ news) (hi : IntsAre its.toList ns)
    (h0 : 0 ≤ k) (h1 : k < (ns.length : Int)) (h2 : ns.length < 1000) (h : ∀ t, Q (.int (ns.getD k.toNat 0) t) s)
    (hs : subscripted slice false (.ref l) (.int k u) = operate [.ref l, .int k u] (getItem (.ref l) (.int k u)) := by with_unfolding_all rfl) :
    wpAny (model prog w) A (subscriptTail value slice (.ref l) (.int k u)) Q E s := by
  have hl := N.isList hm
  have hlt : k.toNat < ns.length := by omega
  obtain ⟨t, ht⟩ := hi.get k.toNat (ns.getD k.toNat 0) (by simp [hlt])
  exact tail_any hl.typeIs slot_list_getitem.lookup (wpAny_getItem_list hl h0 (by omega) (x := .int (ns.getD k.toNat 0) t) (by simpa using ht) (h t)) hs
end
local macro_rules | `(tactic| walk_at "call builtin:len") => `(tactic| (k_here; (with_reducible show wpAny _ _ (call (Value.builtin "len") [Value.ref _]) _ _ _); k_dflt (refine' my_len ?N ?m ?f ?_; (case N => k_asm); (case m => k_mem); (case f => omega))))
/-- how many lie under x -/
def cnt (ns : List Int) (x : Int) : Nat := (ns.filter fun a => decide (a < x)).length
structure BisInv (ns : List Int) (x : Int) (lo hi : Int) : Prop where
  p0 : 0 ≤ lo
  p1 : lo ≤ hi
  p2 : hi ≤ ns.length
  p3 : ∀ j : Nat, (j : Int) < lo → ns.getD j 0 < x
  p4 : ∀ j : Nat, hi ≤ (j : Int) → j < ns.length → x ≤ ns.getD j 0
theorem cnt_at : ∀ (ns : List Int) (x : Int) (k : Nat), k ≤ ns.length → (∀ j : Nat, j < k → ns.getD j 0 < x) → (∀ j : Nat, k ≤ j → j < ns.length → x ≤ ns.getD j 0) → cnt ns x = k
  | [], x, k, hk, _, _ => by simp at hk; subst hk; rfl
  | a :: r, x, 0, _, _, h2 => by
    have h0 := h2 0 (Nat.le_refl _) (by simp)
    have : cnt r x = 0 := cnt_at r x 0 (Nat.zero_le _) (fun j hj => absurd hj (Nat.not_lt_zero _)) fun j _ hj => by have := h2 (j + 1) (Nat.zero_le _) (by simpa using hj); simpa using this
    unfold cnt at this ⊢
    rw [List.filter_cons, if_neg (by simp at h0 ⊢; omega)]; exact this
  | a :: r, x, k + 1, hk, h1, h2 => by
    have h0 := h1 0 (Nat.succ_pos _)
    have : cnt r x = k := cnt_at r x k (by simpa using hk) (fun j hj => by have := h1 (j + 1) (Nat.succ_lt_succ hj); simpa using this) fun j hj hl => by have := h2 (j + 1) (Nat.succ_le_succ hj) (by simpa using hl); simpa using this
    unfold cnt at this ⊢
    rw [List.filter_cons, if_pos (by simp at h0 ⊢; omega), List.length_cons, this]
theorem BisInv.start {ns : List Int} {x hi : Int} (h0 : 0 ≤ hi) (h : hi = ns.length) : BisInv ns x 0 hi := ⟨Int.le_refl _, h0, by omega, fun j hj => by omega, fun j hj hl => by omega⟩
theorem mid_is {lo hi : Int} (h0 : 0 ≤ lo) (h : lo < hi) : lo ≤ Int.fdiv (lo + hi) 2 ∧ Int.fdiv (lo + hi) 2 < hi := by
  have := Int.fdiv_eq_ediv_of_nonneg (lo + hi) (b := 2) (by decide)
  omega
theorem BisInv.mid {ns : List Int} {x lo hi : Int} (h : BisInv ns x lo hi) (hl : lo < hi) : 0 ≤ Int.fdiv (lo + hi) 2 ∧ Int.fdiv (lo + hi) 2 < ns.length := by
  have := mid_is h.p0 hl
  have := h.p0
  have := h.p2
  omega
theorem BisInv.done {ns : List Int} {x lo hi : Int} (h : BisInv ns x lo hi) (hn : ¬ lo < hi) : lo = cnt ns x := by
  have := h.p1
  have e : lo = hi := by omega
  subst e
  have := cnt_at ns x lo.toNat (by have := h.p2; omega) (fun j hj => h.p3 j (by omega)) fun j hj hl => h.p4 j (by omega) hl
  rw [this]; have := h.p0; omega
theorem sorted_get {ns : List Int} (hs : ns.Pairwise (· < ·)) {i j : Nat} (h : i < j) (hj : j < ns.length) : ns.getD i 0 < ns.getD j 0 := by
  have := List.pairwise_iff_getElem.mp hs i j (by omega) hj h
  simpa [List.getD, hj, show i < ns.length by omega] using this
theorem BisInv.low {ns : List Int} {x lo hi : Int} (hs : ns.Pairwise (· < ·)) (h : BisInv ns x lo hi) (hl : lo < hi) (hx : ns.getD (Int.fdiv (lo + hi) 2).toNat 0 < x) : BisInv ns x (Int.fdiv (lo + hi) 2 + 1) hi := by
  have hm := mid_is h.p0 hl
  have h2 := h.mid hl
  refine ⟨by omega, by omega, h.p2, fun j hj => ?_, h.p4⟩
  by_cases e : j = (Int.fdiv (lo + hi) 2).toNat
  · rw [e]; exact hx
  · have := sorted_get hs (i := j) (j := (Int.fdiv (lo + hi) 2).toNat) (by omega) (by omega)
    omega
theorem BisInv.high {ns : List Int} {x lo hi : Int} (hs : ns.Pairwise (· < ·)) (h : BisInv ns x lo hi) (hl : lo < hi) (hx : ¬ ns.getD (Int.fdiv (lo + hi) 2).toNat 0 < x) : BisInv ns x lo (Int.fdiv (lo + hi) 2) := by
  have hm := mid_is h.p0 hl
  have h2 := h.mid hl
  refine ⟨h.p0, by omega, by omega, h.p3, fun j hj hjl => ?_⟩
  by_cases e : j = (Int.fdiv (lo + hi) 2).toNat
  · rw [e]; omega
  · have := sorted_get hs (i := (Int.fdiv (lo + hi) 2).toNat) (j := j) (by omega) (by omega)
    omega
local macro_rules | `(tactic| walk_at "subscriptTail Name Name ref int") => `(tactic| (k_here; k_dflt (refine' my_item ?N ?m ?i ?f ?g ?z ?_; (case N => k_asm); (case m => k_mem); (case i => assumption); (case f => exact (BisInv.mid (by assumption) (by assumption)).1); (case g => exact (BisInv.mid (by assumption) (by assumption)).2); (case z => omega)); intro t'))
local macro_rules | `(tactic| walk_at "KswEnd") => `(tactic| (refine ksw_end ((_, _), (_, _)) (by assumption) (by assumption) (fun _ h => h) trivial (by kst_all) (by (intro z h2 h3; simp only [List.forall_mem_cons, List.not_mem_nil, false_implies, implies_true, and_true, ne_eq] at h2; simp only [List.contains_cons, List.contains_nil, Bool.or_false, beq_eq_false_iff_ne, ne_eq] at h3; simp [kstB, h2, h3])) (by (dsimp only; exact BisInv.low (by assumption) (by assumption) (by assumption) (by assumption))) (by (dsimp only; (have := mid_is (BisInv.p0 (by assumption)) (by assumption)); omega))))
local macro_rules | `(tactic| walk_at "KswEnd") => `(tactic| (refine ksw_end ((_, _), (_, _)) (by assumption) (by assumption) (fun _ h => h) trivial (by kst_all) (by (intro z h2 h3; simp only [List.forall_mem_cons, List.not_mem_nil, false_implies, implies_true, and_true, ne_eq] at h2; simp only [List.contains_cons, List.contains_nil, Bool.or_false, beq_eq_false_iff_ne, ne_eq] at h3; simp [kstB, h2, h3])) (by (dsimp only; exact BisInv.high (by assumption) (by assumption) (by assumption) (by assumption))) (by (dsimp only; (have := mid_is (BisInv.p0 (by assumption)) (by assumption)); omega))))
theorem BisInv.from {ns : List Int} {x lo hi : Int} (h0 : 0 ≤ lo) (h1 : lo ≤ hi) (h : hi = ns.length) (h3 : ∀ j : Nat, (j : Int) < lo → ns.getD j 0 < x) : BisInv ns x lo hi := ⟨h0, h1, by omega, h3, fun j hj hl => by omega⟩
theorem bis2 (w : World) (l : Addr) (its : Array Value) (n : Nat) (ns : List Int) (x : Int) (t : Tok) (news : List (Addr × Obj)) (hm : (l, listOf its n) ∈ news) (hi : IntsAre its.toList ns) (hlen : ns.length < 1000) (hs : ns.Pairwise (· < ·))
   : Does w 2 195 [.ref l, .int x t] news (fun r news' => news' = news ∧ ∃ (t' : Tok), r = .int (cnt ns x) t') := by
  have hsz : its.size = ns.length := hi.length
  k_with_none
  w_top off
  k_with "exec While Compare cons nil" => (
    k_here
    with_unfolding_all refine' ksw_while (σ := (Int × Tok) × (Int × Tok)) (fun _ => news) (fun c => [(Str.ofString "lo", .int c.1.1 c.1.2), (Str.ofString "hi", .int c.2.1 c.2.2)]) (fun _ => True) [Str.ofString "mid"] (fun c => BisInv ns x c.1.1 c.2.1) (fun c => (c.2.1 - c.1.1).toNat) ((_, _), (_, _)) ?F ?N trivial ?ps ?P ?turn
    (case F => k_asm)
    (case N => k_asm)
    (case ps => kst_all)
    (case P => (dsimp only; exact BisInv.start (by omega) (by omega)))
    (rintro ⟨⟨lo, tl⟩, ⟨hi', th⟩⟩ u h tk kFacts kInv kFr kNews; dsimp only at kInv; (try k_fold)))
  unfold Does
  k_fill
  intro dp un gd cn cs a ccd cl outer A₀ base h₀ L m mg mb mean s Q E B F X N T hk hd hu hret
  refine wpAny_call ?_
  k_dflt (refine' code_def ?k1 ?k2 ?k3 ?k4 ?k5 ?kA ?kF ?kK ?k6 ?k7 ?k8 ?k9 ?kB ?_ ?c2 ?c3 ?c4 ?c5; (case kA => exact rfl); (case kF => exact rfl); (case kK => assumption); (case k1 => k_asm); (case k2 => k_asm); (case k3 => k_asm); (case k4 => k_asm); (case k5 => k_asm); (case k6 => k_is); (case k7 => k_is); (case k8 => ktr_room); (case k9 => (refine' kp_binds ?kx ?ke; (case kx => k_in); (case ke => exact fun _ => rfl))); (case kB => exact locs rfl); (case c5 => decide); (case c2 => exact rfl); (case c3 => exact rfl); (case c4 => exact rfl); k_whole; intro g8e L8e h8e FG8e F8e N8e B8e X8e T8e; (try dsimp only); (try k_fold))
  k_steps
  · exact hret _ _ _ _ ⟨rfl, _, congrArg (Value.int · _) (BisInv.done (by assumption) (by assumption))⟩ (by assumption) (by assumption)
theorem bis3 (w : World) (l : Addr) (its : Array Value) (n : Nat) (ns : List Int) (x : Int) (t : Tok) (lo₀ : Int) (t₀ : Tok) (news : List (Addr × Obj)) (hm : (l, listOf its n) ∈ news) (hi : IntsAre its.toList ns) (hlen : ns.length < 1000) (hs : ns.Pairwise (· < ·)) (h0 : 0 ≤ lo₀) (h1 : lo₀ ≤ ns.length) (h3 : ∀ j : Nat, (j : Int) < lo₀ → ns.getD j 0 < x)
   : Does w 2 195 [.ref l, .int x t, .int lo₀ t₀] news (fun r news' => news' = news ∧ ∃ (t' : Tok), r = .int (cnt ns x) t') := by
  have hsz : its.size = ns.length := hi.length
  k_with_none
  w_top off
  k_with "exec While Compare cons nil" => (
    k_here
    with_unfolding_all refine' ksw_while (σ := (Int × Tok) × (Int × Tok)) (fun _ => news) (fun c => [(Str.ofString "lo", .int c.1.1 c.1.2), (Str.ofString "hi", .int c.2.1 c.2.2)]) (fun _ => True) [Str.ofString "mid"] (fun c => BisInv ns x c.1.1 c.2.1) (fun c => (c.2.1 - c.1.1).toNat) ((_, _), (_, _)) ?F ?N trivial ?ps ?P ?turn
    (case F => k_asm)
    (case N => k_asm)
    (case ps => kst_all)
    (case P => (dsimp only; exact BisInv.from (by omega) (by omega) (by omega) (by assumption)))
    (rintro ⟨⟨lo, tl⟩, ⟨hi', th⟩⟩ u h tk kFacts kInv kFr kNews; dsimp only at kInv; (try k_fold)))
  unfold Does
  k_fill
  intro dp un gd cn cs a ccd cl outer A₀ base h₀ L m mg mb mean s Q E B F X N T hk hd hu hret
  refine wpAny_call ?_
  k_dflt (refine' code_def ?k1 ?k2 ?k3 ?k4 ?k5 ?kA ?kF ?kK ?k6 ?k7 ?k8 ?k9 ?kB ?_ ?c2 ?c3 ?c4 ?c5; (case kA => exact rfl); (case kF => exact rfl); (case kK => assumption); (case k1 => k_asm); (case k2 => k_asm); (case k3 => k_asm); (case k4 => k_asm); (case k5 => k_asm); (case k6 => k_is); (case k7 => k_is); (case k8 => ktr_room); (case k9 => (refine' kp_binds ?kx ?ke; (case kx => k_in); (case ke => exact fun _ => rfl))); (case kB => exact locs rfl); (case c5 => decide); (case c2 => exact rfl); (case c3 => exact rfl); (case c4 => exact rfl); k_whole; intro g8e L8e h8e FG8e F8e N8e B8e X8e T8e; (try dsimp only); (try k_fold))
  k_steps
  · exact hret _ _ _ _ ⟨rfl, _, congrArg (Value.int · _) (BisInv.done (by assumption) (by assumption))⟩ (by assumption) (by assumption)
end
section
local macro_rules | `(tactic| walk_at "no such key") => `(tactic| fail)
structure TreeAt (w : World) (news : List (Addr × Obj)) (dc dp : Addr) (T : Str → Option (Str × Str)) (P : Str → Option (List Int)) : Prop where
  cuts : ∃ o kvs, (dc, o) ∈ news ∧ o.IsDictOf (PySem.strKind Challenge.rw_pm0054_01.row.prog w) kvs ∧ kvs.length ≤ 10 ∧ ∀ node l r, T node = some (l, r) → ∃ a n t1 t2, valueAt kvs node = some (.ref a) ∧ (a, listOf #[.str l t1, .str r t2] n) ∈ news
  places : ∃ o kvs, (dp, o) ∈ news ∧ o.IsDictOf (PySem.strKind Challenge.rw_pm0054_01.row.prog w) kvs ∧ kvs.length ≤ 10 ∧ ∀ part ps, P part = some ps → ∃ a its n, valueAt kvs part = some (.ref a) ∧ (a, listOf its n) ∈ news ∧ IntsAre its.toList ps ∧ ps.length < 1000 ∧ ps.Pairwise (· < ·)
theorem cnt_le (ns : List Int) (x : Int) : (cnt ns x : Int) ≤ ns.length := by
  have : cnt ns x ≤ ns.length := List.length_filter_le _ _
  omega
theorem cnt_low {ns : List Int} (hs : ns.Pairwise (· < ·)) {i j : Int} (h : i ≤ j) : ∀ m : Nat, (m : Int) < cnt ns i → ns.getD m 0 < j := by
  intro m hm
  by_cases hh : ns.getD m 0 < i
  · omega
  · exfalso
    have hl := cnt_le ns i
    have h1 : cnt ns i ≤ m := by
      clear h hl hm j
      induction ns generalizing m with
      | nil => simp [cnt]
      | cons a r ih =>
        have hp := List.pairwise_cons.mp hs
        cases m with
        | zero =>
          have : r.filter (fun a => decide (a < i)) = [] := List.filter_eq_nil_iff.mpr fun b hb => by have := hp.1 b hb; simp at hh ⊢; omega
          simp at hh
          simp [cnt, List.filter_cons, this, show ¬ a < i by omega]
        | succ m =>
          have := ih hp.2 m (by simpa using hh)
          unfold cnt at this ⊢
          rw [List.filter_cons]; split <;> simp <;> omega
    omega
local macro_rules | `(tactic| walk_at "call builtin:len") => `(tactic| (k_here; (with_reducible show wpAny _ _ (call (Value.builtin "len") [Value.str _ _]) _ _ _); k_dflt (refine' len_str ?z1 ?_; (case z1 => omega))))
local macro_rules | `(tactic| walk_at "subscriptTail Name Name ref str") => `(tactic| (k_here; k_dflt (refine' kda_item (knd := PySem.strKind _ _) ?z1 ?z2 ?z3 (strKind_is _ _ _ _) ?z4 ?_; (case z1 => k_asm); (case z4 => assumption); (case z2 => assumption); (case z3 => assumption))))
local macro_rules | `(tactic| walk_at "call ref") => `(tactic| (k_here; (with_reducible show wpAny _ _ (call (Value.ref 195) [_, _]) _ _ _); with_unfolding_all refine' Does.use ?z1 ?z2 ?z3 ?z4 ?z5 ?z6 (bis2 _ _ _ _ _ _ _ _ ?z7 ?z8 ?z9 ?z10) ?z11 ?z12 ?_; (case z1 => k_asm); (case z2 => k_asm); (case z3 => k_asm); (case z4 => k_asm); (case z5 => k_asm); (case z6 => first | exact rfl | assumption); (case z7 => assumption); (case z8 => assumption); (case z9 => assumption); (case z10 => assumption); (case z11 => ktr_room); (case z12 => ktr_units); (intro r9 news9 h9 tk9 hR9 F9 N9); (obtain ⟨e9, t9, f9⟩ := hR9); subst e9; subst f9; (try dsimp only); (try k_fold)))
local macro_rules | `(tactic| walk_at "call ref") => `(tactic| (k_here; (with_reducible show wpAny _ _ (call (Value.ref 195) [_, _, _]) _ _ _); with_unfolding_all refine' Does.use ?z1 ?z2 ?z3 ?z4 ?z5 ?z6 (bis3 _ _ _ _ _ _ _ _ _ _ ?z7 ?z8 ?z9 ?z10 ?z13 ?z14 ?z15) ?z11 ?z12 ?_; (case z1 => k_asm); (case z2 => k_asm); (case z3 => k_asm); (case z4 => k_asm); (case z5 => k_asm); (case z6 => first | exact rfl | assumption); (case z7 => assumption); (case z8 => assumption); (case z9 => assumption); (case z10 => assumption); (case z11 => ktr_room); (case z12 => ktr_units); (case z13 => exact Int.natCast_nonneg _); (case z14 => exact cnt_le _ _); (case z15 => exact cnt_low (by assumption) (by assumption)); (intro r9 news9 h9 tk9 hR9 F9 N9); (obtain ⟨e9, t9, f9⟩ := hR9); subst e9; subst f9; (try dsimp only); (try k_fold)))
theorem least (w : World) (dc dp : Addr) (Tr : Str → Option (Str × Str)) (P : Str → Option (List Int)) (W : Str → Int → Int → Int → Prop) (i j k : Int) (ti tj tk : Tok) (news : List (Addr × Obj)) (hT : TreeAt w news dc dp Tr P)
   (h0 : W (Str.ofString "abcd") i j k)
   (hW : ∀ node i j k, W node i j k → node.length < 1000 ∧ (1 < node.length → ∃ l r ps, Tr node = some (l, r) ∧ P l = some ps ∧ i ≤ j ∧ l.length < node.length ∧ r.length < node.length ∧
     (k < cnt ps j - cnt ps i → W l (cnt ps i) (cnt ps j) k) ∧ (¬ k < cnt ps j - cnt ps i → W r (i - cnt ps i) (j - cnt ps j) (k - (cnt ps j - cnt ps i)))))
   : Does w 4 228 [.ref dc, .ref dp, .int i ti, .int j tj, .int k tk] news (fun r news' => ∃ a n node t i' t1 j' t2 k', r = .ref a ∧ news' = (a, listOf #[.str node t, .int i' t1, .int j' t2] n) :: news ∧ (∀ p ∈ news, p.1 < a) ∧ W node i' j' k' ∧ ¬ 1 < node.length) := by
  k_with_none
  w_top off
  k_with "KswEnd" => (refine ksw_end ((_, _), (_, _), (_, _), (_, _)) (by assumption) (by assumption) (fun _ h => h) trivial (by kst_all) (by (intro z h2 h3; simp only [List.forall_mem_cons, List.not_mem_nil, false_implies, implies_true, and_true, ne_eq] at h2; simp only [List.contains_cons, List.contains_nil, Bool.or_false, Bool.or_eq_false_iff, beq_eq_false_iff_ne, ne_eq] at h3; simp [kstB, h2, h3])) (by (dsimp only; first | exact hk1 (by assumption) | exact hk2 (by assumption))) (by (dsimp only; omega)))
  k_with "exec While Compare cons nil" => refine Hold.of ?_
  unfold Does
  k_fill
  intro dp' un gd cn cs a ccd cl outer A₀ base h₀ L m mg mb mean s Q E B F X N T hk hd hu hret
  obtain ⟨oc, kc, hoc, hdc, hcl, hcT⟩ := hT.cuts
  obtain ⟨op, kp, hop, hdp, hpl, hpP⟩ := hT.places
  refine wpAny_call ?_
  k_dflt (refine' code_def ?k1 ?k2 ?k3 ?k4 ?k5 ?kA ?kF ?kK ?k6 ?k7 ?k8 ?k9 ?kB ?_ ?c2 ?c3 ?c4 ?c5; (case kA => exact rfl); (case kF => exact rfl); (case kK => assumption); (case k1 => k_asm); (case k2 => k_asm); (case k3 => k_asm); (case k4 => k_asm); (case k5 => k_asm); (case k6 => k_is); (case k7 => k_is); (case k8 => ktr_room); (case k9 => (refine' kp_binds ?kx ?ke; (case kx => k_in); (case ke => exact fun _ => rfl))); (case kB => exact locs rfl); (case c5 => decide); (case c2 => exact rfl); (case c3 => exact rfl); (case c4 => exact rfl); k_whole; intro g8e L8e h8e FG8e F8e N8e B8e X8e T8e; (try dsimp only); (try k_fold))
  k_steps
  unfold Hold
  k_here
  with_unfolding_all refine' ksw_while (σ := (Str × Tok) × (Int × Tok) × (Int × Tok) × (Int × Tok)) (fun _ => news) (fun c => [(Str.ofString "node", .str c.1.1 c.1.2), (Str.ofString "i", .int c.2.1.1 c.2.1.2), (Str.ofString "j", .int c.2.2.1.1 c.2.2.1.2), (Str.ofString "k", .int c.2.2.2.1 c.2.2.2.2)]) (fun _ => True) [Str.ofString "left", Str.ofString "right", Str.ofString "first", Str.ofString "last"] (fun c => W c.1.1 c.2.1.1 c.2.2.1.1 c.2.2.2.1) (fun c => c.1.1.length) ((_, _), (_, _), (_, _), (_, _)) ?F ?N trivial ?ps ?P ?turn
  (case F => k_asm)
  (case N => k_asm)
  (case ps => kst_all)
  (case P => (dsimp only; exact h0))
  (rintro ⟨⟨node, tn⟩, ⟨i', ti'⟩, ⟨j', tj'⟩, ⟨k', tk'⟩⟩ u h tk kFacts kInv kFr kNews; dsimp only at kInv; (try k_fold))
  obtain ⟨hnl, hW'⟩ := hW _ _ _ _ kInv
  by_cases hlen : 1 < node.length
  · obtain ⟨l, r, ps, hTn, hPl, hij, hl1, hr1, hk1, hk2⟩ := hW' hlen
    obtain ⟨ca, cn', t1, t2, hva, hma⟩ := hcT _ _ _ hTn
    obtain ⟨pa, its, pn, hvp, hmp, hip, hlp, hsp⟩ := hpP _ _ hPl
    k_steps
  · k_steps
    exact hret _ _ _ _ ⟨_, _, _, _, _, _, _, _, _, rfl, rfl, by assumption, kInv, hlen⟩ (by assumption) (by assumption)
end
section
def R1 (x y z : Str) : Str := Txt.join z (Txt.split x y)
noncomputable def sub1 (c : Nat) (z : List Nat) : List Nat → List Nat
  | [] => []
  | k :: r => (if k = c then z else [k]) ++ sub1 c z r
theorem sub1_append (c : Nat) (z : List Nat) : ∀ a b : List Nat, sub1 c z (a ++ b) = sub1 c z a ++ sub1 c z b
  | [], _ => rfl
  | k :: r, b => by show (if k = c then z else [k]) ++ sub1 c z (r ++ b) = _; rw [sub1_append c z r b, ← List.append_assoc]; rfl
theorem sub1_free (c : Nat) (z : List Nat) : ∀ l : List Nat, c ∉ l → sub1 c z l = l
  | [], _ => rfl
  | k :: r, h => by
    have h1 : ¬ k = c := fun e => h (e ▸ List.mem_cons_self ..)
    show (if k = c then z else [k]) ++ sub1 c z r = _
    rw [if_neg h1, sub1_free c z r fun m => h (List.mem_cons_of_mem _ m)]; rfl
theorem sub1_join (c : Nat) (z : Str) : ∀ parts : List Str, (∀ p ∈ parts, c ∉ p.cps.toList) → sub1 c z.cps.toList (Str.join ⟨#[c]⟩ parts).cps.toList = (Str.join z parts).cps.toList
  | [], _ => rfl
  | [p], h => sub1_free c _ _ (h p (List.mem_singleton.mpr rfl))
  | p :: q :: r, h => by
    have ih := sub1_join c z (q :: r) fun a ha => h a (List.mem_cons_of_mem _ ha)
    show sub1 c _ (p ++ ⟨#[c]⟩ ++ Str.join ⟨#[c]⟩ (q :: r)).cps.toList = (p ++ z ++ Str.join z (q :: r)).cps.toList
    simp only [Str.cps_append, Array.toList_append]
    rw [sub1_append, sub1_append, ih, sub1_free c _ _ (h p (List.mem_cons_self ..))]
    show p.cps.toList ++ sub1 c _ [c] ++ _ = _
    simp [sub1]
theorem R1_cps (x z : Str) (c : Nat) : (R1 x ⟨#[c]⟩ z).cps.toList = sub1 c z.cps.toList x.cps.toList := by
  show (Builtin.Str.glued z (Txt.split x ⟨#[c]⟩)).cps.toList = _
  rw [StrLaws.glued_eq_join, ← sub1_join c z _ (StrLaws.split_free x c), StrLaws.join_split]
theorem join_sum (y : Str) : ∀ p : List Str, 0 < p.length → (Str.join y p).length + y.length = (p.map (·.length)).sum + p.length * y.length
  | [], h => absurd h (Nat.lt_irrefl _)
  | [p], _ => by show p.length + _ = _; simp
  | p :: q :: r, _ => by
    have ih := join_sum y (q :: r) (Nat.succ_pos _)
    show (p ++ y ++ Str.join y (q :: r)).length + _ = _
    rw [Str.length_append, Str.length_append]
    simp only [List.map_cons, List.sum_cons, List.length_cons, Nat.add_mul] at ih ⊢
    omega
theorem split_ne (x y : Str) : 0 < (Txt.split x y).length := by
  cases h : Txt.split x y with
  | nil =>
    unfold Txt.split at h
    split at h
    · cases h
    · split at h
      · cases h
      · rw [StrLaws.partsBetween_eq] at h
        obtain ⟨p, r, e⟩ := StrLaws.partsFrom_ne x y.length 0 (Builtin.Str.occurrences x y 0 x.length (x.length + 1))
        rw [e] at h; cases h
  | cons _ _ => simp
theorem split_sum (x y : Str) (hy : y.length = 1) : ((Txt.split x y).map (·.length)).sum + (Txt.split x y).length = x.length + 1 := by
  have := join_sum y (Txt.split x y) (split_ne x y)
  rw [StrLaws.join_split, hy] at this
  omega
theorem R1_len (x y z : Str) (hy : y.length = 1) (hz : z.length ≤ 1) : (R1 x y z).length ≤ x.length := by
  have h1 := join_sum z (Txt.split x y) (split_ne x y)
  have h2 := split_sum x y hy
  have h0 := split_ne x y
  show (Builtin.Str.glued z (Txt.split x y)).length ≤ _
  rw [StrLaws.glued_eq_join]
  have : z.length = 0 ∨ z.length = 1 := by omega
  rcases this with e | e <;> rw [e] at h1 <;> omega
section
variable {prog : Program} {w : World} {A : Around} {E : Value → Shared → Prop} {s : Shared} {h₀ : Heap} {L : Addr} {m : Str → Option Value} {news : List (Addr × Obj)}
theorem my_join {x y z : Str} {t : Tok} {D : Addr} {l : List (Str × Tok)} {Q : Value → Shared → Prop} (N : News h₀ L s.heap news) (hm : (D, W.listOf (strValues l).toArray 0) ∈ news) (e : l.map (·.1) = Txt.split x y) (hv : StrsAre (strValues l) (l.map (·.1)))
    (hy : y.length = 1) (hz : z.length ≤ 1) (hx : x.length ≤ 10) (h : ∀ t' k, (R1 x y z).length ≤ 10 → Q (.str (R1 x y z) t') { s with toks := k }) : wpAny (model prog w) A (call (.builtin "str.join") [.str z t, .ref D]) Q E s := by
  have hl := N.isList hm
  rw [e] at hv
  refine join_list hl (by simpa using hv) ?_ fun t' k => h t' k (Nat.le_trans (R1_len x y z hy hz) hx)
  have h2 := split_sum x y hy
  have h3 : (Txt.split x y).length * z.length ≤ (Txt.split x y).length * 1 := Nat.mul_le_mul_left _ hz
  omega
theorem my_tup2 {value slice : PySem.Expr} {t : Addr} {v1 v2 : Value} {rest : List Value} {n : Nat} {u : Tok} {Q : Value → Shared → Prop}
    (F : Fr h₀ L s.heap m) (N : News h₀ L s.heap news) (hm : (t, ({ cls := .type "tuple", data := .seq (v1 :: v2 :: rest).toArray n } : Obj)) ∈ news) (hsz : (v1 :: v2 :: rest).length ≤ sizeLine)
    (h : ∀ D h', Fr h₀ L h' m → News h₀ L h' ((D, ({ cls := .type "tuple", data := .seq rest.toArray } : Obj)) :: news) → (∀ p ∈ news, p.1 < D) → Q (.ref D) { s with heap := h' })
    (hs : subscripted slice false (.ref t) (.ref s.heap.objs.size) = operate [.ref s.heap.objs.size, .ref t] (getItem (.ref t) (.ref s.heap.objs.size)) := by with_unfolding_all rfl)
    (hg : ∀ r, letTemporaryGo value (.ref t) r = pure () := by intro _; with_unfolding_all rfl) :
    wpAny (model prog w) A (subscriptTail value slice (.ref t) (.ref s.heap.objs.size)) Q E { s with heap := s.heap.push { cls := .type "slice", data := .fields #[.int (2 : Int) u, .none, .none] } } :=
  slice_tuple_from (a := 2) F N (News.isTup N hm) (by decide) (by simp) (fun h' F' N' => h _ h' F' (by simpa using N') fun p hp => Nat.lt_succ_of_lt (Heap.lt_size (N p hp).1)) hs hg (by simpa using hsz)
end
theorem beq_zero_of {n : Nat} (h : n = 1) : (n == 0) = false := by subst h; rfl
local macro_rules | `(tactic| walk_at "call builtin:str.split") => `(tactic| (k_here; k_dflt (refine' KSpl.split1 ?z1 ?z2 ?z3 ?_ ?z4; (case z1 => k_asm); (case z2 => k_asm); (case z3 => exact beq_zero_of (by assumption)); (case z4 => (rw [sizeLine_eq]; omega))); intro D' l' h' k' e' a' F' N' l1; (try k_lt l1)))
local macro_rules | `(tactic| walk_at "call builtin:str.join") => `(tactic| (k_here; k_dflt (refine' my_join ?z1 ?z2 ?z3 ?z4 ?z5 ?z6 ?z7 ?_; (case z1 => k_asm); (case z3 => assumption); (case z2 => k_mem); (case z4 => assumption); (case z5 => assumption); (case z6 => assumption); (case z7 => assumption)); intro t' k' hR'; (try dsimp only)))
local macro_rules | `(tactic| walk_at "subscriptTail Name Slice ref ref") => `(tactic| (k_here; k_dflt (refine' my_tup2 (s := ⟨_, _, _, _, _⟩) ?z1 ?z2 ?z3 ?z4 ?_; (case z1 => k_asm); (case z2 => k_asm); (case z3 => k_mem); (case z4 => exact Nat.le_of_ble_eq_true rfl)); intro D' h' F' N' l1; (try k_lt l1)))
theorem rep0 (w : World) (x : Str) (t : Tok) (news : List (Addr × Obj)) (hx : x.length ≤ 10)
   : Does w 4 202 [.str x t] news (fun r news' => news' = news ∧ ∃ t', r = .str x t') := by
  k_with_none
  w_top off
  k_with "exec While Name cons nil" => (k_dflt (refine whl_start 100 ?_))
  unfold Does
  k_fill
  intro dp' un gd cn cs a ccd cl outer A₀ base h₀ L m mg mb mean s Q E B F X N T hk hd hu hret
  refine wpAny_call ?_
  k_dflt (refine' kp_rest ?k1 ?k2 ?k3 ?k4 ?k5 ?kA ?kF ?kK ?k6 ?k7 ?k8 ?kV ?kP ?kG ?kB ?_ ?c2 ?c3 ?c4 ?c5; (case kA => exact rfl); (case kF => exact rfl); (case kK => assumption); (case k1 => k_asm); (case k2 => k_asm); (case k3 => k_asm); (case k4 => k_asm); (case k5 => k_asm); (case k6 => k_is); (case k7 => k_is); (case k8 => ktr_room); (case kV => kl_lit); (case kP => exact rfl); (case kG => exact fun _ => rfl); (case kB => exact fun _ => locs rfl); (case c5 => decide); (case c2 => exact rfl); (case c3 => exact rfl); (case c4 => exact rfl); k_whole; intro D8e g8e L8e h8e l18e FG8e F8e N8e B8e X8e T8e; (try k_lt l18e); (try dsimp only); (try k_fold))
  k_steps
  all_goals exact hret _ news _ _ ⟨rfl, _, rfl⟩ (by assumption) (cb_drop (by assumption) (fun p hp => by (repeat' (first | exact hp | refine List.Mem.tail _ ?_))))
theorem rep1 (w : World) (x : Str) (t : Tok) (a0 b0 : Str) (ta0 tb0 : Tok) (news : List (Addr × Obj)) (hx : x.length ≤ 10) (ha0 : a0.length = 1) (hb0 : b0.length ≤ 1)
   : Does w 4 202 [.str x t, .str a0 ta0, .str b0 tb0] news (fun r news' => news' = news ∧ ∃ t', r = .str (R1 x a0 b0) t') := by
  k_with_none
  w_top off
  k_with "exec While Name cons nil" => (k_dflt (refine whl_start 100 ?_))
  unfold Does
  k_fill
  intro dp' un gd cn cs a ccd cl outer A₀ base h₀ L m mg mb mean s Q E B F X N T hk hd hu hret
  refine wpAny_call ?_
  k_dflt (refine' kp_rest ?k1 ?k2 ?k3 ?k4 ?k5 ?kA ?kF ?kK ?k6 ?k7 ?k8 ?kV ?kP ?kG ?kB ?_ ?c2 ?c3 ?c4 ?c5; (case kA => exact rfl); (case kF => exact rfl); (case kK => assumption); (case k1 => k_asm); (case k2 => k_asm); (case k3 => k_asm); (case k4 => k_asm); (case k5 => k_asm); (case k6 => k_is); (case k7 => k_is); (case k8 => ktr_room); (case kV => kl_lit); (case kP => exact rfl); (case kG => exact fun _ => rfl); (case kB => exact fun _ => locs rfl); (case c5 => decide); (case c2 => exact rfl); (case c3 => exact rfl); (case c4 => exact rfl); k_whole; intro D8e g8e L8e h8e l18e FG8e F8e N8e B8e X8e T8e; (try k_lt l18e); (try dsimp only); (try k_fold))
  k_steps
  all_goals exact hret _ news _ _ ⟨rfl, _, rfl⟩ (by assumption) (cb_drop (by assumption) (fun p hp => by (repeat' (first | exact hp | refine List.Mem.tail _ ?_))))
theorem rep2 (w : World) (x : Str) (t : Tok) (a0 b0 : Str) (ta0 tb0 : Tok) (a1 b1 : Str) (ta1 tb1 : Tok) (news : List (Addr × Obj)) (hx : x.length ≤ 10) (ha0 : a0.length = 1) (hb0 : b0.length ≤ 1) (ha1 : a1.length = 1) (hb1 : b1.length ≤ 1)
   : Does w 4 202 [.str x t, .str a0 ta0, .str b0 tb0, .str a1 ta1, .str b1 tb1] news (fun r news' => news' = news ∧ ∃ t', r = .str (R1 (R1 x a0 b0) a1 b1) t') := by
  k_with_none
  w_top off
  k_with "exec While Name cons nil" => (k_dflt (refine whl_start 100 ?_))
  unfold Does
  k_fill
  intro dp' un gd cn cs a ccd cl outer A₀ base h₀ L m mg mb mean s Q E B F X N T hk hd hu hret
  refine wpAny_call ?_
  k_dflt (refine' kp_rest ?k1 ?k2 ?k3 ?k4 ?k5 ?kA ?kF ?kK ?k6 ?k7 ?k8 ?kV ?kP ?kG ?kB ?_ ?c2 ?c3 ?c4 ?c5; (case kA => exact rfl); (case kF => exact rfl); (case kK => assumption); (case k1 => k_asm); (case k2 => k_asm); (case k3 => k_asm); (case k4 => k_asm); (case k5 => k_asm); (case k6 => k_is); (case k7 => k_is); (case k8 => ktr_room); (case kV => kl_lit); (case kP => exact rfl); (case kG => exact fun _ => rfl); (case kB => exact fun _ => locs rfl); (case c5 => decide); (case c2 => exact rfl); (case c3 => exact rfl); (case c4 => exact rfl); k_whole; intro D8e g8e L8e h8e l18e FG8e F8e N8e B8e X8e T8e; (try k_lt l18e); (try dsimp only); (try k_fold))
  k_steps
  all_goals exact hret _ news _ _ ⟨rfl, _, rfl⟩ (by assumption) (cb_drop (by assumption) (fun p hp => by (repeat' (first | exact hp | refine List.Mem.tail _ ?_))))
theorem rep3 (w : World) (x : Str) (t : Tok) (a0 b0 : Str) (ta0 tb0 : Tok) (a1 b1 : Str) (ta1 tb1 : Tok) (a2 b2 : Str) (ta2 tb2 : Tok) (news : List (Addr × Obj)) (hx : x.length ≤ 10) (ha0 : a0.length = 1) (hb0 : b0.length ≤ 1) (ha1 : a1.length = 1) (hb1 : b1.length ≤ 1) (ha2 : a2.length = 1) (hb2 : b2.length ≤ 1)
   : Does w 4 202 [.str x t, .str a0 ta0, .str b0 tb0, .str a1 ta1, .str b1 tb1, .str a2 ta2, .str b2 tb2] news (fun r news' => news' = news ∧ ∃ t', r = .str (R1 (R1 (R1 x a0 b0) a1 b1) a2 b2) t') := by
  k_with_none
  w_top off
  k_with "exec While Name cons nil" => (k_dflt (refine whl_start 100 ?_))
  unfold Does
  k_fill
  intro dp' un gd cn cs a ccd cl outer A₀ base h₀ L m mg mb mean s Q E B F X N T hk hd hu hret
  refine wpAny_call ?_
  k_dflt (refine' kp_rest ?k1 ?k2 ?k3 ?k4 ?k5 ?kA ?kF ?kK ?k6 ?k7 ?k8 ?kV ?kP ?kG ?kB ?_ ?c2 ?c3 ?c4 ?c5; (case kA => exact rfl); (case kF => exact rfl); (case kK => assumption); (case k1 => k_asm); (case k2 => k_asm); (case k3 => k_asm); (case k4 => k_asm); (case k5 => k_asm); (case k6 => k_is); (case k7 => k_is); (case k8 => ktr_room); (case kV => kl_lit); (case kP => exact rfl); (case kG => exact fun _ => rfl); (case kB => exact fun _ => locs rfl); (case c5 => decide); (case c2 => exact rfl); (case c3 => exact rfl); (case c4 => exact rfl); k_whole; intro D8e g8e L8e h8e l18e FG8e F8e N8e B8e X8e T8e; (try k_lt l18e); (try dsimp only); (try k_fold))
  k_steps
  all_goals exact hret _ news _ _ ⟨rfl, _, rfl⟩ (by assumption) (cb_drop (by assumption) (fun p hp => by (repeat' (first | exact hp | refine List.Mem.tail _ ?_))))
theorem rep4 (w : World) (x : Str) (t : Tok) (a0 b0 : Str) (ta0 tb0 : Tok) (a1 b1 : Str) (ta1 tb1 : Tok) (a2 b2 : Str) (ta2 tb2 : Tok) (a3 b3 : Str) (ta3 tb3 : Tok) (news : List (Addr × Obj)) (hx : x.length ≤ 10) (ha0 : a0.length = 1) (hb0 : b0.length ≤ 1) (ha1 : a1.length = 1) (hb1 : b1.length ≤ 1) (ha2 : a2.length = 1) (hb2 : b2.length ≤ 1) (ha3 : a3.length = 1) (hb3 : b3.length ≤ 1)
   : Does w 4 202 [.str x t, .str a0 ta0, .str b0 tb0, .str a1 ta1, .str b1 tb1, .str a2 ta2, .str b2 tb2, .str a3 ta3, .str b3 tb3] news (fun r news' => news' = news ∧ ∃ t', r = .str (R1 (R1 (R1 (R1 x a0 b0) a1 b1) a2 b2) a3 b3) t') := by
  k_with_none
  w_top off
  k_with "exec While Name cons nil" => (k_dflt (refine whl_start 100 ?_))
  unfold Does
  k_fill
  intro dp' un gd cn cs a ccd cl outer A₀ base h₀ L m mg mb mean s Q E B F X N T hk hd hu hret
  refine wpAny_call ?_
  k_dflt (refine' kp_rest ?k1 ?k2 ?k3 ?k4 ?k5 ?kA ?kF ?kK ?k6 ?k7 ?k8 ?kV ?kP ?kG ?kB ?_ ?c2 ?c3 ?c4 ?c5; (case kA => exact rfl); (case kF => exact rfl); (case kK => assumption); (case k1 => k_asm); (case k2 => k_asm); (case k3 => k_asm); (case k4 => k_asm); (case k5 => k_asm); (case k6 => k_is); (case k7 => k_is); (case k8 => ktr_room); (case kV => kl_lit); (case kP => exact rfl); (case kG => exact fun _ => rfl); (case kB => exact fun _ => locs rfl); (case c5 => decide); (case c2 => exact rfl); (case c3 => exact rfl); (case c4 => exact rfl); k_whole; intro D8e g8e L8e h8e l18e FG8e F8e N8e B8e X8e T8e; (try k_lt l18e); (try dsimp only); (try k_fold))
  k_steps
  all_goals exact hret _ news _ _ ⟨rfl, _, rfl⟩ (by assumption) (cb_drop (by assumption) (fun p hp => by (repeat' (first | exact hp | refine List.Mem.tail _ ?_))))
end
section
local macro_rules | `(tactic| walk_at "no such key") => `(tactic| fail)
def NoCtl (p : Addr) (x : Str) : Prop := ∀ (S : Setting) (P : Params) (t : Tok), peek (Mine.hd.heap_39 P) S (Builtin.«re.Pattern.search» ⟨[.ref p, .str x t], []⟩) = some (.done (.ret .none))
theorem slot_search : Slot "re.Pattern" "search" "re.Pattern.search" :=
  .of (owner := "re.Pattern") (n := "search") (by rw [typeLookup_type, builtinLookup_eq_fast]; kernel_rfl) (by decide +kernel) (by decide +kernel) (by decide +kernel)
    (by first | exact .inl (by decide +kernel) | exact .inr (by decide +kernel)) (by rw [isSubtype_type]; kernel_rfl)
theorem entry_search : entryFor table "re.Pattern.search" = some Builtin.«re.Pattern.search» := entryFor_of_tree (by kernel_rfl)
theorem args_search (a b : Value) : argsOk "re.Pattern.search" ⟨[a, b], []⟩ := by
  unfold argsOk; kernel_rfl
section
variable {prog : Program} {w : World} {A : Around} {E : Value → Shared → Prop} {s : Shared} {h₀ : Heap} {L : Addr} {m : Str → Option Value}
theorem peek_here {α : Type} {K : Frag} {t : Sem α} {r : α} {Q : α → Shared → Prop} (F : Fr h₀ L s.heap m) (X : K.In h₀) (e : peek K ⟨prog, w.params⟩ t = some r) (h : Q r s) : wpAny (model prog w) A t Q E s :=
  (Looks.of_peek (M := model prog w) (X.keeps F.keep) e).here h
theorem my_search {p : Addr} {x : Str} {t : Tok} {o : Obj} {Q : Value → Shared → Prop} (F : Fr h₀ L s.heap m) (X : (Mine.hd.heap_39 w.params).In h₀) (hp : (Mine.hd.heap_39 w.params).lookup p = some o) (hc : o.cls = .type "re.Pattern") (hx : NoCtl p x) (h : Q .none s) :
    wpAny (model prog w) A (call (.builtin "re.Pattern.search") [.ref p, .str x t]) Q E s :=
  wpAny_call_entry slot_search ⟨_, F.keep _ _ (X _ _ hp), hc⟩ entry_search ((Looks.of_peek (M := model prog w) (X.keeps F.keep) (hx ⟨prog, w.params⟩ w.params t)).here ⟨_, rfl, h⟩) (args_search _ _)
end
local macro_rules | `(tactic| walk_at "call builtin:re.Pattern.search") => `(tactic| (k_here; k_dflt (refine' my_search ?z1 ?z2 ?z3 ?z4 ?z5 ?_; (case z1 => k_asm); (case z2 => k_asm); (case z3 => k_is); (case z4 => rfl); (case z5 => assumption))))
local macro_rules | `(tactic| walk_at "getMethod ref") => `(tactic| (k_here; (with_reducible show wpAny _ _ (getMethod (Value.ref 48) _ _) _ _ _); k_dflt (refine' peek_here (r := (Value.builtin "re.Pattern.search", [Value.ref 48])) ?z1 ?z2 ?z3 ?_; (case z1 => k_asm); (case z2 => k_asm); (case z3 => kernel_rfl)); (try dsimp only)))
local macro_rules | `(tactic| walk_at "getMethod ref") => `(tactic| (k_here; (with_reducible show wpAny _ _ (getMethod (Value.ref 53) _ _) _ _ _); k_dflt (refine' peek_here (r := (Value.builtin "re.Pattern.search", [Value.ref 53])) ?z1 ?z2 ?z3 ?_; (case z1 => k_asm); (case z2 => k_asm); (case z3 => kernel_rfl)); (try dsimp only)))
theorem convT (w : World) (self : Value) (x : Str) (t : Tok) (news : List (Addr × Obj)) (h1 : NoCtl 48 x)
   : DoesK w 2 83 [self, .str x t] [(Str.ofString "name", .bool true)] news (fun r news' => news' = news ∧ r = .str x t) := by
  k_with_none
  w_top off
  unfold DoesK
  k_fill
  intro dp' un gd cn cs a ccd cl outer A₀ base h₀ L m mg mb mean s Q E B F X N T hk hd hu hret
  refine wpAny_call ?_
  k_dflt (refine' code_def ?k1 ?k2 ?k3 ?k4 ?k5 ?kA ?kF ?kK ?k6 ?k7 ?k8 ?k9 ?kB ?_ ?c2 ?c3 ?c4 ?c5; (case kA => exact rfl); (case kF => exact rfl); (case kK => assumption); (case k1 => k_asm); (case k2 => k_asm); (case k3 => k_asm); (case k4 => k_asm); (case k5 => k_asm); (case k6 => k_is); (case k7 => k_is); (case k8 => ktr_room); (case k9 => (refine' kp_binds ?kx ?ke; (case kx => k_in); (case ke => exact fun _ => rfl))); (case kB => exact locs rfl); (case c5 => decide); (case c2 => exact rfl); (case c3 => exact rfl); (case c4 => exact rfl); k_whole; intro g8e L8e h8e FG8e F8e N8e B8e X8e T8e; (try dsimp only); (try k_fold))
  k_steps
  all_goals exact hret _ news _ _ ⟨rfl, rfl⟩ (by assumption) (cb_drop (by assumption) (fun p hp => by (repeat' (first | exact hp | refine List.Mem.tail _ ?_))))
theorem convF (w : World) (self : Value) (x : Str) (t : Tok) (news : List (Addr × Obj)) (h1 : NoCtl 53 x)
   : DoesK w 2 83 [self, .str x t] [(Str.ofString "name", .bool false)] news (fun r news' => news' = news ∧ r = .str x t) := by
  k_with_none
  w_top off
  unfold DoesK
  k_fill
  intro dp' un gd cn cs a ccd cl outer A₀ base h₀ L m mg mb mean s Q E B F X N T hk hd hu hret
  refine wpAny_call ?_
  k_dflt (refine' code_def ?k1 ?k2 ?k3 ?k4 ?k5 ?kA ?kF ?kK ?k6 ?k7 ?k8 ?k9 ?kB ?_ ?c2 ?c3 ?c4 ?c5; (case kA => exact rfl); (case kF => exact rfl); (case kK => assumption); (case k1 => k_asm); (case k2 => k_asm); (case k3 => k_asm); (case k4 => k_asm); (case k5 => k_asm); (case k6 => k_is); (case k7 => k_is); (case k8 => ktr_room); (case k9 => (refine' kp_binds ?kx ?ke; (case kx => k_in); (case ke => exact fun _ => rfl))); (case kB => exact locs rfl); (case c5 => decide); (case c2 => exact rfl); (case c3 => exact rfl); (case c4 => exact rfl); k_whole; intro g8e L8e h8e FG8e F8e N8e B8e X8e T8e; (try dsimp only); (try k_fold))
  k_steps
  all_goals exact hret _ news _ _ ⟨rfl, rfl⟩ (by assumption) (cb_drop (by assumption) (fun p hp => by (repeat' (first | exact hp | refine List.Mem.tail _ ?_))))
end
section
section
variable {prog : Program} {w : World} {A : Around} {h₀ : Heap} {L : Addr} {m : Str → Option Value} {env : Env} {ct elt : PySem.Expr} {x : Str} {scope : Scope} {cl : List (Str × Addr)} {s : Shared} {S : List (Addr × Obj) → Prop} {P : Nat → Value → Prop} {Fin : List Value → List (Addr × Obj) → Prop} {news : List (Addr × Obj)} {n : Nat}
theorem end_mono {s₁ : Shared} {I C D : Addr} {oI oC oD : Obj} {r r' : Value → List (Addr × Obj) → Prop} {y : Value} {s₂ : Shared} (h : LCg.CompEnd h₀ L m s₁ I oI C oC D oD S r y s₂) (hr : ∀ nw, r y nw → r' y nw) : LCg.CompEnd h₀ L m s₁ I oI C oC D oD S r' y s₂ := by
  obtain ⟨h', tk, nw, e, F', N', off, hS, q⟩ := h
  exact ⟨h', tk, nw, e, F', N', off, hS, hr nw q⟩
/-- a comprehension by what holds between its turns -/
theorem comp_inv (J : Nat → List Value → List (Addr × Obj) → Prop) (start : J 0 [] news)
    (turn : ∀ i v I oI C oC D m₂ ys nw h tk (E' : Value → Shared → Prop), i < n → P i v → J i ys nw → LCg.NsObj oC m₂ → m₂ x = some v → Fr h₀ L h m → News h₀ L h ((I, oI) :: (C, oC) :: (D, LCg.lst ys) :: nw) → LCg.Off3 I C D nw → ((@Ne Nat I C) ∧ (@Ne Nat I D) ∧ (@Ne Nat C D)) →
      wpAny (model prog w) A (eval elt (compEnvC scope cl C env)) (LCg.CompEnd h₀ L m { s with heap := h, toks := tk } I oI C oC D (LCg.lst ys) S (fun y nw' => J (i + 1) (ys ++ [y]) nw')) E' { s with heap := h, toks := tk })
    (fin : ∀ ys nw, J n ys nw → Fin ys nw) : LCg.CompRest prog w A h₀ L m env elt x scope cl s S P Fin n 0 [] news := by
  have key : ∀ (j i : Nat) (ys : List Value) (nw : List (Addr × Obj)), i + j = n → J i ys nw → LCg.CompRest prog w A h₀ L m env elt x scope cl s S P Fin j i ys nw := by
    intro j
    induction j with
    | zero =>
      intro i ys nw hi hJ
      obtain rfl : i = n := (by omega)
      exact LCg.CompRest.zero (fin ys nw hJ)
    | succ j ih =>
      intro i ys nw hi hJ
      refine LCg.CompRest.succ ?_
      intro v I oI C oC D m₂ h tk E' hv hC hx F N off ne
      exact wpAny_mono (turn i v I oI C oC D m₂ ys nw h tk E' (by omega) hv hJ hC hx F N off ne) (fun y s₂ hq => end_mono hq fun nw' hj => ih (i + 1) _ nw' (by omega) hj) fun _ _ e => e
  exact key n 0 [] news (by omega) start
theorem compT_inv (J : Nat → List Value → List (Addr × Obj) → Prop) (start : J 0 [] news)
    (turn : ∀ i v I oI C oC D m₂ ys nw h tk (E' : Value → Shared → Prop), i < n → P i v → J i ys nw → LCg.NsObj oC m₂ → m₂ x = some v → Fr h₀ L h m → News h₀ L h ((I, oI) :: (C, oC) :: (D, LCg.lst ys) :: nw) → LCg.Off3 I C D nw → ((@Ne Nat I C) ∧ (@Ne Nat I D) ∧ (@Ne Nat C D)) →
      wpAny (model prog w) A (isTrue ct (compEnvC scope cl C env) (eval ct (compEnvC scope cl C env))) (fun ok s' => if ok = true then
        wpAny (model prog w) A (eval elt (compEnvC scope cl C env)) (LCg.CompEnd h₀ L m { s with heap := h, toks := tk } I oI C oC D (LCg.lst ys) S (fun y nw' => J (i + 1) (ys ++ [y]) nw')) E' s'
        else LCg.CompEnd h₀ L m { s with heap := h, toks := tk } I oI C oC D (LCg.lst ys) S (fun _ nw' => J (i + 1) ys nw') Value.none s') E' { s with heap := h, toks := tk })
    (fin : ∀ ys nw, J n ys nw → Fin ys nw) : LCt.CompRestT prog w A h₀ L m env ct elt x scope cl s S P Fin n 0 [] news := by
  have key : ∀ (j i : Nat) (ys : List Value) (nw : List (Addr × Obj)), i + j = n → J i ys nw → LCt.CompRestT prog w A h₀ L m env ct elt x scope cl s S P Fin j i ys nw := by
    intro j
    induction j with
    | zero =>
      intro i ys nw hi hJ
      obtain rfl : i = n := (by omega)
      exact LCt.CompRestT.zero (fin ys nw hJ)
    | succ j ih =>
      intro i ys nw hi hJ
      refine LCt.CompRestT.succ ?_
      intro v I oI C oC D m₂ h tk E' hv hC hx F N off ne
      refine wpAny_mono (turn i v I oI C oC D m₂ ys nw h tk E' (by omega) hv hJ hC hx F N off ne) (fun ok s₂ hq => ?_) fun _ _ e => e
      cases ok with
      | true =>
        rw [if_pos rfl] at hq ⊢
        exact wpAny_mono hq (fun y s₃ hq' => end_mono hq' fun nw' hj => ih (i + 1) _ nw' (by omega) hj) fun _ _ e => e
      | false =>
        rw [if_neg (by simp)] at hq ⊢
        exact end_mono hq fun nw' hj => ih (i + 1) _ nw' (by omega) hj
  exact key n 0 [] news (by omega) start
theorem comp_const (J : Nat → List Value → Prop) (start : J 0 [])
    (turn : ∀ i v I oI C oC D m₂ ys h tk (E' : Value → Shared → Prop), i < n → P i v → J i ys → LCg.NsObj oC m₂ → m₂ x = some v → Fr h₀ L h m → News h₀ L h ((I, oI) :: (C, oC) :: (D, LCg.lst ys) :: news) → LCg.Off3 I C D news → ((@Ne Nat I C) ∧ (@Ne Nat I D) ∧ (@Ne Nat C D)) →
      wpAny (model prog w) A (eval elt (compEnvC scope cl C env)) (LCg.CompEnd h₀ L m { s with heap := h, toks := tk } I oI C oC D (LCg.lst ys) S (fun y nw' => nw' = news ∧ J (i + 1) (ys ++ [y]))) E' { s with heap := h, toks := tk })
    (fin : ∀ ys, J n ys → Fin ys news) : LCg.CompRest prog w A h₀ L m env elt x scope cl s S P Fin n 0 [] news :=
  comp_inv (fun i ys nw => nw = news ∧ J i ys) ⟨rfl, start⟩ (fun i v I oI C oC D m₂ ys nw h tk E' hi hv hJ hC hx F N off ne => by
    obtain ⟨rfl, hJ⟩ := hJ
    exact turn i v I oI C oC D m₂ ys h tk E' hi hv hJ hC hx F N off ne) fun ys nw hJ => by
    obtain ⟨rfl, hJ⟩ := hJ
    exact fin ys hJ
theorem compT_const (J : Nat → List Value → Prop) (start : J 0 [])
    (turn : ∀ i v I oI C oC D m₂ ys h tk (E' : Value → Shared → Prop), i < n → P i v → J i ys → LCg.NsObj oC m₂ → m₂ x = some v → Fr h₀ L h m → News h₀ L h ((I, oI) :: (C, oC) :: (D, LCg.lst ys) :: news) → LCg.Off3 I C D news → ((@Ne Nat I C) ∧ (@Ne Nat I D) ∧ (@Ne Nat C D)) →
      wpAny (model prog w) A (isTrue ct (compEnvC scope cl C env) (eval ct (compEnvC scope cl C env))) (fun ok s' => if ok = true then
        wpAny (model prog w) A (eval elt (compEnvC scope cl C env)) (LCg.CompEnd h₀ L m { s with heap := h, toks := tk } I oI C oC D (LCg.lst ys) S (fun y nw' => nw' = news ∧ J (i + 1) (ys ++ [y]))) E' s'
        else LCg.CompEnd h₀ L m { s with heap := h, toks := tk } I oI C oC D (LCg.lst ys) S (fun _ nw' => nw' = news ∧ J (i + 1) ys) Value.none s') E' { s with heap := h, toks := tk })
    (fin : ∀ ys, J n ys → Fin ys news) : LCt.CompRestT prog w A h₀ L m env ct elt x scope cl s S P Fin n 0 [] news :=
  compT_inv (fun i ys nw => nw = news ∧ J i ys) ⟨rfl, start⟩ (fun i v I oI C oC D m₂ ys nw h tk E' hi hv hJ hC hx F N off ne => by
    obtain ⟨rfl, hJ⟩ := hJ
    exact turn i v I oI C oC D m₂ ys h tk E' hi hv hJ hC hx F N off ne) fun ys nw hJ => by
    obtain ⟨rfl, hJ⟩ := hJ
    exact fin ys hJ
end
end
section
local macro_rules | `(tactic| k_all) => `(tactic| assumption)
local macro_rules | `(tactic| k_mem) => `(tactic| assumption)
local macro_rules | `(tactic| walk_at "call ref") => `(tactic| (k_here; (with_reducible show wpAny _ _ (call (Value.ref 83) [_, _] _) _ _ _); with_unfolding_all refine' DoesK.use ?z1 ?z2 ?z3 ?z4 ?z5 ?z6 (convT _ _ _ _ _ ?z7) ?z11 ?z12 ?_; (case z1 => k_asm); (case z2 => k_asm); (case z3 => k_asm); (case z4 => k_asm); (case z5 => k_asm); (case z6 => first | exact rfl | assumption); (case z7 => assumption); (case z11 => ktr_room); (case z12 => ktr_units); (intro r9 news9 h9 tk9 hR9 F9 N9); (obtain ⟨e9, f9⟩ := hR9); subst e9; subst f9; (try dsimp only); (try k_fold)))
local macro_rules | `(tactic| walk_at "call ref") => `(tactic| (k_here; (with_reducible show wpAny _ _ (call (Value.ref 83) [_, _] _) _ _ _); with_unfolding_all refine' DoesK.use ?z1 ?z2 ?z3 ?z4 ?z5 ?z6 (convF _ _ _ _ _ ?z7) ?z11 ?z12 ?_; (case z1 => k_asm); (case z2 => k_asm); (case z3 => k_asm); (case z4 => k_asm); (case z5 => k_asm); (case z6 => first | exact rfl | assumption); (case z7 => assumption); (case z11 => ktr_room); (case z12 => ktr_units); (intro r9 news9 h9 tk9 hR9 F9 N9); (obtain ⟨e9, f9⟩ := hR9); subst e9; subst f9; (try dsimp only); (try k_fold)))
theorem small_ok {n : Nat} (h : n < 1000) : n ≤ sizeLine := by rw [sizeLine_eq]; omega
section
variable {prog : Program} {w : World} {A : Around} {E : Value → Shared → Prop} {s : Shared} {h₀ : Heap} {L : Addr} {m : Str → Option Value} {news : List (Addr × Obj)}
theorem append_F {D : Addr} {its : Array Value} {n : Nat} {x : Value} {Q : Value → Shared → Prop} (F : Fr h₀ L s.heap m) (N : News h₀ L s.heap news) (hm : (D, W.listOf its n) ∈ news) (hsz : its.size < 1000)
    (h : ∀ h', Fr h₀ L h' m → News h₀ L h' ((D, W.listOf (its.push x) (n + 1)) :: news.filter (fun p => p.1 ≠ D)) → Q .none { s with heap := h' }) : wpAny (model prog w) A (call (.builtin "list.append") [.ref D, x]) Q E s := by
  have N2 : News h₀ L s.heap ((D, W.listOf its n) :: news.filter (fun p => p.1 ≠ D)) := cb_drop N fun p hp => by
    rcases List.mem_cons.mp hp with rfl | hp
    · exact hm
    · exact (List.mem_filter.mp hp).1
  exact append_K F N2 (Upd.head fun p hp => by simpa using (List.mem_filter.mp hp).2) h (small_ok hsz)
end
theorem join_single (x v : Str) : Txt.join x [v] = v := by
  show Builtin.Str.glued x [v] = v
  rw [StrLaws.glued_eq_join]; rfl
theorem add_end {h₀ h' : Heap} {L tp hl : Addr} {its : Array Value} {c n : Nat} {name v x : Str} {t1 t2 : Tok} {rest news₁ : List (Addr × Obj)}
    (N : News h₀ L h' ((hl, W.listOf (its.push (.ref tp)) c) :: List.filter (fun p => decide (p.1 ≠ hl)) ((tp, ({ cls := .type "tuple", data := .seq #[.str name t1, .str (Txt.join x [v]) t2] n } : Obj)) :: rest)))
    (hlt : hl < tp) (hA : AllLt tp news₁) (hne : ∀ p ∈ news₁, p.1 ≠ hl) (hs : ∀ p ∈ news₁, p ∈ rest) :
    ∃ news', (∃ tp t1 t2 n c', news' = (tp, ({ cls := .type "tuple", data := .seq #[.str name t1, .str v t2] n } : Obj)) :: (hl, W.listOf (its.push (.ref tp)) c') :: news₁ ∧ (∀ p ∈ news₁, p.1 < tp) ∧ hl < tp) ∧ News h₀ L h' news' := by
  rw [join_single] at N
  refine ⟨_, ⟨tp, t1, t2, n, c, rfl, tb_ltOf hA, hlt⟩, cb_drop N fun p hp => ?_⟩
  rcases List.mem_cons.mp hp with rfl | hp
  · exact List.mem_cons_of_mem _ (List.mem_filter.mpr ⟨List.Mem.head _, decide_eq_true (Nat.ne_of_gt hlt)⟩)
  · rcases List.mem_cons.mp hp with rfl | hp
    · exact List.Mem.head _
    · exact List.mem_cons_of_mem _ (List.mem_filter.mpr ⟨List.mem_cons_of_mem _ (hs p hp), by simpa using hne p hp⟩)
theorem addh (w : World) (x dx hl : Addr) (its : Array Value) (c nd : Nat) (hsh : Int) (tk0 : Tok) (name v : Str) (tn tv : Tok) (news₁ : List (Addr × Obj)) (hx : (x, instObj 182 dx) ∈ news₁) (hdx : (dx, dictOf [⟨hsh, .str (Str.ofString "_headers") tk0, .ref hl⟩] nd) ∈ news₁)
   (hne : ∀ p ∈ news₁, p.1 ≠ hl) (hsz : its.size < 1000) (h1 : NoCtl 48 name) (h2 : NoCtl 53 v) (hv : v.length ≤ 100)
   : Does w 6 179 [.ref x, .str name tn, .str v tv] ((hl, listOf its c) :: news₁) (fun r news' => r = .none ∧ ∃ tp t1 t2 n c', news' = (tp, ({ cls := .type "tuple", data := .seq #[.str name t1, .str v t2] n } : Obj)) :: (hl, listOf (its.push (.ref tp)) c') :: news₁ ∧ (∀ p ∈ news₁, p.1 < tp) ∧ hl < tp) := by
  k_with_none
  w_top off
  k_with "call builtin:list.append" => (k_dflt (refine' append_F ?z1 ?z2 ?z3 ?z4 ?_; (case z1 => k_asm); (case z2 => k_asm); (case z3 => k_mem); (case z4 => assumption)); intro h' F' N')
  unfold Does
  k_fill
  intro dp' un gd cn cs a ccd cl outer A₀ base h₀ L m mg mb mean s Q E B F X N T hk hd hu hret
  refine wpAny_call ?_
  k_dflt (refine' kp_more ?k1 ?k2 ?k3 ?k4 ?k5 ?kA ?kF ?kK ?k6 ?k7 ?k8 ?kX ?kM ?kN ?kD ?kR ?kP ?kT ?kB ?_ ?c2 ?c3 ?c4 ?c5; (case kA => exact rfl); (case kF => exact rfl); (case kK => assumption); (case k1 => k_asm); (case k2 => k_asm); (case k3 => k_asm); (case k4 => k_asm); (case k5 => k_asm); (case k6 => k_is); (case k7 => k_is); (case k8 => ktr_room); (case kX => kp_lit); (case kM => exact rfl); (case kN => exact rfl); (case kD => kp_flats); (case kR => exact rfl); (case kP => exact rfl); (case kT => exact fun _ => rfl); (case kB => exact fun _ => locs rfl); (case c5 => decide); (case c2 => exact rfl); (case c3 => exact rfl); (case c4 => exact rfl); k_whole; intro D8e o8e g8e L8e h8e tk8e l18e lo8e hs8e fs8e FG8e F8e N8e B8e X8e T8e; (try k_lt l18e); (try dsimp only); (try k_fold))
  k_steps
  · have hL := (‹_ ∧ _ ∧ _ ∧ _ ∧ AllLt _ news₁›)
    (with_reducible rename News _ _ _ _ => hN9)
    obtain ⟨news', hR, hN'⟩ := add_end hN9 hL.2.2.2.1 hL.2.2.2.2 hne (fun p hp => by (repeat' (first | exact hp | refine List.Mem.tail _ ?_)))
    exact hret _ _ _ _ ⟨rfl, hR⟩ (by assumption) hN'
end
section
theorem below_ne {news : List (Addr × Obj)} {L : Addr} {k : Nat} (h : ∀ p ∈ news, p.1 < L) : ∀ p ∈ news, p.1 ≠ L + k := fun p hp => Nat.ne_of_lt (Nat.lt_of_lt_of_le (h p hp) (Nat.le_add_right _ _))
local macro_rules | `(tactic| k_all) => `(tactic| first | assumption | exact below_ne (by assumption))
local macro_rules | `(tactic| k_mem) => `(tactic| assumption)
local macro_rules | `(tactic| walk_at "call ref") => `(tactic| (k_here; (with_reducible show wpAny _ _ (call (Value.ref 83) [_, _] _) _ _ _); with_unfolding_all refine' DoesK.use ?z1 ?z2 ?z3 ?z4 ?z5 ?z6 (convT _ _ _ _ _ ?z7) ?z11 ?z12 ?_; (case z1 => k_asm); (case z2 => k_asm); (case z3 => k_asm); (case z4 => k_asm); (case z5 => k_asm); (case z6 => first | exact rfl | assumption); (case z7 => assumption); (case z11 => ktr_room); (case z12 => ktr_units); (intro r9 news9 h9 tk9 hR9 F9 N9); (obtain ⟨e9, f9⟩ := hR9); subst e9; subst f9; (try dsimp only); (try k_fold)))
inductive HdrRows (news : List (Addr × Obj)) : List Value → List (Str × Str) → Prop
  | nil : HdrRows news [] []
  | cons {a : Addr} {n : Nat} {nm v : Str} {t1 t2 : Tok} {vs : List Value} {H : List (Str × Str)} : (a, ({ cls := .type "tuple", data := .seq #[.str nm t1, .str v t2] n } : Obj)) ∈ news → nm.length ≤ 10 → HdrRows news vs H → HdrRows news (.ref a :: vs) ((nm, v) :: H)
theorem HdrRows.at {news : List (Addr × Obj)} : ∀ {vs : List Value} {H : List (Str × Str)}, HdrRows news vs H → ∀ (i : Nat) (v : Value), vs[i]? = some v → ∃ a n nm vv t1 t2, v = .ref a ∧ (a, ({ cls := .type "tuple", data := .seq #[.str nm t1, .str vv t2] n } : Obj)) ∈ news ∧ nm.length ≤ 10 ∧ H[i]? = some (nm, vv)
  | _, _, .nil, i, v, h => by simp at h
  | _, _, .cons hm hl r, 0, v, h => ⟨_, _, _, _, _, _, by simpa using h.symm, hm, hl, rfl⟩
  | _, _, .cons hm _ r, i + 1, v, h => HdrRows.at r i v (by simpa using h)
theorem HdrRows.len {news : List (Addr × Obj)} : ∀ {vs : List Value} {H : List (Str × Str)}, HdrRows news vs H → vs.length = H.length
  | _, _, .nil => rfl
  | _, _, .cons _ _ r => by simp [r.len]
def hits (name : Str) (H : List (Str × Str)) : List Str := (H.filter fun h => decide (Txt.lower h.1 = Txt.lower name)).map (·.2)
theorem hits_snoc (name : Str) (H : List (Str × Str)) (i : Nat) (nm vv : Str) (h : H[i]? = some (nm, vv)) : hits name (H.take (i + 1)) = hits name (H.take i) ++ (if Txt.lower nm = Txt.lower name then [vv] else []) := by
  unfold hits
  rw [List.take_add_one, h]
  simp only [Option.toList_some, List.filter_append, List.map_append]
  by_cases e : Txt.lower nm = Txt.lower name
  · simp [e]
  · simp [e]
theorem hits_hit {name : Str} {H : List (Str × Str)} {i : Nat} {nm vv : Str} {ys : List Value} {t : Tok} (h : H[i]? = some (nm, vv)) (e : Txt.lower nm = Txt.lower name) (hy : StrsAre ys (hits name (H.take i))) : StrsAre (ys ++ [.str vv t]) (hits name (H.take (i + 1))) := by
  rw [hits_snoc name H i nm vv h, if_pos e]; exact kct_snoc hy
theorem hits_miss {name : Str} {H : List (Str × Str)} {i : Nat} {nm vv : Str} {ys : List Value} (h : H[i]? = some (nm, vv)) (e : ¬ Txt.lower nm = Txt.lower name) (hy : StrsAre ys (hits name (H.take i))) : StrsAre ys (hits name (H.take (i + 1))) := by
  rw [hits_snoc name H i nm vv h, if_neg e]; simpa using hy
local macro_rules | `(tactic| walk_at "CompEnd") => `(tactic| ((with_reducible rename News _ _ _ _ => hN9); (with_reducible rename LCg.Off3 _ _ _ _ => hO9); refine LCg.CompEnd.intro (by assumption) hN9 _ (fun p hp => by (repeat' (first | exact hp | refine List.Mem.tail _ ?_))) hO9 (by lcg_src) ⟨rfl, ?_⟩))
local macro_rules | `(tactic| walk_at "eval ListComp") => `(tactic| (k_here; k_dflt (refine LCt.ListComp_T (F₀ := by k_asm) (by with_unfolding_all rfl) (by decide) (by rfl) (by decide) (by rfl) ?_)))
theorem off1_mem {D : Addr} : ∀ {l : List (Addr × Obj)}, LCg.Off1 D l → ∀ p ∈ l, p.1 ≠ D
  | [], _, _, h => nomatch h
  | _ :: _, x, p, h => by
    rcases List.mem_cons.mp h with rfl | h
    · exact x.1
    · exact off1_mem x.2 p h
theorem getall (w : World) (x dx hl : Addr) (its : Array Value) (c nd : Nat) (hsh : Int) (tk0 : Tok) (name : Str) (tn : Tok) (H : List (Str × Str)) (news : List (Addr × Obj)) (hx : (x, instObj 182 dx) ∈ news) (hdx : (dx, dictOf [⟨hsh, .str (Str.ofString "_headers") tk0, .ref hl⟩] nd) ∈ news)
   (hhl : (hl, W.listOf its c) ∈ news) (hH : HdrRows news its.toList H) (hsz : its.size < 1000) (h1 : NoCtl 48 (Txt.lower name)) (hn : name.length ≤ 10)
   : Does w 6 121 [.ref x, .str name tn] news (fun r news' => ∃ D ys n, r = .ref D ∧ news' = (D, W.listOf (List.toArray ys) n) :: news ∧ StrsAre ys (hits name H) ∧ (∀ p ∈ news, p.1 ≠ D)) := by
  k_with_none
  w_top off
  k_with "CompSrcT" => (
    k_dflt (refine LCt.CompSrcT.ledger (by rfl) (by k_asm) (by k_asm) (by k_mem) (small_ok (by assumption)) ?_)
    intro g0
    refine compT_const (fun i ys => StrsAre ys (hits name (H.take i))) ?start ?turn ?fin
    (case start => exact StrsAre.nil)
    (case' turn => (intro i v I oI C oC D m₂ ys h tk E' hi9 hv9 hJ9 hC9 hx9 F9 N9 off9 ne9; obtain ⟨ta, tn', nm, vv, t1, t2, rfl, hta, hnl, hHi⟩ := hH.at i v (by simpa using hv9); (try k_fold)))
    (case' fin => (intro ys hJ9)))
  unfold Does
  k_fill
  intro dp' un gd cn cs a ccd cl outer A₀ base h₀ L m mg mb mean s Q E B F X N T hk hd hu hret
  refine wpAny_call ?_
  k_dflt (refine' code_defC ?k1 ?k2 ?k3 ?k4 ?k5 ?kA ?kF ?kK ?k6 ?k7 ?k8 ?k9 ?kB ?kD ?_ ?c2 ?c3 ?c4; (case kA => exact rfl); (case kF => exact rfl); (case kK => assumption); (case k1 => k_asm); (case k2 => k_asm); (case k3 => k_asm); (case k4 => k_asm); (case k5 => k_asm); (case k6 => k_is); (case k7 => k_is); (case k8 => ktr_room); (case k9 => (refine' kp_binds ?kx ?ke; (case kx => k_in); (case ke => exact fun _ => rfl))); (case kB => exact rfl); (case kD => decide +kernel); (case c2 => exact rfl); (case c3 => exact rfl); (case c4 => exact rfl); k_whole; intro g8e L8e h8e tk8e cells8e FG8e F8e N8e Y8e B8e X8e T8e l18e; (try k_lt l18e); k_cells Y8e; (try simp only [List.cons_append, List.nil_append] at N8e); (try dsimp only); (try k_fold))
  k_steps
  · (with_reducible rename News _ _ _ _ => hN9)
    (with_reducible rename _ ∧ LCg.Off1 _ _ => hO9)
    have hlen : its.size = H.length := by have := hH.len; simpa using this
    rw [hlen, List.take_length] at hJ9
    exact hret _ _ _ _ ⟨_, ys, _, rfl, rfl, hJ9, off1_mem hO9.2⟩ (by assumption) (cb_drop hN9 fun p hp => by
      rcases List.mem_cons.mp hp with rfl | hp
      · exact List.Mem.head _
      · exact List.Mem.tail _ (List.Mem.tail _ hp))
  · exact hits_hit hHi (by simpa using ‹(Txt.lower nm == Txt.lower name) = true›) hJ9
  · exact hits_miss hHi (by simpa using ‹(Txt.lower nm == Txt.lower name) = false›) hJ9
end
section
noncomputable def AllNe (I : Addr) : List (Addr × Obj) → Prop
  | [] => True
  | p :: r => (@Ne Nat p.1 I) ∧ AllNe I r
theorem AllNe.mem {I : Addr} : ∀ {l : List (Addr × Obj)}, AllNe I l → ∀ p ∈ l, p.1 ≠ I
  | [], _, _, h => nomatch h
  | _ :: _, x, p, h => by
    rcases List.mem_cons.mp h with rfl | h
    · exact x.1
    · exact AllNe.mem x.2 p h
theorem AllNe.of {I : Addr} : ∀ {l : List (Addr × Obj)}, (∀ p ∈ l, p.1 ≠ I) → AllNe I l
  | [], _ => trivial
  | _ :: _, h => ⟨h _ List.mem_cons_self, AllNe.of fun p hp => h p (List.mem_cons_of_mem _ hp)⟩
def ForEnd (h₀ : Heap) (L : Addr) (s₁ : Shared) (I : Addr) (oI : Obj) (src : List (Addr × Obj)) (rest : (Str → Option Value) → List (Addr × Obj) → Prop) (f : Flow) (s₂ : Shared) : Prop :=
  f = .next ∧ ∃ h' tk m' nw', s₂ = { s₁ with heap := h', toks := tk } ∧ Fr h₀ L h' m' ∧ News h₀ L h' ((I, oI) :: nw') ∧ AllNe I nw' ∧ (∀ p ∈ src, p ∈ nw') ∧ rest m' nw'
theorem ForEnd.mono {h₀ : Heap} {L : Addr} {s₁ : Shared} {I : Addr} {oI : Obj} {src : List (Addr × Obj)} {rest rest' : (Str → Option Value) → List (Addr × Obj) → Prop} {f : Flow} {s₂ : Shared} (h : ForEnd h₀ L s₁ I oI src rest f s₂) (hr : ∀ m nw, rest m nw → rest' m nw) :
    ForEnd h₀ L s₁ I oI src rest' f s₂ := by
  obtain ⟨e, h', tk, m', nw', a, b, c, d, g, r⟩ := h
  exact ⟨e, h', tk, m', nw', a, b, c, d, g, hr _ _ r⟩
/-- all but the iterator -/
inductive But (I : Addr) (oI : Obj) : List (Addr × Obj) → List (Addr × Obj) → Prop
  | here {r} : But I oI ((I, oI) :: r) r
  | there {p r r'} : But I oI r r' → But I oI (p :: r) (p :: r')
theorem But.sub {I : Addr} {oI : Obj} : ∀ {l l' : List (Addr × Obj)}, But I oI l l' → ∀ p ∈ (I, oI) :: l', p ∈ l
  | _, _, .here, p, hp => hp
  | _, _, .there b, p, hp => by
    rcases List.mem_cons.mp hp with rfl | hp
    · exact List.mem_cons_of_mem _ (b.sub _ List.mem_cons_self)
    · rcases List.mem_cons.mp hp with rfl | hp
      · exact List.mem_cons_self
      · exact List.mem_cons_of_mem _ (b.sub _ (List.mem_cons_of_mem _ hp))
theorem ForEnd.intro {h₀ h' : Heap} {L : Addr} {s₁ : Shared} {I : Addr} {oI : Obj} {src all nw' : List (Addr × Obj)} {rest : (Str → Option Value) → List (Addr × Obj) → Prop} {m' : Str → Option Value} {tk : Nat}
    (F : Fr h₀ L h' m') (N : News h₀ L h' all) (b : But I oI all nw') (off : AllNe I nw') (hs : ∀ p ∈ src, p ∈ nw') (r : rest m' nw') : ForEnd h₀ L s₁ I oI src rest .next { s₁ with heap := h', toks := tk } :=
  ⟨rfl, h', tk, m', nw', rfl, F, fun p hp => N p (b.sub p hp), off, hs, r⟩
theorem ksw_fr0 {h₀ h : Heap} {L : Addr} {m₁ : Str → Option Value} (stored : List Str) (ps : List (Str × Value)) (h1 : ∀ p ∈ ps, m₁ p.1 = some p.2) (F : Fr h₀ L h m₁) : Fr h₀ L h (kstB (fun z => if stored.contains z then m₁ z else m₁ z) ps) := ksw_fr h1 (fun _ _ _ => rfl) F
section
variable {prog : Program} {w : World} {A : Around} {E : Value → Shared → Prop} {s : Shared} {env : Env} {h₀ : Heap} {x : Str} {px : Pos} {body : List Stmt} {Q : Flow → Shared → Prop} {src : List (Addr × Obj)} {P : Nat → Value → Prop}
noncomputable def ForRest (prog : Program) (w : World) (A : Around) (E : Value → Shared → Prop) (h₀ : Heap) (env : Env) (x : Str) (px : Pos) (body : List Stmt) (src : List (Addr × Obj)) (P : Nat → Value → Prop) (Fin : (Str → Option Value) → List (Addr × Obj) → Prop) :
    Nat → Nat → (Str → Option Value) → List (Addr × Obj) → Prop
  | 0, _, m, nw => Fin m nw
  | k + 1, i, m, nw => ∀ v I oI h g d tk os, P i v → Fr h₀ env.locals h m → News h₀ env.locals h ((I, oI) :: nw) → AllNe I nw →
      wpAny (model prog w) A (assign (.Name x px) env v) (fun _ s₃ => wpAny (model prog w) A (execs body env) (ForEnd h₀ env.locals ⟨h, g, d, tk, os⟩ I oI src (fun m' nw' => ForRest prog w A E h₀ env x px body src P Fin k (i + 1) m' nw')) E s₃) E ⟨h, g, d, tk, os⟩
theorem ForRest.zero {Fin : (Str → Option Value) → List (Addr × Obj) → Prop} {i : Nat} {m : Str → Option Value} {nw : List (Addr × Obj)} (h : Fin m nw) : ForRest prog w A E h₀ env x px body src P Fin 0 i m nw := h
theorem ForRest.succ {Fin : (Str → Option Value) → List (Addr × Obj) → Prop} {k i : Nat} {m : Str → Option Value} {nw : List (Addr × Obj)}
    (h : ∀ v I oI h g d tk os, P i v → Fr h₀ env.locals h m → News h₀ env.locals h ((I, oI) :: nw) → AllNe I nw →
      wpAny (model prog w) A (assign (.Name x px) env v) (fun _ s₃ => wpAny (model prog w) A (execs body env) (ForEnd h₀ env.locals ⟨h, g, d, tk, os⟩ I oI src (fun m' nw' => ForRest prog w A E h₀ env x px body src P Fin k (i + 1) m' nw')) E s₃) E ⟨h, g, d, tk, os⟩) :
    ForRest prog w A E h₀ env x px body src P Fin (k + 1) i m nw := h
/-- a loop by what holds between its turns -/
theorem for_inv {n : Nat} {m : Str → Option Value} {nw : List (Addr × Obj)} {Fin : (Str → Option Value) → List (Addr × Obj) → Prop} (J : Nat → (Str → Option Value) → List (Addr × Obj) → Prop) (start : J 0 m nw)
    (turn : ∀ i v I oI h g d tk os m nw, i < n → P i v → J i m nw → Fr h₀ env.locals h m → News h₀ env.locals h ((I, oI) :: nw) → AllNe I nw →
      wpAny (model prog w) A (assign (.Name x px) env v) (fun _ s₃ => wpAny (model prog w) A (execs body env) (ForEnd h₀ env.locals ⟨h, g, d, tk, os⟩ I oI src (J (i + 1))) E s₃) E ⟨h, g, d, tk, os⟩)
    (fin : ∀ m nw, J n m nw → Fin m nw) : ForRest prog w A E h₀ env x px body src P Fin n 0 m nw := by
  have key : ∀ (j i : Nat) (m : Str → Option Value) (nw : List (Addr × Obj)), i + j = n → J i m nw → ForRest prog w A E h₀ env x px body src P Fin j i m nw := by
    intro j
    induction j with
    | zero =>
      intro i m nw hi hJ
      obtain rfl : i = n := (by omega)
      exact ForRest.zero (fin m nw hJ)
    | succ j ih =>
      intro i m nw hi hJ
      refine ForRest.succ fun v I oI h g d tk os hv F N off => ?_
      exact wpAny_mono (turn i v I oI h g d tk os m nw (by omega) hv hJ F N off) (fun _ s₃ h₃ => wpAny_mono h₃ (fun f s₄ h₄ => ForEnd.mono h₄ fun m' nw' hj => ih (i + 1) m' nw' (by omega) hj) fun _ _ e => e) fun _ _ e => e
  exact key n 0 m nw (by omega) start
theorem loop_rest {I : Addr} {fp : List Addr} {n : Nat} {St : Nat → Heap → Prop} {m : Str → Option Value} {nw : List (Addr × Obj)} {s₂ : Shared}
    (W : Walks prog w A I fp [I] n P St) (hIo : ∀ i h, St i h → ∃ o, h.get? I = some o) (hfp : ∀ b ∈ fp, b = I ∨ ∃ o, (b, o) ∈ src) (hL : env.locals ≠ I) (hI : h₀.get? I = none)
    (hst : St 0 s₂.heap) (F : Fr h₀ env.locals s₂.heap m) (N : News h₀ env.locals s₂.heap nw) (off : AllNe I nw) (hs : ∀ p ∈ src, p ∈ nw)
    (R : ForRest prog w A E h₀ env x px body src P (fun m' nw' => ∀ h tk, Fr h₀ env.locals h m' → News h₀ env.locals h nw' → Q .next { s₂ with heap := h, toks := tk }) n 0 m nw) :
    LoopAtT prog w A h₀ env (.Name x px) body Q E (.ref I) s₂ := by
  refine ⟨I, fp, [I], n, P, St, m, nw, fun i m nw => AllNe I nw ∧ (∀ p ∈ src, p ∈ nw) ∧ ForRest prog w A E h₀ env x px body src P (fun m' nw' => ∀ h tk, Fr h₀ env.locals h m' → News h₀ env.locals h nw' → Q .next { s₂ with heap := h, toks := tk }) (n - i) i m nw, rfl, W, ?_, ?_, ?_, hst, F, N, ?_, ⟨off, hs, R⟩, ?_, ?_⟩
  · intro h
    rcases hfp _ h with e | ⟨o, ho⟩
    · exact hL e
    · exact (N _ (hs _ ho)).2.1 rfl
  · intro b hb; rw [List.mem_singleton.mp hb]; exact hI
  · intro p hp h; exact AllNe.mem off p hp (List.mem_singleton.mp h)
  · intro i s' v Q' _ hq; exact wpAny_pure hq
  · intro i v m₁ nw₁ s₁ own hi hv ⟨off₁, hs₁, R₁⟩ _ hown hget hin hst₁ F₁ N₁
    obtain ⟨k, hk⟩ : ∃ k, n - i = k + 1 := ⟨n - i - 1, by omega⟩
    rw [hk] at R₁
    obtain ⟨oI, hoI⟩ := hIo _ _ hst₁
    have hIown : (I, oI) ∈ own := hin I (W.sub I (List.mem_singleton.mpr rfl)) hI oI hoI
    obtain ⟨h, g, d, tk, os⟩ := s₁
    have N₂ : News h₀ env.locals h ((I, oI) :: nw₁) := fun p hp => by
      rcases List.mem_cons.mp hp with rfl | hp
      · exact N₁ _ (List.mem_append_left _ hIown)
      · exact N₁ p (List.mem_append_right _ hp)
    refine wpAny_mono (R₁ v I oI h g d tk os hv F₁ N₂ off₁) (fun _ s₃ h₃ => wpAny_mono h₃ (fun f s₄ h₄ => ?_) fun _ _ e => e) fun _ _ e => e
    obtain ⟨e, h', tk', m', nw', rfl, F', N', off', hs', R'⟩ := h₄
    refine ⟨e, h', tk', m', nw', rfl, F', fun p hp => ?_, fun p hp q => AllNe.mem off' p hp (List.mem_singleton.mp q), off', hs', by rw [show n - (i + 1) = k by omega]; exact R'⟩
    rcases List.mem_append.mp hp with hp | hp
    · have hg : h.get? p.1 = some p.2 := hget p hp
      rcases hfp _ (hown p hp) with e | ⟨o, ho⟩
      · have : p = (I, oI) := by
          have h1 : h.get? I = some oI := hoI
          rw [e, h1] at hg
          exact Prod.ext e (Option.some.inj hg).symm
        rw [this]; exact N' _ List.mem_cons_self
      · have : p = (p.1, o) := by
          have h1 := (N₁ (p.1, o) (List.mem_append_right _ (hs₁ _ ho))).1
          have h2 : h.get? p.1 = some o := h1
          rw [h2] at hg
          exact Prod.ext rfl (Option.some.inj hg).symm
        rw [this]; exact N' _ (List.mem_cons_of_mem _ (hs' _ ho))
    · exact N' p (List.mem_cons_of_mem _ hp)
  · intro h' tk m' nw' F' N' _ ⟨_, _, R'⟩
    rw [Nat.sub_self] at R'
    exact R' h' tk F' N'
theorem iter_str {y : Str} {t : Tok} {m : Str → Option Value} {nw : List (Addr × Obj)} (hh : A.handled = none) (F : Fr h₀ env.locals s.heap m) (N : News h₀ env.locals s.heap nw)
    (R : ForRest prog w A E h₀ env x px body [] (SignAt y) (fun m' nw' => ∀ h tk, Fr h₀ env.locals h m' → News h₀ env.locals h nw' → Q .next { s with heap := h, toks := tk }) y.cps.size 0 m nw) :
    wpAny (model prog w) A (pyIter (.str y t)) (fun it s₂ => LoopAtT prog w A h₀ env (.Name x px) body Q E it s₂) E s := by
  have fin : ∀ (T : String), (∀ I, Walks prog w A I [I] [I] y.cps.size (SignAt y) (fun i h => h.IsStrIter I T y t i)) → LoopAtT prog w A h₀ env (.Name x px) body Q E (.ref s.heap.objs.size) { s with heap := s.heap.push { cls := .type T, data := .fields #[.str y t, .int 0 0] } } := fun T W =>
    loop_rest (W s.heap.objs.size) (fun i h st => by obtain ⟨o, e, _⟩ := st; exact ⟨o, e⟩) (fun b hb => .inl (List.mem_singleton.mp hb)) (Nat.ne_of_lt F.ns.lt) (next_is_new F) ⟨_, Heap.get?_push_size _ rfl, rfl, rfl⟩ (F.keeps fun _ _ e => Heap.get?_push_of_some _ e) (N.grown fun _ _ e => Heap.get?_push_of_some _ e) (AllNe.of fun p hp => Nat.ne_of_lt (Heap.lt_size (N p hp).1)) (fun p hp => absurd hp List.not_mem_nil) R
  cases ha : y.cps.all (· < 128)
  · exact wpAny_pyIter_wide ha (fin _ fun I => Walks.strWide hh I y t)
  · exact wpAny_pyIter_ascii ha (fin _ fun I => Walks.strAscii hh I y t)
theorem iter_keys {K : Type} [DecidableEq K] {knd : KeyKind prog w K} {d : Addr} {o : Obj} {kvs : List (K × Value)} {m : Str → Option Value} {nw : List (Addr × Obj)} (hh : A.handled = none) (F : Fr h₀ env.locals s.heap m) (N : News h₀ env.locals s.heap nw) (hm : (d, o) ∈ nw) (ho : o.IsDictOf knd kvs) (lo : (d == sysModules) = false)
    (R : ForRest prog w A E h₀ env x px body [(d, o)] (fun i v => ∃ k x, kvs[i]? = some (k, x) ∧ knd.is k v = true) (fun m' nw' => ∀ h tk, Fr h₀ env.locals h m' → News h₀ env.locals h nw' → Q .next { s with heap := h, toks := tk }) kvs.length 0 m nw) :
    wpAny (model prog w) A (pyIter (.ref d)) (fun it s₂ => LoopAtT prog w A h₀ env (.Name x px) body Q E it s₂) E s := by
  have hg := (N _ hm).1
  have hlt : d < s.heap.objs.size := Heap.lt_size hg
  obtain ⟨es, ep, a, b, c, e, f⟩ := ho
  have hD : s.heap.DictAt knd d kvs ep := ⟨o, es, hg, a, b, c, e, f⟩
  refine wpAny_pyIter_dict lo hD ?_
  exact loop_rest (Walks.dictKeys hh s.heap.objs.size d (Nat.ne_of_lt hlt) kvs ep) (fun i h st => by obtain ⟨o, e, _⟩ := st.1; exact ⟨o, e⟩) (fun b hb => by
    rcases List.mem_cons.mp hb with e | hb
    · exact .inl e
    · exact .inr ⟨o, List.mem_singleton.mpr (by rw [List.mem_singleton.mp hb])⟩) (Nat.ne_of_lt F.ns.lt) (next_is_new F) ⟨⟨_, Heap.get?_push_size _ rfl, rfl, rfl⟩, hD.at' fun o e => Heap.get?_push_of_some _ e⟩ (F.keeps fun _ _ e => Heap.get?_push_of_some _ e) (N.grown fun _ _ e => Heap.get?_push_of_some _ e) (AllNe.of fun p hp => Nat.ne_of_lt (Heap.lt_size (N p hp).1)) (fun p hp => by rw [List.mem_singleton.mp hp]; exact hm) R
theorem iter_list {ax : Addr} {its : Array Value} {k : Nat} {m : Str → Option Value} {nw : List (Addr × Obj)} (hh : A.handled = none) (F : Fr h₀ env.locals s.heap m) (N : News h₀ env.locals s.heap nw) (hm : (ax, W.listOf its k) ∈ nw)
    (R : ForRest prog w A E h₀ env x px body [(ax, W.listOf its k)] (fun i v => its[i]? = some v) (fun m' nw' => ∀ h tk, Fr h₀ env.locals h m' → News h₀ env.locals h nw' → Q .next { s with heap := h, toks := tk }) its.size 0 m nw) :
    wpAny (model prog w) A (pyIter (.ref ax)) (fun it s₂ => LoopAtT prog w A h₀ env (.Name x px) body Q E it s₂) E s := by
  have hl := N.isList hm
  have hlt : ax < s.heap.objs.size := by obtain ⟨_, e, _⟩ := hl; exact Heap.lt_size e
  refine wpAny_pyIter_list hl ?_
  have up : ∀ b o, s.heap.get? b = some o → (s.heap.push { cls := .type "list_iterator", data := .fields #[.ref ax, .int 0 0] }).get? b = some o := fun b o e => Heap.get?_push_of_some _ e
  exact loop_rest (Walks.list hh s.heap.objs.size ax (Nat.ne_of_lt hlt) its) (fun i h st => by obtain ⟨o, e, _⟩ := st.1; exact ⟨o, e⟩) (fun b hb => by
    rcases List.mem_cons.mp hb with e | hb
    · exact .inl e
    · exact .inr ⟨_, List.mem_singleton.mpr (by rw [List.mem_singleton.mp hb])⟩) (Nat.ne_of_lt F.ns.lt) (next_is_new F) ⟨⟨_, Heap.get?_push_size _ rfl, rfl, rfl⟩, hl.push _⟩ (F.keeps up) (N.grown up) (AllNe.of fun p hp => Nat.ne_of_lt (Heap.lt_size (N p hp).1)) (fun p hp => by rw [List.mem_singleton.mp hp]; exact hm) R
theorem iter_range {r : Addr} {a b : Int} {t u v : Tok} {n : Nat} {m : Str → Option Value} {nw : List (Addr × Obj)} (hh : A.handled = none) (F : Fr h₀ env.locals s.heap m) (N : News h₀ env.locals s.heap nw) (hr : IsRange s.heap r a b 1 t u v) (hsm : Builtin.Range.small a b 1 = true) (hn : Builtin.Range.rangeSize a b 1 = ((n : Nat) : Int))
    (R : ForRest prog w A E h₀ env x px body [] (fun i v => ∃ t, v = .int (a + (i : Int)) t) (fun m' nw' => ∀ h tk, Fr h₀ env.locals h m' → News h₀ env.locals h nw' → Q .next { s with heap := h, toks := tk }) n 0 m nw) :
    wpAny (model prog w) A (pyIter (.ref r)) (fun it s₂ => LoopAtT prog w A h₀ env (.Name x px) body Q E it s₂) E s := by
  refine wpAny_pyIter_range hr hsm ?_
  exact loop_rest (LCg.range_walks hh a n) (fun i h st => ⟨_, st⟩) (fun b hb => .inl (List.mem_singleton.mp hb)) (Nat.ne_of_lt F.ns.lt) (next_is_new F) (by show IsRangeIter _ _ _ _ _; rw [hn]; simpa using Heap.get?_push_size _ rfl) (F.keeps fun _ _ e => Heap.get?_push_of_some _ e) (N.grown fun _ _ e => Heap.get?_push_of_some _ e) (AllNe.of fun p hp => Nat.ne_of_lt (Heap.lt_size (N p hp).1)) (fun p hp => absurd hp List.not_mem_nil) R
def KEnd {σ : Type} (stored : List Str) (m₁ : Str → Option Value) (ps : Nat → σ → List (Str × Value)) (Led : Nat → σ → List (Addr × Obj)) (Inv : Nat → σ → Prop) (i : Nat) (m' : Str → Option Value) (nw' : List (Addr × Obj)) : Prop :=
  ∃ (u : Str → Option Value) (c : σ), m' = kstB (fun z => if stored.contains z then u z else m₁ z) (ps i c) ∧ nw' = Led i c ∧ Inv i c
theorem for_K {σ : Type} {n : Nat} {m₁ : Str → Option Value} {Fin : (Str → Option Value) → List (Addr × Obj) → Prop} (stored : List Str) (ps : Nat → σ → List (Str × Value)) (Led : Nat → σ → List (Addr × Obj)) (Inv : Nat → σ → Prop) (c₀ : σ) (start : Inv 0 c₀)
    (turn : ∀ i v I oI h g d tk os (u : Str → Option Value) c, i < n → P i v → Inv i c → Fr h₀ env.locals h (kstB (fun z => if stored.contains z then u z else m₁ z) (ps i c)) → News h₀ env.locals h ((I, oI) :: Led i c) → AllNe I (Led i c) →
      wpAny (model prog w) A (assign (.Name x px) env v) (fun _ s₃ => wpAny (model prog w) A (execs body env) (ForEnd h₀ env.locals ⟨h, g, d, tk, os⟩ I oI src (KEnd stored m₁ ps Led Inv (i + 1))) E s₃) E ⟨h, g, d, tk, os⟩)
    (fin : ∀ (u : Str → Option Value) c, Inv n c → Fin (kstB (fun z => if stored.contains z then u z else m₁ z) (ps n c)) (Led n c)) :
    ForRest prog w A E h₀ env x px body src P Fin n 0 (kstB (fun z => if stored.contains z then m₁ z else m₁ z) (ps 0 c₀)) (Led 0 c₀) :=
  for_inv (KEnd stored m₁ ps Led Inv) ⟨m₁, c₀, rfl, rfl, start⟩ (fun i v I oI h g d tk os m nw hi hv hJ F N off => by
    obtain ⟨u, c, rfl, rfl, hI⟩ := hJ
    exact turn i v I oI h g d tk os u c hi hv hI F N off) fun m nw hJ => by
    obtain ⟨u, c, rfl, rfl, hI⟩ := hJ
    exact fin u c hI
theorem kend {σ : Type} {L I : Addr} {oI : Obj} {s₁ : Shared} {h' : Heap} {tk : Nat} {m₁ m' : Str → Option Value} {all : List (Addr × Obj)} {stored : List Str} {ps : Nat → σ → List (Str × Value)} {Led : Nat → σ → List (Addr × Obj)} {Inv : Nat → σ → Prop} {i : Nat} (c : σ)
    (F : Fr h₀ L h' m') (N : News h₀ L h' all) (hI : Inv i c) (h1 : ∀ p ∈ ps i c, m' p.1 = some p.2) (h2 : ∀ z, (∀ p ∈ ps i c, z ≠ p.1) → stored.contains z = false → m' z = m₁ z) (sub : ∀ p ∈ (I, oI) :: Led i c, p ∈ all) (off : AllNe I (Led i c)) (hs : ∀ p ∈ src, p ∈ Led i c) :
    ForEnd h₀ L s₁ I oI src (KEnd stored m₁ ps Led Inv i) .next { s₁ with heap := h', toks := tk } :=
  ⟨rfl, h', tk, _, _, rfl, ksw_fr h1 h2 F, fun p hp => N p (sub p hp), off, hs, m', c, rfl, rfl, hI⟩
end
end
section
def pairsOf (sign : Str) (ls : List Str) : List Str := ls.flatMap fun l => [l, sign]
def signsOf (x : Str) : List Str := x.cps.toList.map fun c => ⟨#[c]⟩
section
variable {prog : Program} {w : World} {A : Around} {E : Value → Shared → Prop} {s : Shared} {h₀ : Heap} {L : Addr} {m : Str → Option Value} {news : List (Addr × Obj)}
theorem my_cat {l b : Addr} {vs ws : List Value} {n k : Nat} {Q : Value → Shared → Prop} (F : Fr h₀ L s.heap m) (N : News h₀ L s.heap news) (hl : (l, W.listOf (List.toArray vs) n) ∈ news) (hb : (b, W.listOf (List.toArray ws) k) ∈ news) (hsz : vs.length + ws.length < 1000)
    (h : ∀ D h', Fr h₀ L h' m → News h₀ L h' ((D, W.listOf (List.toArray (vs ++ ws)) 0) :: news) → (∀ p ∈ news, p.1 < D) → Q (.ref D) { s with heap := h' }) : wpAny (model prog w) A (binaryOp .Add (.ref l) (.ref b)) Q E s :=
  add_lists F N (N.isList hl) (N.isList hb) (fun h' F' N' => h _ h' F' N' fun p hp => Heap.lt_size (N p hp).1) (by rw [sizeLine_eq]; omega)
end
theorem strs_app : ∀ {vs ws : List Value} {a b : List Str}, StrsAre vs a → StrsAre ws b → StrsAre (vs ++ ws) (a ++ b)
  | _, _, _, _, .nil, h => h
  | _, _, _, _, .cons x t r, h => .cons x t (strs_app r h)
theorem pairs_snoc (sign : Str) (ls : List Str) (i : Nat) (l : Str) (h : ls[i]? = some l) : pairsOf sign (ls.take (i + 1)) = pairsOf sign (ls.take i) ++ [l, sign] := by
  unfold pairsOf
  rw [List.take_add_one, h]; simp
theorem signs_at (x : Str) (i c : Nat) (h : x.cps[i]? = some c) : (signsOf x)[i]? = some ⟨#[c]⟩ := by
  unfold signsOf
  rw [List.getElem?_map]; simp [h]
theorem strs_at : ∀ {vs : List Value} {ls : List Str}, StrsAre vs ls → ∀ (i : Nat) (v : Value), vs[i]? = some v → ∃ l t, ls[i]? = some l ∧ v = .str l t
  | _, _, .nil, i, v, h => by simp at h
  | _, _, .cons x t r, 0, v, h => ⟨x, t, rfl, by simpa using h.symm⟩
  | _, _, .cons x t r, i + 1, v, h => strs_at r i v (by simpa using h)
theorem strs_len : ∀ {vs : List Value} {ls : List Str}, StrsAre vs ls → vs.length = ls.length
  | _, _, .nil => rfl
  | _, _, .cons _ _ r => by simp [strs_len r]
local macro_rules | `(tactic| k_mem) => `(tactic| assumption)
local macro_rules | `(tactic| lcg_sub) => `(tactic| (intro p9 hp9; (repeat' (first | exact hp9 | refine List.Mem.tail _ ?_)); done))
local macro_rules | `(tactic| walk_at "binaryOp Add ref ref") => `(tactic| (k_here; k_dflt (refine' my_cat ?z1 ?z2 ?z3 ?z4 ?z5 ?_; (case z1 => k_asm); (case z2 => k_asm); (case z3 => k_mem); (case z4 => k_mem); (case z5 => (simp only [List.length_cons, List.length_nil]; omega))); intro D' h' F' N' l1; (try k_lt l1)))
local macro_rules | `(tactic| walk_at "exec For Name Name cons nil") => `(tactic| (k_here; refine Hold.of ?_))
local macro_rules | `(tactic| walk_at "pyIter") => `(tactic| (k_here; refine Hold.of ?_))
local macro_rules | `(tactic| walk_at "pyIter str") => `(tactic| (k_here; refine Hold.of ?_))
local macro_rules | `(tactic| walk_at "pyIter ref") => `(tactic| (k_here; refine Hold.of ?_))
theorem pairs_str (w : World) (x : Str) (t tg : Tok) (sign : Str) (news : List (Addr × Obj)) (hx : x.cps.size ≤ 10)
   : Does w 2 216 [.str x t, .str sign tg] news (fun r news' => ∃ D ys k, r = .ref D ∧ news' = (D, W.listOf (List.toArray ys) k) :: news ∧ StrsAre ys (pairsOf sign (signsOf x)) ∧ ∀ p ∈ news, p.1 < D) := by
  k_with_none
  w_top off
  unfold Does
  k_fill
  intro dp' un gd cn cs a ccd cl outer A₀ base h₀ L m mg mb mean s Q E B F X N T hk hd hu hret
  refine wpAny_call ?_
  k_dflt (refine' code_def ?k1 ?k2 ?k3 ?k4 ?k5 ?kA ?kF ?kK ?k6 ?k7 ?k8 ?k9 ?kB ?_ ?c2 ?c3 ?c4 ?c5; (case kA => exact rfl); (case kF => exact rfl); (case kK => assumption); (case k1 => k_asm); (case k2 => k_asm); (case k3 => k_asm); (case k4 => k_asm); (case k5 => k_asm); (case k6 => k_is); (case k7 => k_is); (case k8 => ktr_room); (case k9 => (refine' kp_binds ?kx ?ke; (case kx => k_in); (case ke => exact fun _ => rfl))); (case kB => exact locs rfl); (case c5 => decide); (case c2 => exact rfl); (case c3 => exact rfl); (case c4 => exact rfl); k_whole; intro g8e L8e h8e FG8e F8e N8e B8e X8e T8e; (try dsimp only); (try k_fold))
  k_steps
  unfold Hold
  k_dflt (refine' For_invTF ?zg0 ?zg1 ?zg2 ?zg3; (case zg0 => k_asm); (case zg2 => exact fun _ => rfl); (case zg3 => first | passes_own | with_unfolding_all passes_own))
  k_steps
  unfold Hold
  (with_reducible rename News _ _ _ _ => hN9)
  (with_reducible rename Fr _ _ _ _ => hF9)
  refine iter_str (by with_unfolding_all rfl) (ksw_fr0 [Str.ofString "letter"] [(Str.ofString "pairs", Value.ref _)] (by kst_all) hF9) hN9 ?R
  refine for_K (σ := Addr × List Value × Nat) [Str.ofString "letter"] (fun _ c => [(Str.ofString "pairs", Value.ref c.1)]) (fun _ c => (c.1, W.listOf (List.toArray c.2.1) c.2.2) :: news) (fun i c => StrsAre c.2.1 (pairsOf sign ((signsOf x).take i)) ∧ c.2.1.length ≤ 2 * i ∧ ∀ p ∈ news, p.1 < c.1) (_, [], 0) ?st ?tu ?fi
  case st => exact ⟨StrsAre.nil, Nat.le_refl _, by assumption⟩
  case tu =>
    rintro i v I oI h g d tk os u ⟨D, ys, k⟩ hi hv ⟨hy, hyl, hlt⟩ hF8 hN8 hO8
    obtain ⟨c, tc, hc, rfl⟩ := hv
    dsimp only at *
    simp only [AllNe] at hO8
    k_steps
    (with_reducible rename News _ _ _ _ => hN7)
    refine kend (_, _, _) (by assumption) hN7 ?inv (by kst_all) (by (intro z h2 h3; simp only [List.forall_mem_cons, List.not_mem_nil, false_implies, implies_true, and_true, ne_eq] at h2; simp only [List.contains_cons, List.contains_nil, Bool.or_false, beq_eq_false_iff_ne, ne_eq] at h3; simp [kstB, h2, h3])) (by lcg_sub) ?off (fun p hp => absurd hp List.not_mem_nil)
    case off => (simp only [AllNe]; exact ⟨by k_ne, hO8.2⟩)
    case inv =>
      have hL := (‹_ ∧ _ ∧ _ ∧ AllLt _ news›)
      refine ⟨?_, ?_, tb_ltOf hL.2.2.2⟩
      · dsimp only
        rw [pairs_snoc sign _ i _ (signs_at x i c hc)]
        exact strs_app hy (.cons _ _ (.cons _ _ .nil))
      · dsimp only
        simp only [List.length_append, List.length_cons, List.length_nil]; omega
  case fi =>
    rintro u ⟨D, ys, k⟩ ⟨hy, hyl, hlt⟩ h tk hF8 hN8
    k_steps
    have hsz : (signsOf x).length = x.cps.size := by simp [signsOf]
    rw [← hsz, List.take_length] at hy
    exact hret _ _ _ _ ⟨D, ys, k, rfl, rfl, hy, hlt⟩ (by assumption) (by assumption)
theorem pairs_list (w : World) (ax : Addr) (its : Array Value) (kk : Nat) (ls : List Str) (tg : Tok) (sign : Str) (news : List (Addr × Obj)) (hax : (ax, W.listOf its kk) ∈ news) (hits : StrsAre its.toList ls) (hx : its.size ≤ 10)
   : Does w 2 216 [.ref ax, .str sign tg] news (fun r news' => ∃ D ys k, r = .ref D ∧ news' = (D, W.listOf (List.toArray ys) k) :: news ∧ StrsAre ys (pairsOf sign ls) ∧ ∀ p ∈ news, p.1 < D) := by
  k_with_none
  w_top off
  unfold Does
  k_fill
  intro dp' un gd cn cs a ccd cl outer A₀ base h₀ L m mg mb mean s Q E B F X N T hk hd hu hret
  refine wpAny_call ?_
  k_dflt (refine' code_def ?k1 ?k2 ?k3 ?k4 ?k5 ?kA ?kF ?kK ?k6 ?k7 ?k8 ?k9 ?kB ?_ ?c2 ?c3 ?c4 ?c5; (case kA => exact rfl); (case kF => exact rfl); (case kK => assumption); (case k1 => k_asm); (case k2 => k_asm); (case k3 => k_asm); (case k4 => k_asm); (case k5 => k_asm); (case k6 => k_is); (case k7 => k_is); (case k8 => ktr_room); (case k9 => (refine' kp_binds ?kx ?ke; (case kx => k_in); (case ke => exact fun _ => rfl))); (case kB => exact locs rfl); (case c5 => decide); (case c2 => exact rfl); (case c3 => exact rfl); (case c4 => exact rfl); k_whole; intro g8e L8e h8e FG8e F8e N8e B8e X8e T8e; (try dsimp only); (try k_fold))
  k_steps
  unfold Hold
  k_dflt (refine' For_invTF ?zg0 ?zg1 ?zg2 ?zg3; (case zg0 => k_asm); (case zg2 => exact fun _ => rfl); (case zg3 => first | passes_own | with_unfolding_all passes_own))
  k_steps
  unfold Hold
  (with_reducible rename News _ _ _ _ => hN9)
  (with_reducible rename Fr _ _ _ _ => hF9)
  refine iter_list (by with_unfolding_all rfl) (ksw_fr0 [Str.ofString "letter"] [(Str.ofString "pairs", Value.ref _)] (by kst_all) hF9) hN9 (List.mem_cons_of_mem _ hax) ?R
  refine for_K (σ := Addr × List Value × Nat) [Str.ofString "letter"] (fun _ c => [(Str.ofString "pairs", Value.ref c.1)]) (fun _ c => (c.1, W.listOf (List.toArray c.2.1) c.2.2) :: news) (fun i c => StrsAre c.2.1 (pairsOf sign (ls.take i)) ∧ c.2.1.length ≤ 2 * i ∧ ∀ p ∈ news, p.1 < c.1) (_, [], 0) ?st ?tu ?fi
  case st => exact ⟨StrsAre.nil, Nat.le_refl _, by assumption⟩
  case tu =>
    rintro i v I oI h g d tk os u ⟨D, ys, k⟩ hi hv ⟨hy, hyl, hlt⟩ hF8 hN8 hO8
    obtain ⟨c, tc, hc, rfl⟩ := strs_at hits i v (by simpa using hv)
    dsimp only at *
    simp only [AllNe] at hO8
    k_steps
    (with_reducible rename News _ _ _ _ => hN7)
    refine kend (_, _, _) (by assumption) hN7 ?inv (by kst_all) (by (intro z h2 h3; simp only [List.forall_mem_cons, List.not_mem_nil, false_implies, implies_true, and_true, ne_eq] at h2; simp only [List.contains_cons, List.contains_nil, Bool.or_false, beq_eq_false_iff_ne, ne_eq] at h3; simp [kstB, h2, h3])) (by lcg_sub) ?off (fun p hp => by rw [List.mem_singleton.mp hp]; exact List.mem_cons_of_mem _ hax)
    case off => (simp only [AllNe]; exact ⟨by k_ne, hO8.2⟩)
    case inv =>
      have hL := (‹_ ∧ _ ∧ _ ∧ AllLt _ news›)
      refine ⟨?_, ?_, tb_ltOf hL.2.2.2⟩
      · dsimp only
        rw [pairs_snoc sign _ i _ hc]
        exact strs_app hy (.cons _ _ (.cons _ _ .nil))
      · dsimp only
        simp only [List.length_append, List.length_cons, List.length_nil]; omega
  case fi =>
    rintro u ⟨D, ys, k⟩ ⟨hy, hyl, hlt⟩ h tk hF8 hN8
    k_steps
    have hsz : ls.length = its.size := by have := strs_len hits; simpa using this.symm
    rw [← hsz, List.take_length] at hy
    exact hret _ _ _ _ ⟨D, ys, k, rfl, rfl, hy, hlt⟩ (by assumption) (by assumption)
theorem strs_cons {vs : List Value} {a : Str} {r : List Str} (h : StrsAre vs (a :: r)) : ∃ t vs', vs = .str a t :: vs' ∧ StrsAre vs' r := by
  cases h with
  | cons x t r => exact ⟨t, _, rfl, r⟩
theorem strs_nil {vs : List Value} (h : StrsAre vs []) : vs = [] := by
  cases h; rfl
theorem pairsL0 (w : World) (ax : Addr) (kk : Nat) (tg : Tok) (sign : Str) (news : List (Addr × Obj)) (hax : (ax, W.listOf #[] kk) ∈ news)
   : Does w 2 216 [.ref ax, .str sign tg] news (fun r news' => ∃ D k, r = .ref D ∧ news' = (D, W.listOf #[] k) :: news ∧ ∀ p ∈ news, p.1 < D) := by
  refine (pairs_list w ax #[] kk [] tg sign news hax StrsAre.nil (by simp)).mono fun r nw h => ?_
  obtain ⟨D, ys, k, rfl, rfl, hy, hlt⟩ := h
  simp only [pairsOf, List.flatMap_cons, List.flatMap_nil, List.cons_append, List.nil_append, List.append_nil] at hy
  obtain rfl := strs_nil hy
  exact ⟨D, k, rfl, rfl, hlt⟩
theorem pairsS1 (w : World) (x : Str) (t tg : Tok) (sign l0 : Str) (news : List (Addr × Obj)) (hx : signsOf x = [l0])
   : Does w 2 216 [.str x t, .str sign tg] news (fun r news' => ∃ D k t0 u0, r = .ref D ∧ news' = (D, W.listOf #[.str l0 t0, .str sign u0] k) :: news ∧ ∀ p ∈ news, p.1 < D) := by
  have hsz : x.cps.size ≤ 10 := by
    have h := congrArg List.length hx
    simp only [signsOf, List.length_map, Array.length_toList, List.length_cons, List.length_nil] at h
    omega
  refine (pairs_str w x t tg sign news hsz).mono fun r nw h => ?_
  obtain ⟨D, ys, k, rfl, rfl, hy, hlt⟩ := h
  rw [hx] at hy
  simp only [pairsOf, List.flatMap_cons, List.flatMap_nil, List.cons_append, List.nil_append, List.append_nil] at hy
  obtain ⟨t0, ys1, rfl, hy1⟩ := strs_cons hy
  obtain ⟨u0, ys2, rfl, hy2⟩ := strs_cons hy1
  obtain rfl := strs_nil hy2
  exact ⟨D, k, t0, u0, rfl, rfl, hlt⟩
theorem pairsL1 (w : World) (ax : Addr) (kk : Nat) (tg : Tok) (sign : Str) (l0 : Str) (s0 : Tok) (news : List (Addr × Obj)) (hax : (ax, W.listOf #[.str l0 s0] kk) ∈ news)
   : Does w 2 216 [.ref ax, .str sign tg] news (fun r news' => ∃ D k t0 u0, r = .ref D ∧ news' = (D, W.listOf #[.str l0 t0, .str sign u0] k) :: news ∧ ∀ p ∈ news, p.1 < D) := by
  refine (pairs_list w ax #[.str l0 s0] kk [l0] tg sign news hax (StrsAre.cons l0 s0 StrsAre.nil) (by simp)).mono fun r nw h => ?_
  obtain ⟨D, ys, k, rfl, rfl, hy, hlt⟩ := h
  simp only [pairsOf, List.flatMap_cons, List.flatMap_nil, List.cons_append, List.nil_append, List.append_nil] at hy
  obtain ⟨t0, ys1, rfl, hy1⟩ := strs_cons hy
  obtain ⟨u0, ys2, rfl, hy2⟩ := strs_cons hy1
  obtain rfl := strs_nil hy2
  exact ⟨D, k, t0, u0, rfl, rfl, hlt⟩
theorem pairsS2 (w : World) (x : Str) (t tg : Tok) (sign l0 l1 : Str) (news : List (Addr × Obj)) (hx : signsOf x = [l0, l1])
   : Does w 2 216 [.str x t, .str sign tg] news (fun r news' => ∃ D k t0 u0 t1 u1, r = .ref D ∧ news' = (D, W.listOf #[.str l0 t0, .str sign u0, .str l1 t1, .str sign u1] k) :: news ∧ ∀ p ∈ news, p.1 < D) := by
  have hsz : x.cps.size ≤ 10 := by
    have h := congrArg List.length hx
    simp only [signsOf, List.length_map, Array.length_toList, List.length_cons, List.length_nil] at h
    omega
  refine (pairs_str w x t tg sign news hsz).mono fun r nw h => ?_
  obtain ⟨D, ys, k, rfl, rfl, hy, hlt⟩ := h
  rw [hx] at hy
  simp only [pairsOf, List.flatMap_cons, List.flatMap_nil, List.cons_append, List.nil_append, List.append_nil] at hy
  obtain ⟨t0, ys1, rfl, hy1⟩ := strs_cons hy
  obtain ⟨u0, ys2, rfl, hy2⟩ := strs_cons hy1
  obtain ⟨t1, ys3, rfl, hy3⟩ := strs_cons hy2
  obtain ⟨u1, ys4, rfl, hy4⟩ := strs_cons hy3
  obtain rfl := strs_nil hy4
  exact ⟨D, k, t0, u0, t1, u1, rfl, rfl, hlt⟩
theorem pairsL2 (w : World) (ax : Addr) (kk : Nat) (tg : Tok) (sign : Str) (l0 l1 : Str) (s0 s1 : Tok) (news : List (Addr × Obj)) (hax : (ax, W.listOf #[.str l0 s0, .str l1 s1] kk) ∈ news)
   : Does w 2 216 [.ref ax, .str sign tg] news (fun r news' => ∃ D k t0 u0 t1 u1, r = .ref D ∧ news' = (D, W.listOf #[.str l0 t0, .str sign u0, .str l1 t1, .str sign u1] k) :: news ∧ ∀ p ∈ news, p.1 < D) := by
  refine (pairs_list w ax #[.str l0 s0, .str l1 s1] kk [l0, l1] tg sign news hax (StrsAre.cons l0 s0 (StrsAre.cons l1 s1 StrsAre.nil)) (by simp)).mono fun r nw h => ?_
  obtain ⟨D, ys, k, rfl, rfl, hy, hlt⟩ := h
  simp only [pairsOf, List.flatMap_cons, List.flatMap_nil, List.cons_append, List.nil_append, List.append_nil] at hy
  obtain ⟨t0, ys1, rfl, hy1⟩ := strs_cons hy
  obtain ⟨u0, ys2, rfl, hy2⟩ := strs_cons hy1
  obtain ⟨t1, ys3, rfl, hy3⟩ := strs_cons hy2
  obtain ⟨u1, ys4, rfl, hy4⟩ := strs_cons hy3
  obtain rfl := strs_nil hy4
  exact ⟨D, k, t0, u0, t1, u1, rfl, rfl, hlt⟩
theorem pairsS3 (w : World) (x : Str) (t tg : Tok) (sign l0 l1 l2 : Str) (news : List (Addr × Obj)) (hx : signsOf x = [l0, l1, l2])
   : Does w 2 216 [.str x t, .str sign tg] news (fun r news' => ∃ D k t0 u0 t1 u1 t2 u2, r = .ref D ∧ news' = (D, W.listOf #[.str l0 t0, .str sign u0, .str l1 t1, .str sign u1, .str l2 t2, .str sign u2] k) :: news ∧ ∀ p ∈ news, p.1 < D) := by
  have hsz : x.cps.size ≤ 10 := by
    have h := congrArg List.length hx
    simp only [signsOf, List.length_map, Array.length_toList, List.length_cons, List.length_nil] at h
    omega
  refine (pairs_str w x t tg sign news hsz).mono fun r nw h => ?_
  obtain ⟨D, ys, k, rfl, rfl, hy, hlt⟩ := h
  rw [hx] at hy
  simp only [pairsOf, List.flatMap_cons, List.flatMap_nil, List.cons_append, List.nil_append, List.append_nil] at hy
  obtain ⟨t0, ys1, rfl, hy1⟩ := strs_cons hy
  obtain ⟨u0, ys2, rfl, hy2⟩ := strs_cons hy1
  obtain ⟨t1, ys3, rfl, hy3⟩ := strs_cons hy2
  obtain ⟨u1, ys4, rfl, hy4⟩ := strs_cons hy3
  obtain ⟨t2, ys5, rfl, hy5⟩ := strs_cons hy4
  obtain ⟨u2, ys6, rfl, hy6⟩ := strs_cons hy5
  obtain rfl := strs_nil hy6
  exact ⟨D, k, t0, u0, t1, u1, t2, u2, rfl, rfl, hlt⟩
theorem sg_a : signsOf (Str.ofString "a") = [Str.ofString "a"] := by decide +kernel
theorem sg_b : signsOf (Str.ofString "b") = [Str.ofString "b"] := by decide +kernel
theorem sg_c : signsOf (Str.ofString "c") = [Str.ofString "c"] := by decide +kernel
theorem sg_d : signsOf (Str.ofString "d") = [Str.ofString "d"] := by decide +kernel
theorem sg_ab : signsOf (Str.ofString "ab") = [Str.ofString "a", Str.ofString "b"] := by decide +kernel
theorem sg_bc : signsOf (Str.ofString "bc") = [Str.ofString "b", Str.ofString "c"] := by decide +kernel
theorem sg_cd : signsOf (Str.ofString "cd") = [Str.ofString "c", Str.ofString "d"] := by decide +kernel
theorem sg_abc : signsOf (Str.ofString "abc") = [Str.ofString "a", Str.ofString "b", Str.ofString "c"] := by decide +kernel
theorem sg_bcd : signsOf (Str.ofString "bcd") = [Str.ofString "b", Str.ofString "c", Str.ofString "d"] := by decide +kernel
end
section
local macro_rules | `(tactic| k_enter) => `(tactic| (refine' code_def ?k1 ?k2 ?k3 ?k4 ?k5 ?kA ?kF ?kK ?k6 ?k7 ?k8 ?k9 ?kB ?_ ?c2 ?c3 ?c4 ?c5; (case kA => exact rfl); (case kF => exact rfl); (case kK => assumption); (case k1 => k_asm); (case k2 => k_asm); (case k3 => k_asm); (case k4 => k_asm); (case k5 => k_asm); (case k6 => k_is); (case k7 => k_is); (case k8 => ktr_room); (case k9 => (refine' kp_binds ?kx ?ke; (case kx => k_in); (case ke => exact fun _ => rfl))); (case kB => exact locs rfl); (case c5 => decide); (case c2 => exact rfl); (case c3 => exact rfl); (case c4 => exact rfl); k_whole; intro g' L' h' FG' F' N' B' X' T'; (try dsimp only); (try k_fold)))
section
variable {prog : Program} {w : World} {A : Around} {E : Value → Shared → Prop} {s : Shared} {env : Env} {h₀ : Heap} {target : PySem.Expr} {body : List Stmt} {Q : Flow → Shared → Prop}
theorem iter_list0 {ax : Addr} {k : Nat} {m : Str → Option Value} {nw : List (Addr × Obj)} (hh : A.handled = none) (F : Fr h₀ env.locals s.heap m) (N : News h₀ env.locals s.heap nw) (hm : (ax, W.listOf #[] k) ∈ nw)
    (R : ∀ h tk, Fr h₀ env.locals h m → News h₀ env.locals h nw → Q .next { s with heap := h, toks := tk }) :
    wpAny (model prog w) A (pyIter (.ref ax)) (fun it s₂ => LoopAtT prog w A h₀ env target body Q E it s₂) E s := by
  have hl := N.isList hm
  have hlt : ax < s.heap.objs.size := by obtain ⟨_, e, _⟩ := hl; exact Heap.lt_size e
  refine wpAny_pyIter_list hl ?_
  have up : ∀ b o, s.heap.get? b = some o → (s.heap.push { cls := .type "list_iterator", data := .fields #[.ref ax, .int 0 0] }).get? b = some o := fun b o e => Heap.get?_push_of_some _ e
  refine ⟨_, _, _, 0, _, _, m, nw, fun i m' nw' => m' = m ∧ nw' = nw, rfl, Walks.list hh s.heap.objs.size ax (Nat.ne_of_lt hlt) #[], ?_, ?_, ?_, ⟨⟨_, Heap.get?_push_size _ rfl, rfl, rfl⟩, hl.push _⟩, F.keeps up, N.grown up, fun i s' v Q' st hq => letGo_listiter st.1 hq, ⟨rfl, rfl⟩, ?_, ?_⟩
  · intro hm'
    rcases List.mem_cons.mp hm' with e | hm'
    · exact Nat.lt_irrefl _ (e ▸ F.ns.lt)
    · have := (N _ hm).2.1; exact this (List.mem_singleton.mp hm').symm
  · intro b hb; rw [List.mem_singleton.mp hb]; exact next_is_new F
  · intro p hp hI; exact Nat.lt_irrefl _ (by have := Heap.lt_size (N p hp).1; rw [List.mem_singleton.mp hI] at this; exact this)
  · intro i v m₁ nw₁ s₁ own hi; exact absurd hi (Nat.not_lt_zero _)
  · rintro h' tk m' nw' F' N' _ ⟨rfl, rfl⟩; exact R h' tk F' N'
end
local macro_rules | `(tactic| k_mem) => `(tactic| assumption)
local macro_rules | `(tactic| walk_at "exec For Tuple Name cons nil") => `(tactic| (k_here; k_dflt (refine' For_invTF ?zg0 ?zg1 ?zg2 ?zg3; (case zg0 => k_asm); (case zg2 => exact fun _ => rfl); (case zg3 => first | passes_own | with_unfolding_all passes_own))))
local macro_rules | `(tactic| walk_at "pyIter ref") => `(tactic| (k_here; with_unfolding_all refine' iter_list0 ?z1 ?z2 ?z3 ?z4 ?_; (case z1 => with_unfolding_all rfl); (case z2 => k_asm); (case z3 => k_asm); (case z4 => k_mem); (intro h' tk' F' N'); (try k_fold)))
theorem newH (w : World) (news : List (Addr × Obj))
   : Does w 4 182 [] news (fun r news' => ∃ x dx hl hsh tk0 nd c, r = .ref x ∧ news' = (hl, W.listOf #[] c) :: (x, instObj 182 dx) :: (dx, dictOf [⟨hsh, .str (Str.ofString "_headers") tk0, .ref hl⟩] nd) :: news ∧ (∀ p ∈ news, p.1 < dx) ∧ dx < x ∧ x < hl) := by
  k_with_none
  w_top off
  unfold Does
  k_fill
  intro dp' un gd cn cs a ccd cl outer A₀ base h₀ L m mg mb mean s Q E B F X N T hk hd hu hret
  k_steps
  · (with_reducible rename News _ _ _ _ => hN9)
    have h1 := (‹∀ p ∈ news, p.1 < _›)
    have h2 := (‹_ < _ ∧ _ < _ ∧ AllLt _ news›)
    exact hret _ _ _ _ ⟨_, _, _, _, _, _, _, rfl, rfl, h1, by assumption, h2.1⟩ (by assumption) hN9
end
section
section
variable {prog : Program} {w : World} {A : Around} {E : Value → Shared → Prop} {s : Shared} {h₀ : Heap} {L : Addr} {m : Str → Option Value} {env : Env} {ct elt iter : PySem.Expr} {x : Str} {px : Pos} {scope : Scope} {cl : List (Str × Addr)} {pos : Pos} {Q : Value → Shared → Prop}
def SrcS (prog : Program) (w : World) (A : Around) (h₀ : Heap) (L : Addr) (m : Str → Option Value) (env : Env) (ct elt : PySem.Expr) (x : Str) (scope : Scope) (cl : List (Str × Addr)) (Fin : Shared → List Value → List (Addr × Obj) → Prop) (xv : Value) (s₁ : Shared) : Prop :=
  ∃ y t news, xv = .str y t ∧ A.handled = none ∧ Fr h₀ L s₁.heap m ∧ News h₀ L s₁.heap news ∧ y.cps.size ≤ sizeLine ∧
    ∀ s₂ : Shared, (∃ h, s₂ = { s₁ with heap := h }) → LCt.CompRestT prog w A h₀ L m env ct elt x scope cl s₂ (fun _ => True) (SignAt y) (Fin s₂) y.cps.size 0 [] news
theorem SrcS.intro {Fin : Shared → List Value → List (Addr × Obj) → Prop} {y : Str} {t : Tok} {news : List (Addr × Obj)} {s₁ : Shared} (hh : A.handled = none) (F : Fr h₀ L s₁.heap m) (N : News h₀ L s₁.heap news) (hsz : y.cps.size ≤ sizeLine)
    (R : ∀ g, LCt.CompRestT prog w A h₀ L m env ct elt x scope cl { s₁ with heap := g } (fun _ => True) (SignAt y) (Fin { s₁ with heap := g }) y.cps.size 0 [] news) : SrcS prog w A h₀ L m env ct elt x scope cl Fin (.str y t) s₁ :=
  ⟨y, t, news, rfl, hh, F, N, hsz, fun _ ⟨g, e⟩ => e ▸ R g⟩
theorem ListComp_S (F₀ : Fr h₀ L s.heap m) (hclos : closureFor scope env = pure cl) (hcell : ∀ y ∈ scope.names, y.2 ≠ .cell) (hkind : scope.kind = .function)
    (hnames : ∀ y ∈ scope.names, y.2 = .local → scope.names.lookup y.1 = some .local) (hx : scope.names.lookup x = some .local)
    (h : wpAny (model prog w) A (eval iter env) (SrcS prog w A h₀ L m env ct elt x scope cl (fun s₂ => LCg.FinE h₀ L m s₂ Q)) E s)
    (hs : ∀ x, foldedSetIterable iter env x = pure x := by intro _; rfl) :
    wpAny (model prog w) A (eval (.ListComp elt [⟨.Name x px, iter, [ct], 0⟩] scope pos) env) Q E s := by
  rw [eval_ListComp]
  refine wpAny_comprehension_free (use := none) rfl hs hclos hkind hnames (wpAny_mono h (fun xv s₁ h₁ => ?_) fun _ _ e => e)
  obtain ⟨y, t, news, rfl, hh, F, N, hsz, R⟩ := h₁
  have fin : ∀ (T : String), (∀ I, Walks prog w A I [I] [I] y.cps.size (SignAt y) (fun i h => h.IsStrIter I T y t i)) →
      wpAny (model prog w) A (newList []) (fun acc s₃ => wpAny (model prog w) A (newFunctionEnv scope env.globals cl [] env.qual none .none (some env)) (fun cenv s₄ =>
        codeAny (model prog w) A (.compStart (.ListComp elt [⟨.Name x px, iter, [ct], 0⟩] scope pos) 0 (.ref s₁.heap.objs.size) acc { cenv with scope := relabel scope env }) (compPost (model prog w) A E none Q acc cenv.locals) s₄) E s₃) E { s₁ with heap := s₁.heap.push { cls := .type T, data := .fields #[.str y t, .int 0 0] } } := fun T W => by
    refine LCt.block_T (W s₁.heap.objs.size) hsz (fun i h st => by obtain ⟨o, e, _⟩ := st; exact ⟨o, e⟩) (S := fun _ => True) (fun i h h' o nw st e e' _ _ _ => by obtain ⟨o2, e2, r2⟩ := st; exact ⟨o2, by rw [e'] ; rw [← e, e2], r2⟩) hcell hkind hx ⟨_, Heap.get?_push_size _ rfl, rfl, rfl⟩ (fun b hb => ?_)
      (F.keeps fun _ _ e => Heap.get?_push_of_some _ e) (N.grown fun _ _ e => Heap.get?_push_of_some _ e) (Nat.ne_of_lt F.ns.lt) (next_is_new F) (fun p hp => Nat.ne_of_lt (Heap.lt_size (N p hp).1)) trivial (R _ ⟨_, rfl⟩) ?_
    · rw [List.mem_singleton.mp hb]
      show s₁.heap.objs.size < (s₁.heap.push _).objs.size
      rw [Heap.size_push]; exact Nat.lt_succ_self _
    · intro D C h tk m' ys news' F' N' o1 hn hC₀ hD₀ hCL hDL hCD offC fin
      refine ⟨m', hn, fun h'' hs'' => fin D h'' tk (F'.change hs'' hCL hC₀) (fun p hp => ?_) o1⟩
      refine ⟨hs''.extBut _ _ ?_ (N' p hp).1, (N' p hp).2⟩
      rcases List.mem_cons.mp hp with rfl | hp
      · exact Ne.symm hCD
      · exact offC p hp
  cases ha : y.cps.all (· < 128)
  · exact wpAny_pyIter_wide ha (fin _ fun I => Walks.strWide hh I y t)
  · exact wpAny_pyIter_ascii ha (fin _ fun I => Walks.strAscii hh I y t)
end
end
section
def repAll (x : Str) (ps : List (Str × Str)) : Str := ps.foldl (fun x p => R1 x p.1 p.2) x
def flat2 (ps : List (Str × Str)) : List Str := ps.flatMap fun p => [p.1, p.2]
theorem repG (w : World) (x : Str) (t : Tok) (ps : List (Str × Str)) (ys : List Value) (news : List (Addr × Obj)) (hx : x.length ≤ 10) (hy : StrsAre ys (flat2 ps)) (hl : ps.length ≤ 4) (h1 : ∀ p ∈ ps, p.1.length = 1 ∧ p.2.length ≤ 1)
   : Does w 4 202 (.str x t :: ys) news (fun r news' => news' = news ∧ ∃ t', r = .str (repAll x ps) t') := by
  rcases ps with _ | ⟨⟨a0, b0⟩, ps⟩
  · obtain rfl := strs_nil hy
    exact rep0 w x t news hx
  unfold flat2 at hy
  simp only [List.flatMap_cons, List.cons_append, List.nil_append] at hy
  obtain ⟨s0, ys, rfl, hz⟩ := strs_cons hy
  clear hy
  obtain ⟨u0, ys, rfl, hy⟩ := strs_cons hz
  clear hz
  have q0 := h1 _ List.mem_cons_self
  rcases ps with _ | ⟨⟨a1, b1⟩, ps⟩
  · obtain rfl := strs_nil hy
    exact rep1 w x t _ _ _ _ news hx q0.1 q0.2
  simp only [List.flatMap_cons, List.cons_append, List.nil_append] at hy
  obtain ⟨s1, ys, rfl, hz⟩ := strs_cons hy
  clear hy
  obtain ⟨u1, ys, rfl, hy⟩ := strs_cons hz
  clear hz
  have q1 := h1 _ (List.mem_cons_of_mem _ List.mem_cons_self)
  rcases ps with _ | ⟨⟨a2, b2⟩, ps⟩
  · obtain rfl := strs_nil hy
    exact rep2 w x t _ _ _ _ _ _ _ _ news hx q0.1 q0.2 q1.1 q1.2
  simp only [List.flatMap_cons, List.cons_append, List.nil_append] at hy
  obtain ⟨s2, ys, rfl, hz⟩ := strs_cons hy
  clear hy
  obtain ⟨u2, ys, rfl, hy⟩ := strs_cons hz
  clear hz
  have q2 := h1 _ (List.mem_cons_of_mem _ (List.mem_cons_of_mem _ List.mem_cons_self))
  rcases ps with _ | ⟨⟨a3, b3⟩, ps⟩
  · obtain rfl := strs_nil hy
    exact rep3 w x t _ _ _ _ _ _ _ _ _ _ _ _ news hx q0.1 q0.2 q1.1 q1.2 q2.1 q2.2
  simp only [List.flatMap_cons, List.cons_append, List.nil_append] at hy
  obtain ⟨s3, ys, rfl, hz⟩ := strs_cons hy
  clear hy
  obtain ⟨u3, ys, rfl, hy⟩ := strs_cons hz
  clear hz
  have q3 := h1 _ (List.mem_cons_of_mem _ (List.mem_cons_of_mem _ (List.mem_cons_of_mem _ List.mem_cons_self)))
  rcases ps with _ | ⟨p, ps⟩
  · obtain rfl := strs_nil hy
    exact rep4 w x t _ _ _ _ _ _ _ _ _ _ _ _ _ _ _ _ news hx q0.1 q0.2 q1.1 q1.2 q2.1 q2.2 q3.1 q3.2
  simp only [List.length_cons] at hl
  omega
theorem repAll_len (x : Str) (ps : List (Str × Str)) (h1 : ∀ p ∈ ps, p.1.length = 1 ∧ p.2.length ≤ 1) : (repAll x ps).length ≤ x.length := by
  induction ps generalizing x with
  | nil => exact Nat.le_refl _
  | cons p r ih =>
    have q := h1 p List.mem_cons_self
    exact Nat.le_trans (ih _ fun p hp => h1 p (List.mem_cons_of_mem _ hp)) (R1_len x p.1 p.2 q.1 q.2)
theorem flat2_map (sg : Str) (ls : List Str) : flat2 (ls.map fun l => (l, sg)) = pairsOf sg ls := by
  unfold flat2 pairsOf
  induction ls with
  | nil => rfl
  | cons a r ih => simp only [List.map_cons, List.flatMap_cons]; rw [ih]
theorem flat2_app {a b : List Value} {p q : List (Str × Str)} (h1 : StrsAre a (flat2 p)) (h2 : StrsAre b (flat2 q)) : StrsAre (a ++ b) (flat2 (p ++ q)) := by
  unfold flat2
  rw [List.flatMap_append]
  exact strs_app h1 h2
theorem flat2_len : ∀ p : List (Str × Str), (flat2 p).length = 2 * p.length
  | [] => rfl
  | a :: r => by
    have := flat2_len r
    unfold flat2 at this ⊢
    simp only [List.flatMap_cons, List.length_append, List.length_cons, List.length_nil]; omega
theorem flat2_size {ys : List Value} {p : List (Str × Str)} (h : StrsAre ys (flat2 p)) : ys.length = 2 * p.length := by rw [strs_len h, flat2_len]
def Ones (ps : List (Str × Str)) : Prop := ∀ p ∈ ps, p.1.length = 1 ∧ p.2.length ≤ 1
theorem Ones.app {p q : List (Str × Str)} (h1 : Ones p) (h2 : Ones q) : Ones (p ++ q) := fun a ha => by
  rcases List.mem_append.mp ha with h | h
  · exact h1 a h
  · exact h2 a h
theorem ones_signs (x sg : Str) (hs : sg.length ≤ 1) : Ones ((signsOf x).map fun l => (l, sg)) := fun p hp => by
  obtain ⟨l, hl, rfl⟩ := List.mem_map.mp hp
  obtain ⟨c, _, rfl⟩ := List.mem_map.mp hl
  exact ⟨rfl, hs⟩
def hasS (node c : Str) : Bool := !(Builtin.Str.occurrences node c 0 node.length 1).isEmpty
def outs (node : Str) : List Str := (signsOf (Str.ofString "abcd")).filter fun c => (Builtin.Str.occurrences node c 0 node.length 1).isEmpty
theorem ones_outs (x sg : Str) (hs : sg.length ≤ 1) : Ones ((outs x).map fun l => (l, sg)) := fun p hp => by
  obtain ⟨l, hl, rfl⟩ := List.mem_map.mp hp
  obtain ⟨c, _, rfl⟩ := List.mem_map.mp (List.mem_filter.mp hl).1
  exact ⟨rfl, hs⟩
def rowOf (x node : Str) : Str := repAll x ((outs node).map fun l => (l, Str.ofString ""))
def marksOf (x node l r : Str) : Str := repAll (rowOf x node) ((signsOf l).map (fun l => (l, Str.ofString "0")) ++ (signsOf r).map (fun l => (l, Str.ofString "1")))
theorem rowOf_len (x node : Str) : (rowOf x node).length ≤ x.length := repAll_len _ _ (ones_outs _ _ (by decide))
theorem marksOf_len (x node l r : Str) : (marksOf x node l r).length ≤ x.length := Nat.le_trans (repAll_len _ _ (Ones.app (ones_signs _ _ (by decide)) (ones_signs _ _ (by decide)))) (rowOf_len x node)
theorem outs_snoc_hit (node : Str) (i c : Nat) {ys : List Value} {t : Tok} (h : (Str.ofString "abcd").cps[i]? = some c) (e : (Builtin.Str.occurrences node ⟨#[c]⟩ 0 node.length 1).isEmpty = true) (hy : StrsAre ys (((signsOf (Str.ofString "abcd")).take i).filter fun c => (Builtin.Str.occurrences node c 0 node.length 1).isEmpty)) : StrsAre (ys ++ [.str ⟨#[c]⟩ t]) (((signsOf (Str.ofString "abcd")).take (i + 1)).filter fun c => (Builtin.Str.occurrences node c 0 node.length 1).isEmpty) := by
  rw [List.take_add_one, signs_at _ i c h, List.filter_append]
  simp only [Option.toList_some, List.filter_cons, e, if_true, List.filter_nil]
  exact kct_snoc hy
theorem outs_snoc_miss (node : Str) (i c : Nat) {ys : List Value} (h : (Str.ofString "abcd").cps[i]? = some c) (e : (Builtin.Str.occurrences node ⟨#[c]⟩ 0 node.length 1).isEmpty = false) (hy : StrsAre ys (((signsOf (Str.ofString "abcd")).take i).filter fun c => (Builtin.Str.occurrences node c 0 node.length 1).isEmpty)) : StrsAre ys (((signsOf (Str.ofString "abcd")).take (i + 1)).filter fun c => (Builtin.Str.occurrences node c 0 node.length 1).isEmpty) := by
  rw [List.take_add_one, signs_at _ i c h, List.filter_append]
  simp only [Option.toList_some, List.filter_cons, e, Bool.false_eq_true, if_false, List.filter_nil, List.append_nil]
  exact hy
end
section
theorem nc_a : NoCtl 48 (Str.ofString "a") := fun S P t => by kernel_rfl
theorem nc_b : NoCtl 48 (Str.ofString "b") := fun S P t => by kernel_rfl
theorem nc_c : NoCtl 48 (Str.ofString "c") := fun S P t => by kernel_rfl
theorem nc_d : NoCtl 48 (Str.ofString "d") := fun S P t => by kernel_rfl
theorem nc_ab : NoCtl 48 (Str.ofString "ab") := fun S P t => by kernel_rfl
theorem nc_bc : NoCtl 48 (Str.ofString "bc") := fun S P t => by kernel_rfl
theorem nc_cd : NoCtl 48 (Str.ofString "cd") := fun S P t => by kernel_rfl
theorem nc_abc : NoCtl 48 (Str.ofString "abc") := fun S P t => by kernel_rfl
theorem nc_bcd : NoCtl 48 (Str.ofString "bcd") := fun S P t => by kernel_rfl
theorem up_a : Txt.upper (Str.ofString "a") = Str.ofString "A" := by decide +kernel
theorem lo_a : Txt.lower (Str.ofString "A") = Str.ofString "a" := by decide +kernel
theorem nu_a : NoCtl 48 (Str.ofString "A") := fun S P t => by kernel_rfl
theorem up_b : Txt.upper (Str.ofString "b") = Str.ofString "B" := by decide +kernel
theorem lo_b : Txt.lower (Str.ofString "B") = Str.ofString "b" := by decide +kernel
theorem nu_b : NoCtl 48 (Str.ofString "B") := fun S P t => by kernel_rfl
theorem up_c : Txt.upper (Str.ofString "c") = Str.ofString "C" := by decide +kernel
theorem lo_c : Txt.lower (Str.ofString "C") = Str.ofString "c" := by decide +kernel
theorem nu_c : NoCtl 48 (Str.ofString "C") := fun S P t => by kernel_rfl
theorem up_d : Txt.upper (Str.ofString "d") = Str.ofString "D" := by decide +kernel
theorem lo_d : Txt.lower (Str.ofString "D") = Str.ofString "d" := by decide +kernel
theorem nu_d : NoCtl 48 (Str.ofString "D") := fun S P t => by kernel_rfl
theorem up_ab : Txt.upper (Str.ofString "ab") = Str.ofString "AB" := by decide +kernel
theorem lo_ab : Txt.lower (Str.ofString "AB") = Str.ofString "ab" := by decide +kernel
theorem nu_ab : NoCtl 48 (Str.ofString "AB") := fun S P t => by kernel_rfl
theorem up_bc : Txt.upper (Str.ofString "bc") = Str.ofString "BC" := by decide +kernel
theorem lo_bc : Txt.lower (Str.ofString "BC") = Str.ofString "bc" := by decide +kernel
theorem nu_bc : NoCtl 48 (Str.ofString "BC") := fun S P t => by kernel_rfl
theorem up_cd : Txt.upper (Str.ofString "cd") = Str.ofString "CD" := by decide +kernel
theorem lo_cd : Txt.lower (Str.ofString "CD") = Str.ofString "cd" := by decide +kernel
theorem nu_cd : NoCtl 48 (Str.ofString "CD") := fun S P t => by kernel_rfl
theorem up_abc : Txt.upper (Str.ofString "abc") = Str.ofString "ABC" := by decide +kernel
theorem lo_abc : Txt.lower (Str.ofString "ABC") = Str.ofString "abc" := by decide +kernel
theorem nu_abc : NoCtl 48 (Str.ofString "ABC") := fun S P t => by kernel_rfl
theorem up_bcd : Txt.upper (Str.ofString "bcd") = Str.ofString "BCD" := by decide +kernel
theorem lo_bcd : Txt.lower (Str.ofString "BCD") = Str.ofString "bcd" := by decide +kernel
theorem nu_bcd : NoCtl 48 (Str.ofString "BCD") := fun S P t => by kernel_rfl
theorem nd_0 : NoCtl 53 (Str.ofString "0") := fun S P t => by kernel_rfl
theorem nd_1 : NoCtl 53 (Str.ofString "1") := fun S P t => by kernel_rfl
theorem nd_2 : NoCtl 53 (Str.ofString "2") := fun S P t => by kernel_rfl
theorem nd_3 : NoCtl 53 (Str.ofString "3") := fun S P t => by kernel_rfl
theorem nd_4 : NoCtl 53 (Str.ofString "4") := fun S P t => by kernel_rfl
theorem nd_5 : NoCtl 53 (Str.ofString "5") := fun S P t => by kernel_rfl
theorem nd_6 : NoCtl 53 (Str.ofString "6") := fun S P t => by kernel_rfl
theorem nd_7 : NoCtl 53 (Str.ofString "7") := fun S P t => by kernel_rfl
theorem nd_8 : NoCtl 53 (Str.ofString "8") := fun S P t => by kernel_rfl
theorem nd_9 : NoCtl 53 (Str.ofString "9") := fun S P t => by kernel_rfl
def dig (i : Nat) : Str := Str.ofString (toString ((i : Nat) : Int))
theorem dig_ok : ∀ k : Nat, k < 10 → NoCtl 53 (dig k) ∧ (dig k).length ≤ 100
  | 0, _ => (show dig 0 = Str.ofString "0" from by decide +kernel) ▸ ⟨nd_0, by decide +kernel⟩
  | 1, _ => (show dig 1 = Str.ofString "1" from by decide +kernel) ▸ ⟨nd_1, by decide +kernel⟩
  | 2, _ => (show dig 2 = Str.ofString "2" from by decide +kernel) ▸ ⟨nd_2, by decide +kernel⟩
  | 3, _ => (show dig 3 = Str.ofString "3" from by decide +kernel) ▸ ⟨nd_3, by decide +kernel⟩
  | 4, _ => (show dig 4 = Str.ofString "4" from by decide +kernel) ▸ ⟨nd_4, by decide +kernel⟩
  | 5, _ => (show dig 5 = Str.ofString "5" from by decide +kernel) ▸ ⟨nd_5, by decide +kernel⟩
  | 6, _ => (show dig 6 = Str.ofString "6" from by decide +kernel) ▸ ⟨nd_6, by decide +kernel⟩
  | 7, _ => (show dig 7 = Str.ofString "7" from by decide +kernel) ▸ ⟨nd_7, by decide +kernel⟩
  | 8, _ => (show dig 8 = Str.ofString "8" from by decide +kernel) ▸ ⟨nd_8, by decide +kernel⟩
  | 9, _ => (show dig 9 = Str.ofString "9" from by decide +kernel) ▸ ⟨nd_9, by decide +kernel⟩
  | k + 10, h => absurd h (by omega)
end
section
theorem CutRows.at {news : List (Addr × Obj)} : ∀ {kvs : List (Str × Value)} {T : List (Str × Str × Str)}, CutRows news kvs T → ∀ (i : Nat) (k : Str) (v : Value), kvs[i]? = some (k, v) → ∃ a n l r t1 t2, v = .ref a ∧ (a, listOf #[.str l t1, .str r t2] n) ∈ news ∧ T[i]? = some (k, l, r)
  | _, _, .nil, i, k, v, h => by simp at h
  | _, _, .cons hm r, 0, k, v, h => by
    simp only [List.getElem?_cons_zero, Option.some.injEq, Prod.mk.injEq] at h
    obtain ⟨rfl, rfl⟩ := h
    exact ⟨_, _, _, _, _, _, rfl, hm, rfl⟩
  | _, _, .cons hm r, i + 1, k, v, h => CutRows.at r i k v (by simpa using h)
theorem CutRows.len {news : List (Addr × Obj)} : ∀ {kvs : List (Str × Value)} {T : List (Str × Str × Str)}, CutRows news kvs T → kvs.length = T.length
  | _, _, .nil => rfl
  | _, _, .cons _ r => by simp [r.len]
local macro_rules | `(tactic| k_all) => `(tactic| first | assumption | exact below_ne (by assumption))
local macro_rules | `(tactic| k_mem) => `(tactic| assumption)
local macro_rules | `(tactic| walk_at "exec For Name Name cons nil") => `(tactic| (k_here; refine Hold.of ?_))
local macro_rules | `(tactic| walk_at "exec For Name Call cons nil") => `(tactic| (k_here; refine Hold.of ?_))
local macro_rules | `(tactic| walk_at "exec For Name Subscript cons nil") => `(tactic| (k_here; refine Hold.of ?_))
local macro_rules | `(tactic| walk_at "pyIter ref") => `(tactic| (k_here; refine Hold.of ?_))
local macro_rules | `(tactic| walk_at "call ref") => `(tactic| (k_here; (with_reducible show wpAny _ _ (call (Value.ref _) _ _) _ _ _); refine Hold.of ?_))
local macro_rules | `(tactic| walk_at "subscriptTail Name Name ref str") => `(tactic| (k_here; k_dflt (refine' kda_item (knd := PySem.strKind _ _) ?z1 ?z2 ?z3 (strKind_is _ _ _ _) ?z4 ?_; (case z1 => k_asm); (case z4 => assumption); (case z2 => k_mem); (case z3 => assumption))))
local macro_rules | `(tactic| walk_at "eval ListComp") => `(tactic| (k_here; refine Hold.of ?_))
section
variable {prog : Program} {w : World} {A : Around} {E : Value → Shared → Prop} {s : Shared} {h₀ : Heap} {L : Addr} {news : List (Addr × Obj)}
theorem my_at {value slice : PySem.Expr} {l : Addr} {its : Array Value} {n : Nat} {v : Value} {k : Int} {u : Tok} {Q : Value → Shared → Prop} (N : News h₀ L s.heap news) (hm : (l, W.listOf its n) ∈ news) (h0 : 0 ≤ k) (h1 : k < 1000) (hk : its[k.toNat]? = some v) (h : Q v s)
    (hs : subscripted slice false (.ref l) (.int k u) = operate [.ref l, .int k u] (getItem (.ref l) (.int k u)) := by with_unfolding_all rfl) :
    wpAny (model prog w) A (subscriptTail value slice (.ref l) (.int k u)) Q E s :=
  tail_any (N.isList hm).typeIs slot_list_getitem.lookup (wpAny_getItem_list (N.isList hm) h0 (by omega) hk h) hs
theorem my_sign {value slice : PySem.Expr} {x : Str} {t u : Tok} {i c : Nat} {Q : Value → Shared → Prop} (hx : x.length < 1000) (hc : x.cps[i]? = some c) (h : ∀ t' k, Q (.str ⟨#[c]⟩ t') { s with toks := k })
    (hs : subscripted slice false (.str x t) (.int (i : Int) u) = operate [.str x t, .int (i : Int) u] (getItem (.str x t) (.int (i : Int) u)) := by with_unfolding_all rfl)
    (ht : ∀ r, letTemporaryGo value (.str x t) r = pure () := by intro _; with_unfolding_all rfl) :
    wpAny (model prog w) A (subscriptTail value slice (.str x t) (.int (i : Int) u)) Q E s := by
  have hi : i < x.length := by
    by_cases hh : i < x.cps.size
    · exact hh
    · rw [Array.getElem?_eq_none (by omega)] at hc; cases hc
  refine subscriptTail_builtin (T := "str") (typeIs_str _ _ _) F.slot_str_getitem.lookup (P.getItem_str ?_ ?_ (h _ _)) hs ht
  · simp; omega
  · unfold seqIndex?
    simp only [show ¬ ((i : Int) < 0) by omega, if_false]
    simp [hi, hc]
theorem int_mark {c : Nat} {t : Tok} {Q : Value → Shared → Prop} (hc : c = 48 ∨ c = 49) (h : ∀ t' k, Q (.int ((c : Int) - 48) t') { s with toks := k }) : wpAny (model prog w) A (call (.type "int") [.str ⟨#[c]⟩ t]) Q E s := by
  rcases hc with rfl | rfl
  · exact KIN.call_text (by decide +kernel) (by decide) (h _ _)
  · exact KIN.call_text (by decide +kernel) (by decide) (h _ _)
theorem my_atm {value slice : PySem.Expr} {l : Addr} {a b : Str} {ta tb : Tok} {n c : Nat} {u : Tok} {Q : Value → Shared → Prop} (N : News h₀ L s.heap news) (hm : (l, W.listOf #[.str a ta, .str b tb] n) ∈ news) (hc : c = 48 ∨ c = 49) (h : ∀ t', Q (.str (if c = 48 then a else b) t') s)
    (hs : subscripted slice false (.ref l) (.int ((c : Int) - 48) u) = operate [.ref l, .int ((c : Int) - 48) u] (getItem (.ref l) (.int ((c : Int) - 48) u)) := by with_unfolding_all rfl) :
    wpAny (model prog w) A (subscriptTail value slice (.ref l) (.int ((c : Int) - 48) u)) Q E s := by
  rcases hc with rfl | rfl
  · exact my_at N hm (by omega) (by omega) (v := .str a ta) rfl (h ta) hs
  · exact my_at N hm (by omega) (by omega) (v := .str b tb) rfl (h tb) hs
theorem my_at0 {value slice : PySem.Expr} {l : Addr} {a b : Value} {n : Nat} {k : Int} {u : Tok} {Q : Value → Shared → Prop} (N : News h₀ L s.heap news) (hm : (l, W.listOf #[a, b] n) ∈ news) (h0 : k = 0) (h : Q a s)
    (hs : subscripted slice false (.ref l) (.int k u) = operate [.ref l, .int k u] (getItem (.ref l) (.int k u)) := by with_unfolding_all rfl) :
    wpAny (model prog w) A (subscriptTail value slice (.ref l) (.int k u)) Q E s := my_at N hm (by omega) (by omega) (by subst h0; rfl) h hs
theorem my_at1 {value slice : PySem.Expr} {l : Addr} {a b : Value} {n : Nat} {k : Int} {u : Tok} {Q : Value → Shared → Prop} (N : News h₀ L s.heap news) (hm : (l, W.listOf #[a, b] n) ∈ news) (h0 : k = 1) (h : Q b s)
    (hs : subscripted slice false (.ref l) (.int k u) = operate [.ref l, .int k u] (getItem (.ref l) (.int k u)) := by with_unfolding_all rfl) :
    wpAny (model prog w) A (subscriptTail value slice (.ref l) (.int k u)) Q E s := my_at N hm (by omega) (by omega) (by subst h0; rfl) h hs
end
structure NodeOk (l r : Str) : Prop where
  cnt : (signsOf l).length + (signsOf r).length ≤ 4
  szl : l.length ≤ 10
  szr : r.length ≤ 10
  nl : NoCtl 48 l
  nr : NoCtl 48 r
  nll : NoCtl 48 (Txt.lower (Txt.upper l))
  nlr : NoCtl 48 (Txt.lower (Txt.upper r))
  zul : (Txt.upper l).length ≤ 10
  zur : (Txt.upper r).length ≤ 10
  nul : NoCtl 48 (Txt.upper l)
  nur : NoCtl 48 (Txt.upper r)
theorem signs_len (x : Str) : (signsOf x).length = x.length := by simp [signsOf, Str.length]
theorem outs_le (node : Str) : (outs node).length ≤ 4 := Nat.le_trans (List.length_filter_le _ _) (by decide)
theorem pairs_flat {ys : List Value} {sg : Str} {ls : List Str} {n : Nat} (h : StrsAre ys (pairsOf sg ls)) (hn : ls.length ≤ n) : StrsAre ys (flat2 (ls.map fun l => (l, sg))) ∧ ys.length ≤ 2 * n := by
  rw [← flat2_map] at h
  refine ⟨h, ?_⟩
  have := flat2_size h
  rw [List.length_map] at this
  omega
theorem toArray_small {ys : List Value} (h : ys.length < 1000) : (List.toArray ys).size ≤ sizeLine := by rw [sizeLine_eq, List.size_toArray]; omega
def rowAt (l r : Str) (i c : Nat) : Str × Str := (if i % 2 = 1 then Txt.upper (if c = 48 then l else r) else (if c = 48 then l else r), dig i)
def rowsM (l r : Str) (m : List Nat) : List (Str × Str) := m.mapIdx fun i c => rowAt l r i c
theorem rowsM_snoc (l r : Str) (m : List Nat) (i c : Nat) (h : m[i]? = some c) : rowsM l r (m.take (i + 1)) = rowsM l r (m.take i) ++ [rowAt l r i c] := by
  have hi : i < m.length := by
    by_cases hh : i < m.length
    · exact hh
    · rw [List.getElem?_eq_none (by omega)] at h; cases h
  unfold rowsM
  rw [List.take_add_one, h, List.mapIdx_append]
  simp only [Option.toList_some, List.mapIdx_cons, List.mapIdx_nil, List.length_take, Nat.min_eq_left (Nat.le_of_lt hi), Nat.zero_add]
theorem HdrRows.snoc {news : List (Addr × Obj)} {a : Addr} {n : Nat} {nm v : Str} {t1 t2 : Tok} : ∀ {vs : List Value} {H : List (Str × Str)}, HdrRows news vs H → (a, ({ cls := .type "tuple", data := .seq #[.str nm t1, .str v t2] n } : Obj)) ∈ news → nm.length ≤ 10 → HdrRows news (vs ++ [.ref a]) (H ++ [(nm, v)])
  | _, _, .nil, hm, hl => .cons hm hl .nil
  | _, _, .cons hm' hl' r, hm, hl => .cons hm' hl' (r.snoc hm hl)
theorem HdrRows.grow {news news' : List (Addr × Obj)} (hs : ∀ p ∈ news, p ∈ news') : ∀ {vs : List Value} {H : List (Str × Str)}, HdrRows news vs H → HdrRows news' vs H
  | _, _, .nil => .nil
  | _, _, .cons hm hl r => .cons (hs _ hm) hl (r.grow hs)
theorem news_pull {h₀ h : Heap} {L I : Addr} {o : Obj} {all r : List (Addr × Obj)} (N : News h₀ L h all) (b : But I o all r) : News h₀ L h ((I, o) :: r) := fun p hp => N p (b.sub p hp)
theorem small_sum {a i k n : Nat} (h : a ≤ 10 * i + k) (hi : i < 3) (hk : k < n) (hn : n ≤ 10) : a < 1000 := by omega
theorem push_row {nw : List (Addr × Obj)} {its : Array Value} {H0 : List (Str × Str)} {l r nm : Str} {m : List Nat} {k c n : Nat} {tp : Addr} {t1 t2 : Tok} (hH : HdrRows nw its.toList (H0 ++ rowsM l r (m.take k))) (hc : m[k]? = some c) (he : rowAt l r k c = (nm, dig k)) (hl : nm.length ≤ 10) :
    HdrRows ((tp, ({ cls := .type "tuple", data := .seq #[.str nm t1, .str (dig k) t2] n } : Obj)) :: nw) (its.push (.ref tp)).toList (H0 ++ rowsM l r (m.take (k + 1))) := by
  rw [rowsM_snoc _ _ _ _ _ hc, he, ← List.append_assoc, Array.toList_push]
  exact (hH.grow fun p hp => List.mem_cons_of_mem _ hp).snoc List.mem_cons_self hl
theorem push_le {its : Array Value} {v : Value} {i k : Nat} (h : its.size ≤ 10 * i + k) : (its.push v).size ≤ 10 * i + (k + 1) := by rw [Array.size_push]; omega
theorem ne_cons {x tp : Addr} {o : Obj} {nw : List (Addr × Obj)} (h : @LT.lt Nat _ x tp) (hq : ∀ p ∈ nw, p.1 ≠ x) : ∀ p ∈ (tp, o) :: nw, p.1 ≠ x := fun p hp => by
  rcases List.mem_cons.mp hp with rfl | hp
  · exact Nat.ne_of_gt h
  · exact hq p hp
def rowsT (x : Str) (T : List (Str × Str × Str)) : List (Str × Str) := T.flatMap fun row => rowsM row.2.1 row.2.2 (marksOf x row.1 row.2.1 row.2.2).cps.toList
theorem rowsT_snoc {x : Str} {T : List (Str × Str × Str)} {i : Nat} {node l r mk : Str} (h : T[i]? = some (node, l, r)) (hm : marksOf x node l r = mk) : rowsT x (T.take (i + 1)) = rowsT x (T.take i) ++ rowsM l r (mk.cps.toList.take mk.length) := by
  unfold rowsT
  rw [List.take_add_one, h]
  have : mk.cps.toList.take mk.length = mk.cps.toList := List.take_of_length_le (by simp [Str.length])
  rw [this]
  simp [hm]
theorem row_even {l r : Str} {k c : Nat} (h : ¬ Int.fmod ((k : Nat) : Int) 2 = 1) : rowAt l r k c = (if c = 48 then l else r, dig k) := by
  unfold rowAt
  have : ¬ k % 2 = 1 := by rw [Int.fmod_eq_emod_of_nonneg _ (by decide)] at h; omega
  rw [if_neg this]
theorem row_odd {l r : Str} {k c : Nat} (h : Int.fmod ((k : Nat) : Int) 2 = 1) : rowAt l r k c = (Txt.upper (if c = 48 then l else r), dig k) := by
  unfold rowAt
  have : k % 2 = 1 := by rw [Int.fmod_eq_emod_of_nonneg _ (by decide)] at h; omega
  rw [if_pos this]
theorem part_ok {l r : Str} {c : Nat} (h : NodeOk l r) : (if c = 48 then l else r).length ≤ 10 ∧ NoCtl 48 (if c = 48 then l else r) ∧ NoCtl 48 (Txt.upper (if c = 48 then l else r)) ∧ (Txt.upper (if c = 48 then l else r)).length ≤ 10 := by
  split
  · exact ⟨h.szl, h.nl, h.nul, h.zul⟩
  · exact ⟨h.szr, h.nr, h.nur, h.zur⟩
section
variable {prog : Program} {w : World} {A : Around} {E : Value → Shared → Prop} {s : Shared}
theorem int_dig {n : Nat} {t : Tok} {Q : Value → Shared → Prop} (hn : n < 10) (h : Q (.int (n : Int) s.toks) { s with toks := s.toks + 1 }) : wpAny (model prog w) A (call (.type "int") [.str (dig n) t]) Q E s :=
  KIN.call_num (by omega) (by omega) h
end
local macro_rules | `(tactic| walk_at "call type:int") => `(tactic| (k_here; (with_reducible show wpAny _ _ (call (Value.type "int") [Value.str _ _]) _ _ _); (with_reducible refine' int_dig ?z1 ?_); (case z1 => assumption)))
local macro_rules | `(tactic| lcg_src) => `(tactic| exact List.Mem.head _)
local macro_rules | `(tactic| walk_at "CompSrc") => `(tactic| (refine Hold.of ?_))
local macro_rules | `(tactic| walk_at "setItem ref str") => `(tactic| (k_here; k_dflt (refine' kda_set (knd := PySem.strKind _ _) ?z1 ?z2 ?z3 ?z4 (strKind_is _ _ _ _) ?z5 ?_; (case z1 => k_asm); (case z2 => k_asm); (case z3 => k_updF); (case z4 => assumption); (case z5 => assumption)); intro h' o' F' N' hd'; (try dsimp only at N')))
local macro_rules | `(tactic| lcg_sub) => `(tactic| (intro p9 hp9; (repeat' (first | exact hp9 | refine List.Mem.tail _ ?_)); done))
local macro_rules | `(tactic| walk_at "subscriptTail Name Constant ref int") => `(tactic| (k_here; k_dflt (first | (refine' my_at0 ?z1 ?z2 ?z3 ?_; (case z3 => exact rfl); (case z1 => k_asm); (case z2 => k_mem)) | (refine' my_at1 ?z1 ?z2 ?z3 ?_; (case z3 => exact rfl); (case z1 => k_asm); (case z2 => k_mem)))))
local macro_rules | `(tactic| walk_at "call builtin:len") => `(tactic| (k_here; (with_reducible show wpAny _ _ (call (Value.builtin "len") [Value.str _ _]) _ _ _); k_dflt (refine' len_str ?z1 ?_; (case z1 => omega))))
local macro_rules | `(tactic| walk_at "subscriptTail Name Name str int") => `(tactic| (k_here; k_dflt (refine' my_sign ?z1 ?z2 ?_; (case z2 => assumption); (case z1 => omega)); intro t8 k8; (try dsimp only)))
local macro_rules | `(tactic| walk_at "call type:int") => `(tactic| (k_here; (with_reducible show wpAny _ _ (call (Value.type "int") [Value.str _ _]) _ _ _); (with_reducible refine' int_mark ?z1 ?_); (case z1 => assumption); intro t8 k8; (try dsimp only)))
local macro_rules | `(tactic| walk_at "subscriptTail Name Call ref int") => `(tactic| (k_here; k_dflt (refine' my_atm ?z1 ?z2 ?z3 ?_; (case z1 => k_asm); (case z2 => k_mem); (case z3 => assumption)); intro t8; (try dsimp only)))
local macro_rules | `(tactic| walk_at "binaryOp Add ref ref") => `(tactic| (k_here; k_dflt (refine' my_cat ?z1 ?z2 ?z3 ?z4 ?z5 ?_; (case z1 => k_asm); (case z2 => k_asm); (case z3 => k_mem); (case z4 => k_mem); (case z5 => omega)); intro D' h' F' N' l1; (try k_lt l1)))
local macro_rules | `(tactic| walk_at "StarOf ref") => `(tactic| (k_here; k_dflt (refine' star_seq ?z1 ?z2 ?z3 ?z4 ?z5 ?z6 ?z7 ?z8 ?_; (case z1 => k_asm); (case z2 => k_asm); (case z3 => k_mem); (case z4 => exact rfl); (case z5 => exact rfl); (case z6 => exact .inl rfl); (case z7 => exact rfl); (case z8 => exact toArray_small (by (try simp only [List.length_append]); omega)); k_whole); intro h' F' N'; (try dsimp only [List.nil_append, List.cons_append])))
local macro_rules | `(tactic| walk_at "CompEnd") => `(tactic| ((with_reducible rename News _ _ _ _ => hN9); (with_reducible rename LCg.Off3 _ _ _ _ => hO9); refine LCg.CompEnd.intro (by assumption) hN9 _ (fun p hp => by (repeat' (first | exact hp | refine List.Mem.tail _ ?_))) hO9 (by first | exact trivial | lcg_src) ⟨rfl, ?_⟩))
def undig (s : Str) : Int := (PySem.intText? s).getD 0
theorem undig_dig (k : Nat) (h : k < 10) : undig (dig k) = k := by
  unfold undig dig
  rw [KIN.num_reads (by omega) (by omega)]; rfl
def placesOf (H : List (Str × Str)) (part : Str) : List Int := (hits (Txt.upper part) H).map undig
theorem valueAt_stored (kvs : List (Str × Value)) (k k' : Str) (v : Value) : valueAt (stored kvs k v) k' = if k' = k then some v else valueAt kvs k' := by
  unfold valueAt stored
  by_cases hk : kvs.any (fun kv => kv.1 = k) = true
  · rw [if_pos hk]
    induction kvs with
    | nil => simp at hk
    | cons p r ih =>
      by_cases hp : p.1 = k
      · by_cases hk' : k' = k
        · simp [hp, hk']
        · have hp2 : ¬ k = k' := fun e => hk' e.symm
          rw [if_neg hk']
          simp only [List.map_cons, hp, if_true, List.find?_cons, hp2, decide_false]
          by_cases hr : r.any (fun kv => kv.1 = k) = true
          · have := ih hr; rw [if_neg hk'] at this; exact this
          · have : r.map (fun kv => if kv.1 = k then (kv.1, v) else kv) = r := by
              clear ih hk
              induction r with
              | nil => rfl
              | cons q r ih2 =>
                simp only [List.any_cons, Bool.or_eq_true, not_or, decide_eq_true_eq] at hr
                rw [List.map_cons, if_neg hr.1, ih2 hr.2]
            rw [this]
      · simp only [List.any_cons, hp, decide_false, Bool.false_or] at hk
        have := ih hk
        by_cases hk' : k' = k
        · rw [if_pos hk'] at this ⊢
          simp only [List.map_cons, hp, if_false, List.find?_cons, hk', decide_false] at this ⊢
          exact this
        · rw [if_neg hk'] at this ⊢
          simp only [List.map_cons, hp, if_false, List.find?_cons]
          by_cases h2 : p.1 = k'
          · simp [h2]
          · simp only [h2, decide_false]; exact this
  · rw [if_neg hk, List.find?_append]
    by_cases hk' : k' = k
    · subst hk'
      have : kvs.find? (fun kv => decide (kv.1 = k')) = none := by
        rw [List.find?_eq_none]
        intro p hp he
        exact hk (List.any_eq_true.mpr ⟨p, hp, he⟩)
      simp [this]
    · have hk2 : ¬ k = k' := fun e => hk' e.symm
      simp [hk', hk2]
def PlDone (nw : List (Addr × Obj)) (kvP : List (Str × Value)) (H : List (Str × Str)) (parts : List Str) : Prop :=
  ∀ part ∈ parts, ∃ a ys n, valueAt kvP part = some (.ref a) ∧ (a, W.listOf (List.toArray ys) n) ∈ nw ∧ IntsAre ys (placesOf H part)
theorem PlDone.step {nw nw' : List (Addr × Obj)} {kvP : List (Str × Value)} {H : List (Str × Str)} {parts : List Str} (h : PlDone nw kvP H parts) (hs : ∀ p ∈ nw, p ∈ nw') {part : Str} {a : Addr} {ys : List Value} {n : Nat} (hm : (a, W.listOf (List.toArray ys) n) ∈ nw') (hi : IntsAre ys (placesOf H part)) :
    PlDone nw' (stored kvP part (.ref a)) H (parts ++ [part]) := fun q hq => by
  by_cases e : q = part
  · subst e
    exact ⟨a, ys, n, by rw [valueAt_stored, if_pos rfl], hm, hi⟩
  · rcases List.mem_append.mp hq with hq | hq
    · obtain ⟨a', ys', n', h1, h2, h3⟩ := h q hq
      exact ⟨a', ys', n', by rw [valueAt_stored, if_neg e]; exact h1, hs _ h2, h3⟩
    · exact absurd (List.mem_singleton.mp hq) e
def partsT (T : List (Str × Str × Str)) : List Str := T.flatMap fun row => [row.2.1, row.2.2]
theorem partsT_snoc {T : List (Str × Str × Str)} {i : Nat} {node l r : Str} (h : T[i]? = some (node, l, r)) : partsT (T.take (i + 1)) = partsT (T.take i) ++ [l, r].take 2 := by
  unfold partsT
  rw [List.take_add_one, h]; simp
theorem rows_dig {H : List (Str × Str)} {nm : Str} (hH : ∀ h ∈ H, ∃ n, n < 10 ∧ h.2 = dig n) : ∀ s ∈ hits nm H, ∃ n, n < 10 ∧ s = dig n := fun s hs => by
  obtain ⟨h, hh, rfl⟩ := List.mem_map.mp hs
  exact hH h (List.mem_filter.mp hh).1
theorem rowsT_dig {x : Str} {T : List (Str × Str × Str)} (hx : x.length ≤ 10) : ∀ h ∈ rowsT x T, ∃ n, n < 10 ∧ h.2 = dig n := fun h hh => by
  obtain ⟨row, _, hr⟩ := List.mem_flatMap.mp hh
  unfold rowsM at hr
  obtain ⟨n, hn, rfl⟩ := List.mem_mapIdx.mp hr
  have := marksOf_len x row.1 row.2.1 row.2.2
  refine ⟨n, ?_, rfl⟩
  simp only [Array.length_toList] at hn
  unfold Str.length at this hx
  omega
theorem two_at {a b : Str} {ta tb : Tok} {j : Nat} {v : Value} (h : (#[Value.str a ta, Value.str b tb] : Array Value)[j]? = some v) : ∃ pt t, v = .str pt t ∧ [a, b][j]? = some pt := by
  rcases j with _ | _ | j
  · exact ⟨a, ta, by simpa using h.symm, rfl⟩
  · exact ⟨b, tb, by simpa using h.symm, rfl⟩
  · simp at h
theorem take_two {a b pt : Str} {j : Nat} (h : [a, b][j]? = some pt) : [a, b].take (j + 1) = [a, b].take j ++ [pt] := by
  rw [List.take_add_one, h]; rfl
theorem two_ok {l r pt : Str} {j : Nat} (h : NodeOk l r) (hp : [l, r][j]? = some pt) : pt.length ≤ 10 ∧ NoCtl 48 (Txt.lower (Txt.upper pt)) ∧ (Txt.upper pt).length ≤ 10 := by
  rcases j with _ | _ | j
  · cases hp; exact ⟨h.szl, h.nll, h.zul⟩
  · cases hp; exact ⟨h.szr, h.nlr, h.zur⟩
  · simp at hp
theorem int_snoc {L : List Str} {i n : Nat} {zs : List Value} {t : Tok} (hn : n < 10) (h : L[i]? = some (dig n)) (hz : IntsAre zs ((L.take i).map undig)) : IntsAre (zs ++ [.int (n : Int) t]) ((L.take (i + 1)).map undig) := by
  rw [List.take_add_one, h, List.map_append]
  simp only [Option.toList_some, List.map_cons, List.map_nil, undig_dig n hn]
  exact ksk_snoc hz
theorem ne_cons2 {x tp : Addr} {o : Obj} {nw : List (Addr × Obj)} (h : @Ne Nat tp x) (hq : ∀ p ∈ nw, p.1 ≠ x) : ∀ p ∈ (tp, o) :: nw, p.1 ≠ x := fun p hp => by
  rcases List.mem_cons.mp hp with rfl | hp
  · exact h
  · exact hq p hp
theorem small_dict {a i j k n : Nat} (h : a ≤ 2 * i + j) (hi : i < k) (hk : k = n) (hn : n ≤ 3) (hj : j < 2) : a ≤ sizeLine := by rw [sizeLine_eq]; omega
theorem hits_le (nm : Str) (H : List (Str × Str)) : (hits nm H).length ≤ H.length := by
  unfold hits
  rw [List.length_map]
  exact List.length_filter_le _ _
theorem places (w : World) (x : Str) (t : Tok) (dc : Addr) (Tr : List (Str × Str × Str)) (news : List (Addr × Obj)) (hC : CutsAt w news dc Tr) (hx : x.length ≤ 10) (hT : Tr.length ≤ 3) (hB : ∀ row ∈ Tr, ∀ c ∈ (marksOf x row.1 row.2.1 row.2.2).cps.toList, c = 48 ∨ c = 49) (hG : ∀ row ∈ Tr, NodeOk row.2.1 row.2.2)
   : Does w 10 221 [.str x t, .ref dc] news (fun r news' => ∃ dP oP kvP, r = .ref dP ∧ (∀ p ∈ news, p ∈ news') ∧ (dP, oP) ∈ news' ∧ oP.IsDictOf (PySem.strKind Challenge.rw_pm0054_01.row.prog w) kvP ∧ kvP.length ≤ 2 * 3 ∧ (dP == sysModules) = false ∧ PlDone news' kvP (rowsT x Tr) (partsT Tr)) := by
  k_with_none
  w_top off
  obtain ⟨oc, kvs, hoc, hdc, hlo, rows⟩ := hC
  unfold Does
  k_fill
  intro dp' un gd cn cs a ccd cl outer A₀ base h₀ L m mg mb mean s Q E B F X N T hk hd hu hret
  refine wpAny_call ?_
  refine' code_defC ?k1 ?k2 ?k3 ?k4 ?k5 ?kA ?kF ?kK ?k6 ?k7 ?k8 ?k9 ?kB ?kD ?_ ?c2 ?c3 ?c4; (case kA => exact rfl); (case kF => exact rfl); (case kK => assumption); (case k1 => k_asm); (case k2 => k_asm); (case k3 => k_asm); (case k4 => k_asm); (case k5 => k_asm); (case k6 => k_is); (case k7 => k_is); (case k8 => ktr_room); (case k9 => (refine' kp_binds ?kx ?ke; (case kx => k_in); (case ke => exact fun _ => rfl))); (case kB => exact rfl); (case kD => decide +kernel); (case c2 => exact rfl); (case c3 => exact rfl); (case c4 => exact rfl); k_whole; intro g1 Lc h1 tk1 cells1 FG1 F1 N1 Y1 B1 X1 T1 l1; (try k_lt l1); k_cells Y1; (try simp only [List.cons_append, List.nil_append] at N1); (try dsimp only); (try k_fold)
  k_steps
  unfold Hold
  with_unfolding_all refine' Does.use ?z1 ?z2 ?z3 ?z4 ?z5 ?z6 (newH _ _) ?z11 ?z12 ?_; (case z1 => k_asm); (case z2 => k_asm); (case z3 => k_asm); (case z4 => k_asm); (case z5 => k_asm); (case z6 => first | exact rfl | assumption); (case z11 => ktr_room); (case z12 => ktr_units)
  rintro r9 news9 h9 tk9 ⟨xh, dx, hl, hsh, tk0, nd, hc0, rfl, rfl, hlt0, hlt1, hlt2⟩ F9 N9
  (try dsimp only); (try k_fold)
  k_steps
  unfold Hold
  k_dflt (refine' For_invTF ?zg0 ?zg1 ?zg2 ?zg3; (case zg0 => k_asm); (case zg2 => exact fun _ => rfl); (case zg3 => first | passes_own | with_unfolding_all passes_own))
  k_steps
  unfold Hold
  (with_reducible rename News _ _ _ _ => hN9)
  (with_reducible rename Fr _ _ _ _ => hF9)
  have hlt3 : @LT.lt Nat _ (Lc + 1) dx := hlt0 _ List.mem_cons_self
  replace hlt1 : @LT.lt Nat _ dx xh := hlt1
  replace hlt2 : @LT.lt Nat _ xh hl := hlt2
  refine iter_keys (knd := PySem.strKind _ _) (by with_unfolding_all rfl) (ksw_fr0 [Str.ofString "parts", Str.ofString "row", Str.ofString "marks", Str.ofString "i", Str.ofString "part"] [] (by kst_all) hF9) hN9 (by k_mem) hoc hlo ?_
  refine for_K (σ := Array Value × Nat × Obj × List (Addr × Obj)) [Str.ofString "parts", Str.ofString "row", Str.ofString "marks", Str.ofString "i", Str.ofString "part"] (fun _ c => []) (fun _ c => (hl, W.listOf c.1 c.2.1) :: (xh, instObj 182 dx) :: (dx, dictOf [⟨hsh, .str (Str.ofString "_headers") tk0, .ref hl⟩] nd) :: (_, c.2.2.1) :: c.2.2.2) (fun i c => HdrRows c.2.2.2 c.1.toList (rowsT x (Tr.take i)) ∧ c.1.size ≤ 10 * i ∧ (∃ v, c.2.2.1.data = Data.cell v) ∧ (∀ p ∈ news, p ∈ c.2.2.2) ∧ (∀ p ∈ c.2.2.2, p.1 ≠ hl) ∧ (∀ p ∈ c.2.2.2, p.1 ≠ xh) ∧ (∀ p ∈ c.2.2.2, p.1 ≠ dx) ∧ (∀ p ∈ c.2.2.2, p.1 ≠ Lc + 1)) (#[], _, _, news) ?st ?tu ?fi
  case st => exact ⟨.nil, Nat.le_refl _, ⟨_, ‹_›⟩, fun _ h => h, fun p hp => Nat.ne_of_lt (Nat.lt_trans (hlt0 p (List.mem_cons_of_mem _ hp)) (Nat.lt_trans hlt1 hlt2)), fun p hp => Nat.ne_of_lt (Nat.lt_trans (hlt0 p (List.mem_cons_of_mem _ hp)) hlt1), fun p hp => Nat.ne_of_lt (hlt0 p (List.mem_cons_of_mem _ hp)), below_ne l1⟩
  case fi =>
    rintro u ⟨its, hc, oC, nw⟩ ⟨hH, hsz, ⟨v0, hv0⟩, hsub, hn1, hn2, hn3, hn4⟩ h tk hF8 hN8
    dsimp only at hH hsz hv0 hsub hn1 hn2 hn3 hn4 hF8 hN8
    replace hF8 : Fr g1 Lc h _ := hF8
    replace hN8 : News g1 Lc h _ := hN8
    have hdc' := hsub _ hdc
    rw [show kvs.length = Tr.length from rows.len, List.take_length] at hH
    k_steps
    unfold Hold
    k_dflt (refine' For_invTF ?zj0 ?zj1 ?zj2 ?zj3; (case zj0 => k_asm); (case zj2 => exact fun _ => rfl); (case zj3 => first | passes_own | with_unfolding_all passes_own))
    k_steps
    unfold Hold
    (with_reducible rename News _ _ _ _ => hN9)
    (with_reducible rename Fr _ _ _ _ => hF9)
    (with_reducible rename Obj.IsDictOf (PySem.strKind _ _) _ [] => hs9)
    (with_reducible rename _ ∧ _ ∧ _ ∧ _ ∧ AllLt _ nw => hl9)
    (with_reducible rename (_ == sysModules) = false => hlo9)
    (with_reducible rename Obj => oP)
    (with_reducible rename Addr => dP)
    refine iter_keys (knd := PySem.strKind _ _) (by with_unfolding_all rfl) (ksw_fr0 [Str.ofString "part"] [] (by kst_all) hF9) hN9 (List.Mem.tail _ (List.Mem.tail _ (List.Mem.tail _ (List.Mem.tail _ (List.Mem.tail _ hdc'))))) hoc hlo ?_
    refine for_K (σ := Obj × List (Str × Value) × Obj × List (Addr × Obj)) [Str.ofString "part"] (fun _ c => []) (fun _ c => (dP, c.1) :: (hl, W.listOf its hc) :: (xh, instObj 182 dx) :: (dx, dictOf [⟨hsh, .str (Str.ofString "_headers") tk0, .ref hl⟩] nd) :: (Lc + 1, c.2.2.1) :: c.2.2.2) (fun i c => c.1.IsDictOf (PySem.strKind Challenge.rw_pm0054_01.row.prog w) c.2.1 ∧ PlDone c.2.2.2 c.2.1 (rowsT x Tr) (partsT (Tr.take i)) ∧ c.2.1.length ≤ 2 * i ∧ (∃ v, c.2.2.1.data = Data.cell v) ∧ (∀ p ∈ nw, p ∈ c.2.2.2) ∧ (∀ p ∈ c.2.2.2, p.1 ≠ hl) ∧ (∀ p ∈ c.2.2.2, p.1 ≠ xh) ∧ (∀ p ∈ c.2.2.2, p.1 ≠ dx) ∧ (∀ p ∈ c.2.2.2, p.1 ≠ Lc + 1) ∧ (∀ p ∈ c.2.2.2, p.1 ≠ dP)) (oP, [], oC, nw) ?st3 ?tu3 ?fi3
    case st3 => exact ⟨hs9, fun p hp => absurd hp List.not_mem_nil, Nat.le_refl _, ⟨_, hv0⟩, fun _ h => h, hn1, hn2, hn3, hn4, fun p hp => Nat.ne_of_lt (tb_ltOf hl9.2.2.2.2 p hp)⟩
    case fi3 =>
      rintro u5 ⟨oS, kvS, oD, nw5⟩ ⟨hS5, hD5, hkl5, ⟨v1, hv1⟩, hsub5, hq1, hq2, hq3, hq4, hq5⟩
      intro h5 tk5 hF5 hN5
      dsimp only at hS5 hD5 hkl5 hsub5 hq1 hq2 hq3 hq4 hq5 hF5 hN5
      rw [show kvs.length = Tr.length from rows.len] at hkl5
      rw [show kvs.length = Tr.length from rows.len, List.take_length] at hD5
      replace hF5 : Fr g1 Lc h5 _ := hF5
      replace hN5 : News g1 Lc h5 _ := hN5
      k_steps
      (with_reducible rename News _ _ _ _ => hN4)
      exact hret _ ((dP, oS) :: nw5) _ _ ⟨dP, oS, kvS, rfl, fun p hp => List.mem_cons_of_mem _ (hsub5 p (hsub p hp)), List.Mem.head _, hS5, Nat.le_trans hkl5 (Nat.mul_le_mul_left 2 hT), hlo9, fun q hq => (hD5 q hq).imp fun a h => h.imp fun ys h => h.imp fun n h => ⟨h.1, List.mem_cons_of_mem _ h.2.1, h.2.2⟩⟩ (by assumption) (cb_drop hN4 (by intro p hp; simp only [List.mem_cons] at hp ⊢; rcases hp with hp | hp <;> simp only [hp, true_or, or_true]))
    case tu3 =>
      rintro i v I oI h g d tk os u ⟨oQ, kvP, oD, nw2⟩ hi hv ⟨hQ, hD, hkl, ⟨v1, hv1⟩, hsub2, hm1, hm2, hm3, hm4, hm5⟩ hF8 hN8 hO8
      obtain ⟨node, kv, hkv, hnode⟩ := hv
      obtain ⟨tn, rfl⟩ := Value.isStrOf_shape hnode
      obtain ⟨pa, pn, lft, rgt, t1, t2, rfl, hpa, hTi⟩ := rows.at i _ _ hkv
      have hva := valueAt_of_get (keysNodup_of_isDictOf hoc) hkv
      dsimp only at hQ hD hkl hv1 hsub2 hm1 hm2 hm3 hm4 hm5 hF8 hN8 hO8
      have hdc2 := hsub2 _ hdc'
      have hpa2 := hsub2 _ (hsub _ hpa)
      have hok := hG _ (List.mem_of_getElem? hTi)
      simp only [AllNe] at hO8
      replace hF8 : Fr g1 Lc h _ := hF8
      replace hN8 : News g1 Lc h _ := hN8
      have hP1 : @LT.lt Nat _ hl dP := hl9.1
      have hP2 : @LT.lt Nat _ xh dP := hl9.2.1
      have hP3 : @LT.lt Nat _ dx dP := hl9.2.2.1
      have hP4 : @LT.lt Nat _ (Lc + 1) dP := hl9.2.2.2.1
      k_steps
      unfold Hold
      k_dflt (refine' For_invTF ?zk0 ?zk1 ?zk2 ?zk3; (case zk0 => k_asm); (case zk2 => exact fun _ => rfl); (case zk3 => first | passes_own | with_unfolding_all passes_own))
      k_steps
      unfold Hold
      (with_reducible rename News _ _ _ _ => hN9)
      (with_reducible rename Fr _ _ _ _ => hF9)
      (with_reducible rename Obj.data _ = Data.cell (some _) => hc9)
      (with_reducible rename Obj => oE)
      have hN6 := cb_drop hN9 (show ∀ p ∈ (dP, oQ) :: (hl, W.listOf its hc) :: (xh, instObj 182 dx) :: (dx, dictOf [⟨hsh, .str (Str.ofString "_headers") tk0, .ref hl⟩] nd) :: (Lc + 1, oE) :: (I, oI) :: nw2, p ∈ _ from by intro p hp; simp only [List.mem_cons] at hp ⊢; rcases hp with hp | hp | hp | hp | hp | hp | hp <;> simp only [hp, true_or, or_true])
      refine iter_list (by with_unfolding_all rfl) (ksw_fr0 [Str.ofString "part"] [] (by kst_all) hF9) hN6 (List.Mem.tail _ (List.Mem.tail _ (List.Mem.tail _ (List.Mem.tail _ (List.Mem.tail _ (List.Mem.tail _ hpa2)))))) ?_
      refine for_K (σ := Obj × List (Str × Value) × List (Addr × Obj)) [Str.ofString "part"] (fun _ c => []) (fun _ c => (dP, c.1) :: (hl, W.listOf its hc) :: (xh, instObj 182 dx) :: (dx, dictOf [⟨hsh, .str (Str.ofString "_headers") tk0, .ref hl⟩] nd) :: (Lc + 1, oE) :: (I, oI) :: c.2.2) (fun j c => c.1.IsDictOf (PySem.strKind Challenge.rw_pm0054_01.row.prog w) c.2.1 ∧ PlDone c.2.2 c.2.1 (rowsT x Tr) (partsT (Tr.take i) ++ [lft, rgt].take j) ∧ c.2.1.length ≤ 2 * i + j ∧ (∀ p ∈ nw2, p ∈ c.2.2) ∧ (∀ p ∈ c.2.2, p.1 ≠ hl) ∧ (∀ p ∈ c.2.2, p.1 ≠ xh) ∧ (∀ p ∈ c.2.2, p.1 ≠ dx) ∧ (∀ p ∈ c.2.2, p.1 ≠ Lc + 1) ∧ (∀ p ∈ c.2.2, p.1 ≠ dP) ∧ (∀ p ∈ c.2.2, p.1 ≠ I)) (oQ, kvP, nw2) ?st4 ?tu4 ?fi4
      case st4 => exact ⟨hQ, by simpa using hD, hkl, fun _ h => h, hm1, hm2, hm3, hm4, hm5, AllNe.mem hO8.2.2.2.2.2⟩
      case fi4 =>
        rintro u5 ⟨oS, kvS, nw5⟩ ⟨hS5, hD5, hkl5, hsub5, hq1, hq2, hq3, hq4, hq5, hq6⟩
        intro h5 tk5 hF5 hN5
        dsimp only at hS5 hD5 hkl5 hsub5 hq1 hq2 hq3 hq4 hq5 hq6 hF5 hN5
        replace hF5 : Fr g1 Lc h5 _ := hF5
        replace hN5 : News g1 Lc h5 _ := hN5
        k_steps
        refine kend (oS, kvS, oE, nw5) hF5 hN5 ⟨hS5, by rw [partsT_snoc hTi]; exact hD5, hkl5, ⟨_, hc9⟩, fun p hp => hsub5 p (hsub2 p hp), hq1, hq2, hq3, hq4, hq5⟩ (fun p hp => absurd hp List.not_mem_nil) (by (intro z h2 h3; simp only [List.contains_cons, List.contains_nil, Bool.or_false, beq_eq_false_iff_ne, ne_eq] at h3; simp [kstB, h3])) (by intro p hp; simp only [List.mem_cons] at hp ⊢; rcases hp with hp | hp | hp | hp | hp | hp | hp <;> simp only [hp, true_or, or_true]) ⟨hO8.1, hO8.2.1, hO8.2.2.1, hO8.2.2.2.1, hO8.2.2.2.2.1, AllNe.of hq6⟩ (fun p hp => by rw [List.mem_singleton.mp hp]; exact List.Mem.tail _ (List.Mem.tail _ (List.Mem.tail _ (List.Mem.tail _ (List.Mem.tail _ (hsub5 _ hdc2))))))
      case tu4 =>
        rintro j v J oJ h4 g4 d4 tk4 os4 u4 ⟨oR, kvR, nw4⟩ hj hv ⟨hR, hD4, hkl4, hsub4, hq1, hq2, hq3, hq4, hq5, hq6⟩ hF8 hN8 hO7
        obtain ⟨pt, tt, rfl, hpt⟩ := two_at hv
        dsimp only at hR hD4 hkl4 hsub4 hq1 hq2 hq3 hq4 hq5 hq6 hF8 hN8 hO7
        simp only [AllNe] at hO7
        replace hF8 : Fr g1 Lc h4 _ := hF8
        replace hN8 : News g1 Lc h4 _ := hN8
        obtain ⟨hz5, hz6, hz7⟩ := two_ok hok hpt
        have hH4 : HdrRows nw4 its.toList (rowsT x Tr) := hH.grow fun p hp => hsub4 p (hsub2 p hp)
        have hsz4 : its.size < 1000 := Nat.lt_of_le_of_lt hsz (by have := rows.len; omega)
        k_steps
        unfold Hold
        k_dflt (refine LCg.ListComp_U (F₀ := by k_asm) (by with_unfolding_all rfl) (by decide) (by rfl) (by decide) (by rfl) ?_)
        k_steps
        unfold Hold
        with_unfolding_all refine' Does.use ?gaz1 ?gaz2 ?gaz3 ?gaz4 ?gaz5 ?gaz6 (getall _ _ _ _ _ _ _ _ _ _ _ _ _ ?gaw1 ?gaw2 ?gaw3 ?gaw4 ?gaw5 ?gaw6 ?gaw7) ?gaz11 ?gaz12 ?_; (case gaz1 => k_asm); (case gaz2 => k_asm); (case gaz3 => k_asm); (case gaz4 => k_asm); (case gaz5 => k_asm); (case gaz6 => first | exact rfl | assumption); (case gaw1 => k_mem); (case gaw2 => k_mem); (case gaw3 => k_mem); (case gaw4 => (refine' HdrRows.grow ?gav1 ?gav2; (case gav2 => assumption); (case gav1 => lcg_sub))); (case gaw5 => assumption); (case gaw6 => assumption); (case gaw7 => assumption); (case gaz11 => ktr_room); (case gaz12 => ktr_units); (intro r9 news9 h9 tk9 hR9 F9 N9); (obtain ⟨D9, ys9, n9, e9, f9, hy9, l9⟩ := hR9); subst e9; subst f9; (replace l9 := AllNe.of l9); (simp only [AllNe] at l9); (try dsimp only); (try k_fold)
        k_steps
        unfold Hold
        (with_reducible rename News _ _ _ _ => hN7)
        (with_reducible rename Fr _ _ _ _ => hF7)
        (with_reducible rename StrsAre _ _ => hy7)
        (with_reducible rename List Value => ys7)
        have hdig : ∀ s ∈ hits (Txt.upper pt) (rowsT x Tr), ∃ n, n < 10 ∧ s = dig n := rows_dig (rowsT_dig hx)
        have hyl : (List.toArray ys7).size < 1000 := by rw [List.size_toArray, strs_len hy7]; exact Nat.lt_of_le_of_lt (hits_le _ _) (by have := hH4.len; rw [Array.length_toList] at this; omega)
        refine LCg.CompSrc.ledger (by rfl) hF7 hN7 (List.Mem.head _) (small_ok hyl) ?_
        intro g0
        refine comp_const (fun i zs => IntsAre zs (((hits (Txt.upper pt) (rowsT x Tr)).take i).map undig)) ?start ?turn ?fin
        case start => exact IntsAre.nil
        case turn =>
          intro i9 v9 I9 oI9 C9 oC9 D9 m₂ zs h9 tk9 E9 hi9 hv9 hJ9 hC9 hx9 F9 N9 off9 ne9
          obtain ⟨l8, t8, hl8, rfl⟩ := strs_at hy7 i9 v9 (by simpa using hv9)
          obtain ⟨n8, hn8, rfl⟩ := hdig l8 (List.mem_of_getElem? hl8)
          k_steps
          exact int_snoc hn8 hl8 hJ9
        case fin =>
          intro zs hJ9
          rw [List.size_toArray, strs_len hy7, List.take_length] at hJ9
          have hkl5 : kvR.length ≤ sizeLine := small_dict hkl4 hi rows.len hT hj
          k_steps
          (with_reducible rename Obj.IsDictOf (PySem.strKind _ _) _ (stored _ _ _) => hS7)
          (with_reducible rename News _ _ _ _ => hN5)
          (with_reducible rename Fr _ _ _ _ => hF5)
          (with_reducible rename _ ∧ _ ∧ _ ∧ _ ∧ _ ∧ _ ∧ _ ∧ _ ∧ LCg.Off1 _ _ => ho7)
          (with_reducible rename Obj => oS)
          rename_i Dz hz1 tz1 Fz1 Nz1 hz2
          refine kend (oS, stored kvR pt (.ref Dz), (Dz, LCg.lst zs) :: nw4) hF5 hN5 ⟨hS7, by rw [take_two hpt, ← List.append_assoc]; exact hD4.step (fun p hp => List.mem_cons_of_mem _ hp) (List.Mem.head _) hJ9, Nat.le_trans (stored_length_le _ _ _) (Nat.succ_le_succ hkl4), fun p hp => List.mem_cons_of_mem _ (hsub4 p hp), ne_cons2 (Ne.symm ho7.2.2.2.1) hq1, ne_cons2 (Ne.symm ho7.2.2.2.2.1) hq2, ne_cons2 (Ne.symm ho7.2.2.2.2.2.1) hq3, ne_cons2 (Ne.symm ho7.2.2.2.2.2.2.1) hq4, ne_cons2 (Ne.symm ho7.2.2.1) hq5, ne_cons2 (Ne.symm ho7.2.2.2.2.2.2.2.1) hq6⟩ (fun p hp => absurd hp List.not_mem_nil) (by (intro z h2 h3; simp only [List.contains_cons, List.contains_nil, Bool.or_false, beq_eq_false_iff_ne, ne_eq] at h3; simp [kstB, h3])) (by intro p hp; simp only [List.mem_cons] at hp ⊢; rcases hp with hp | hp | hp | hp | hp | hp | hp | hp | hp <;> simp only [hp, true_or, or_true]) ⟨hO7.1, hO7.2.1, hO7.2.2.1, hO7.2.2.2.1, hO7.2.2.2.2.1, hO7.2.2.2.2.2.1, Ne.symm ho7.2.1, hO7.2.2.2.2.2.2⟩ (fun p hp => by rw [List.mem_singleton.mp hp]; exact List.Mem.tail _ (List.Mem.tail _ (List.Mem.tail _ (List.Mem.tail _ (List.Mem.tail _ (List.Mem.tail _ (List.Mem.tail _ (hsub4 _ hpa2))))))))
  case tu =>
    rintro i v I oI h g d tk os u ⟨its, hc, oC, nw⟩ hi hv ⟨hH, hsz, ⟨v0, hv0⟩, hsub, hn1, hn2, hn3, hn4⟩ hF8 hN8 hO8
    obtain ⟨node, kv, hkv, hnode⟩ := hv
    obtain ⟨tn, rfl⟩ := Value.isStrOf_shape hnode
    obtain ⟨pa, pn, lft, rgt, t1, t2, rfl, hpa, hTi⟩ := rows.at i _ _ hkv
    have hva := valueAt_of_get (keysNodup_of_isDictOf hoc) hkv
    have hdc' := hsub _ hdc
    have hiT : i < 3 := Nat.lt_of_lt_of_le (rows.len ▸ hi) hT
    have hok := hG _ (List.mem_of_getElem? hTi)
    have hcl : (signsOf lft).length ≤ 4 := Nat.le_trans (Nat.le_add_right _ _) hok.cnt
    have hcr : (signsOf rgt).length ≤ 4 := Nat.le_trans (Nat.le_add_left _ _) hok.cnt
    have hco := outs_le node
    have hcs := hok.cnt
    have hzl : lft.cps.size ≤ 10 := hok.szl
    have hzr : rgt.cps.size ≤ 10 := hok.szr
    have hzx : (repAll x ((outs node).map fun l => (l, Str.ofString ""))).length ≤ 10 := Nat.le_trans (rowOf_len x node) hx
    have hpa' := hsub _ hpa
    dsimp only at hH hsz hv0 hsub hn1 hn2 hn3 hn4 hF8 hN8 hO8
    simp only [AllNe] at hO8
    replace hF8 : Fr g1 Lc h _ := hF8
    replace hN8 : News g1 Lc h _ := hN8
    k_steps
    unfold Hold
    k_dflt (refine ListComp_S (F₀ := by k_asm) (by with_unfolding_all rfl) (by decide) (by rfl) (by decide) (by rfl) ?_)
    k_steps
    (with_reducible rename Fr _ _ _ _ => hF7)
    (with_reducible rename News _ _ _ _ => hN7)
    refine SrcS.intro (by with_unfolding_all rfl) hF7 hN7 (by rw [sizeLine_eq]; decide) ?_
    intro g0
    refine compT_const (fun i ys => StrsAre ys (((signsOf (Str.ofString "abcd")).take i).filter fun c => (Builtin.Str.occurrences node c 0 node.length 1).isEmpty)) ?start ?turn ?fin
    (case start => exact StrsAre.nil)
    case turn =>
      intro i v I oI C oC D m₂ ys h tk E' hi9 hv9 hJ9 hC9 hx9 F9 N9 off9 ne9
      obtain ⟨c, tc, hc, rfl⟩ := hv9
      k_steps
      · exact outs_snoc_hit node i c hc (by assumption) hJ9
      · exact outs_snoc_miss node i c hc (by assumption) hJ9
    intro ys hJ9; replace hJ9 : StrsAre (List.toArray ys).toList (outs node) := hJ9; have hz9 : (List.toArray ys).size ≤ 10 := (by have := strs_len hJ9; rw [Array.length_toList] at this; omega)
    k_steps
    unfold Hold
    with_unfolding_all refine' Does.use ?paz1 ?paz2 ?paz3 ?paz4 ?paz5 ?paz6 (pairs_list _ _ _ _ _ _ _ _ ?paz7 ?paz8 ?paz9) ?paz11 ?paz12 ?_; (case paz1 => k_asm); (case paz2 => k_asm); (case paz3 => k_asm); (case paz4 => k_asm); (case paz5 => k_asm); (case paz6 => first | exact rfl | assumption); (case paz7 => first | assumption | exact List.Mem.head _); (case paz8 => assumption); (case paz9 => assumption); (case paz11 => ktr_room); (case paz12 => ktr_units); (intro r9 news9 h9 tk9 hR9 F9 N9); (obtain ⟨D9, ys9, k9, e9, f9, hy9, l9⟩ := hR9); subst e9; subst f9; (obtain ⟨hf9, hs9⟩ := pairs_flat hy9 (by assumption)); clear hy9; (try k_lt l9); (try dsimp only); (try k_fold)
    k_steps
    unfold Hold
    with_unfolding_all refine' Does.use ?pbz1 ?pbz2 ?pbz3 ?pbz4 ?pbz5 ?pbz6 (repG _ _ _ _ _ _ ?pbz7 ?pbz8 ?pbz9 ?pbz10) ?pbz11 ?pbz12 ?_; (case pbz1 => k_asm); (case pbz2 => k_asm); (case pbz3 => k_asm); (case pbz4 => k_asm); (case pbz5 => k_asm); (case pbz6 => first | exact rfl | assumption); (case pbz8 => first | assumption | (rw [List.append_nil]; first | assumption | (refine' flat2_app ?pby1 ?pby2; (case pby1 => assumption); (case pby2 => assumption)))); (case pbz7 => assumption); (case pbz9 => (simp only [List.length_append, List.length_map]; omega)); (case pbz10 => first | exact ones_outs _ _ (by decide) | exact Ones.app (ones_signs _ _ (by decide)) (ones_signs _ _ (by decide))); (case pbz11 => ktr_room); (case pbz12 => ktr_units); (intro r9 news9 h9 tk9 hR9 F9 N9); (obtain ⟨e9, t9, f9⟩ := hR9); subst e9; subst f9; (try dsimp only); (try k_fold)
    k_steps
    unfold Hold
    with_unfolding_all refine' Does.use ?pcz1 ?pcz2 ?pcz3 ?pcz4 ?pcz5 ?pcz6 (pairs_str _ _ _ _ _ _ ?pcz7) ?pcz11 ?pcz12 ?_; (case pcz1 => k_asm); (case pcz2 => k_asm); (case pcz3 => k_asm); (case pcz4 => k_asm); (case pcz5 => k_asm); (case pcz6 => first | exact rfl | assumption); (case pcz7 => assumption); (case pcz11 => ktr_room); (case pcz12 => ktr_units); (intro r9 news9 h9 tk9 hR9 F9 N9); (obtain ⟨D9, ys9, k9, e9, f9, hy9, l9⟩ := hR9); subst e9; subst f9; (obtain ⟨hf9, hs9⟩ := pairs_flat hy9 (by assumption)); clear hy9; (try k_lt l9); (try dsimp only); (try k_fold)
    k_steps
    unfold Hold
    with_unfolding_all refine' Does.use ?pdz1 ?pdz2 ?pdz3 ?pdz4 ?pdz5 ?pdz6 (pairs_str _ _ _ _ _ _ ?pdz7) ?pdz11 ?pdz12 ?_; (case pdz1 => k_asm); (case pdz2 => k_asm); (case pdz3 => k_asm); (case pdz4 => k_asm); (case pdz5 => k_asm); (case pdz6 => first | exact rfl | assumption); (case pdz7 => assumption); (case pdz11 => ktr_room); (case pdz12 => ktr_units); (intro r9 news9 h9 tk9 hR9 F9 N9); (obtain ⟨D9, ys9, k9, e9, f9, hy9, l9⟩ := hR9); subst e9; subst f9; (obtain ⟨hf9, hs9⟩ := pairs_flat hy9 (by assumption)); clear hy9; (try k_lt l9); (try dsimp only); (try k_fold)
    k_steps
    unfold Hold
    with_unfolding_all refine' Does.use ?pez1 ?pez2 ?pez3 ?pez4 ?pez5 ?pez6 (repG _ _ _ _ _ _ ?pez7 ?pez8 ?pez9 ?pez10) ?pez11 ?pez12 ?_; (case pez1 => k_asm); (case pez2 => k_asm); (case pez3 => k_asm); (case pez4 => k_asm); (case pez5 => k_asm); (case pez6 => first | exact rfl | assumption); (case pez8 => first | assumption | (rw [List.append_nil]; first | assumption | (refine' flat2_app ?pey1 ?pey2; (case pey1 => assumption); (case pey2 => assumption)))); (case pez7 => assumption); (case pez9 => (simp only [List.length_append, List.length_map]; omega)); (case pez10 => first | exact ones_outs _ _ (by decide) | exact Ones.app (ones_signs _ _ (by decide)) (ones_signs _ _ (by decide))); (case pez11 => ktr_room); (case pez12 => ktr_units); (intro r9 news9 h9 tk9 hR9 F9 N9); (obtain ⟨e9, t9, f9⟩ := hR9); subst e9; subst f9; (try dsimp only); (try k_fold)
    k_steps
    unfold Hold
    have hzm : (marksOf x node lft rgt).length ≤ 10 := Nat.le_trans (marksOf_len x node lft rgt) hx
    (with_reducible rename Fr _ _ _ _ => hF6)
    generalize hmk : repAll (repAll x (List.map (fun l => (l, Str.ofString "")) (outs node))) (List.map (fun l => (l, Str.ofString "0")) (signsOf lft) ++ List.map (fun l => (l, Str.ofString "1")) (signsOf rgt)) = mk at hF6
    replace hmk : marksOf x node lft rgt = mk := hmk
    rw [hmk] at hzm
    have hbit : ∀ c ∈ mk.cps.toList, c = 48 ∨ c = 49 := hmk ▸ hB _ (List.mem_of_getElem? hTi)
    k_dflt (refine' For_invTF ?zi0 ?zi1 ?zi2 ?zi3; (case zi0 => k_asm); (case zi2 => exact fun _ => rfl); (case zi3 => first | passes_own | with_unfolding_all passes_own))
    k_steps
    unfold Hold
    (with_reducible rename Fr _ _ _ _ => hF7)
    (with_reducible rename News _ _ _ _ => hN7)
    (with_reducible rename IsRange _ _ _ _ _ _ _ _ => hR7)
    (with_reducible rename Obj => oD)
    have hN6 := cb_drop hN7 (show ∀ p ∈ (hl, W.listOf its hc) :: (xh, instObj 182 dx) :: (dx, dictOf [⟨hsh, .str (Str.ofString "_headers") tk0, .ref hl⟩] nd) :: (Lc + 1, oD) :: (I, oI) :: nw, p ∈ _ from by intro p hp; simp only [List.mem_cons] at hp ⊢; rcases hp with hp | hp | hp | hp | hp | hp <;> simp only [hp, true_or, or_true])
    refine iter_range (n := mk.length) (by with_unfolding_all rfl) (ksw_fr0 [Str.ofString "i", Str.ofString "part"] [] (by kst_all) hF7) hN6 hR7 (small_one (by omega) (by omega) (by omega) (by omega)) (by rw [rangeSize_nat]; omega) ?_
    refine for_K (σ := Array Value × Nat × List (Addr × Obj)) [Str.ofString "i", Str.ofString "part"] (fun _ c => []) (fun _ c => (hl, W.listOf c.1 c.2.1) :: (xh, instObj 182 dx) :: (dx, dictOf [⟨hsh, .str (Str.ofString "_headers") tk0, .ref hl⟩] nd) :: (Lc + 1, oD) :: (I, oI) :: c.2.2) (fun k c => HdrRows c.2.2 c.1.toList (rowsT x (Tr.take i) ++ rowsM lft rgt (mk.cps.toList.take k)) ∧ c.1.size ≤ 10 * i + k ∧ (∀ p ∈ nw, p ∈ c.2.2) ∧ (∀ p ∈ c.2.2, p.1 ≠ hl) ∧ (∀ p ∈ c.2.2, p.1 ≠ xh) ∧ (∀ p ∈ c.2.2, p.1 ≠ dx) ∧ (∀ p ∈ c.2.2, p.1 ≠ Lc + 1) ∧ (∀ p ∈ c.2.2, p.1 ≠ I)) (_, _, nw) ?st2 ?tu2 ?fi2
    case st2 => exact ⟨by simpa [rowsM] using hH, hsz, fun _ h => h, hn1, hn2, hn3, hn4, AllNe.mem hO8.2.2.2.2⟩
    case fi2 =>
      rintro u5 ⟨its5, hc5, nw5⟩ ⟨hH5, hsz5, hsub5, hq1, hq2, hq3, hq4, hq5⟩
      intro h5 tk5 hF5 hN5
      dsimp only at hH5 hsz5 hsub5 hq1 hq2 hq3 hq4 hq5 hF5 hN5
      replace hF5 : Fr g1 Lc h5 _ := hF5
      replace hN5 : News g1 Lc h5 _ := hN5
      k_steps
      refine kend (its5, hc5, oD, nw5) hF5 hN5 ?_ (fun p hp => absurd hp List.not_mem_nil) (by (intro z h2 h3; simp only [List.contains_cons, List.contains_nil, Bool.or_false, Bool.or_eq_false_iff, beq_eq_false_iff_ne, ne_eq] at h3; simp [kstB, h3])) (by intro p hp; simp only [List.mem_cons] at hp ⊢; rcases hp with hp | hp | hp | hp | hp | hp <;> simp only [hp, true_or, or_true]) ⟨hO8.1, hO8.2.1, hO8.2.2.1, hO8.2.2.2.1, AllNe.of hq5⟩ (fun p hp => by rw [List.mem_singleton.mp hp]; exact List.mem_cons_of_mem _ (List.mem_cons_of_mem _ (List.mem_cons_of_mem _ (List.mem_cons_of_mem _ (hsub5 _ hdc')))))
      exact ⟨by rw [rowsT_snoc hTi hmk]; exact hH5, Nat.le_trans hsz5 (by have := hzm; omega), ⟨_, ‹_›⟩, fun p hp => hsub5 p (hsub p hp), hq1, hq2, hq3, hq4⟩
    case tu2 =>
      rintro k v J oJ h4 g4 d4 tk4 os4 u4 ⟨its4, hc4, nw4⟩ hk4 hv ⟨hH4, hsz4, hsub4, hq1, hq2, hq3, hq4, hq5⟩ hF8 hN8 hO7
      obtain ⟨tv, hv⟩ := hv
      rw [Int.zero_add] at hv
      subst hv
      dsimp only at hH4 hsz4 hsub4 hq1 hq2 hq3 hq4 hq5 hF8 hN8 hO7
      simp only [AllNe] at hO7
      replace hF8 : Fr g1 Lc h4 _ := hF8
      replace hN8 : News g1 Lc h4 _ := hN8
      have hdc4 := hsub4 _ hdc'
      have hpa4 := hsub4 _ hpa'
      obtain ⟨c, hc⟩ : ∃ c, mk.cps[k]? = some c := ⟨_, Array.getElem?_eq_getElem hk4⟩
      have hcb := hbit c (List.mem_of_getElem? (by rw [Array.getElem?_toList]; exact hc))
      obtain ⟨hz5, hz6, hz7, hz8⟩ := part_ok (c := c) hok
      have hdk := dig_ok k (Nat.lt_of_lt_of_le hk4 hzm)
      have hzk : mk.length < 1000 := Nat.lt_of_le_of_lt hzm (by decide)
      have hsz5 : its4.size < 1000 := small_sum hsz4 hiT hk4 hzm
      have hne5 : ∀ p ∈ ((J, oJ) :: (xh, instObj 182 dx) :: (dx, dictOf [⟨hsh, .str (Str.ofString "_headers") tk0, .ref hl⟩] nd) :: (Lc + 1, oD) :: (I, oI) :: nw4 : List (Addr × Obj)), p.1 ≠ hl := AllNe.mem ⟨Ne.symm hO7.1, Nat.ne_of_lt hlt2, Nat.ne_of_lt (Nat.lt_trans hlt1 hlt2), Nat.ne_of_lt (Nat.lt_trans hlt3 (Nat.lt_trans hlt1 hlt2)), Ne.symm hO8.1, AllNe.of hq1⟩
      have hdk1 : NoCtl 53 (Str.ofString (toString ((k : Nat) : Int))) := hdk.1
      have hdk2 : (Str.ofString (toString ((k : Nat) : Int))).length ≤ 100 := hdk.2
      k_steps
      · unfold Hold
        (with_reducible rename News _ _ _ _ => hN5)
        with_unfolding_all refine' Does.use ?py1 ?py2 ?py3 ?py4 ?py5 ?py6 (addh w xh dx hl its4 hc4 nd hsh tk0 _ _ _ _ ((J, oJ) :: (xh, instObj 182 dx) :: (dx, dictOf [⟨hsh, .str (Str.ofString "_headers") tk0, .ref hl⟩] nd) :: (Lc + 1, oD) :: (I, oI) :: nw4) ?pya ?pyb ?pyc ?pyd ?pye ?pyf ?pyg) ?py11 ?py12 ?_
        case py1 => k_asm
        case py2 => k_asm
        case py3 => k_asm
        case py4 => exact cb_drop hN5 (by intro p hp; simp only [List.mem_cons] at hp ⊢; rcases hp with hp | hp | hp | hp | hp | hp | hp <;> simp only [hp, true_or, or_true])
        case py5 => k_asm
        case py6 => first | exact rfl | assumption
        case pya => exact List.Mem.tail _ (List.Mem.head _)
        case pyb => exact List.Mem.tail _ (List.Mem.tail _ (List.Mem.head _))
        case pyc => exact hne5
        case pyd => exact hsz5
        case pye => exact hz7
        case pyf => exact hdk1
        case pyg => exact hdk2
        case py11 => ktr_room
        case py12 => ktr_units
        rintro r9 news9 h9 tk9 ⟨rfl, tp5, t5, u5, n5, c5, rfl, l5, m5⟩ F9 N9
        (try dsimp only); (try k_fold)
        k_steps
        refine kend (its4.push (.ref tp5), c5, (tp5, ({ cls := .type "tuple", data := .seq #[.str (Txt.upper (if c = 48 then lft else rgt)) t5, .str (dig k) u5] n5 } : Obj)) :: nw4) (by assumption) N9 ⟨push_row hH4 (by rw [Array.getElem?_toList]; exact hc) (row_odd (by assumption)) hz8, push_le hsz4, fun p hp => List.mem_cons_of_mem _ (hsub4 p hp), ne_cons m5 hq1, ne_cons (l5 _ (List.Mem.tail _ (List.Mem.head _))) hq2, ne_cons (l5 _ (List.Mem.tail _ (List.Mem.tail _ (List.Mem.head _)))) hq3, ne_cons (l5 _ (List.Mem.tail _ (List.Mem.tail _ (List.Mem.tail _ (List.Mem.head _))))) hq4, ne_cons (l5 _ (List.Mem.tail _ (List.Mem.tail _ (List.Mem.tail _ (List.Mem.tail _ (List.Mem.head _)))))) hq5⟩ (fun p hp => absurd hp List.not_mem_nil) (by (intro z h2 h3; simp only [List.contains_cons, List.contains_nil, Bool.or_false, Bool.or_eq_false_iff, beq_eq_false_iff_ne, ne_eq] at h3; simp [kstB, h3])) (by intro p hp; simp only [List.mem_cons] at hp ⊢; rcases hp with hp | hp | hp | hp | hp | hp | hp | hp <;> simp only [hp, dig, true_or, or_true]) ⟨hO7.1, hO7.2.1, hO7.2.2.1, hO7.2.2.2.1, hO7.2.2.2.2.1, Nat.ne_of_gt (l5 _ (List.Mem.head _)), hO7.2.2.2.2.2⟩ (fun p hp => absurd hp List.not_mem_nil)
      · unfold Hold
        (with_reducible rename News _ _ _ _ => hN5)
        with_unfolding_all refine' Does.use ?qy1 ?qy2 ?qy3 ?qy4 ?qy5 ?qy6 (addh w xh dx hl its4 hc4 nd hsh tk0 _ _ _ _ ((J, oJ) :: (xh, instObj 182 dx) :: (dx, dictOf [⟨hsh, .str (Str.ofString "_headers") tk0, .ref hl⟩] nd) :: (Lc + 1, oD) :: (I, oI) :: nw4) ?qya ?qyb ?qyc ?qyd ?qye ?qyf ?qyg) ?qy11 ?qy12 ?_
        case qy1 => k_asm
        case qy2 => k_asm
        case qy3 => k_asm
        case qy4 => exact cb_drop hN5 (by intro p hp; simp only [List.mem_cons] at hp ⊢; rcases hp with hp | hp | hp | hp | hp | hp | hp <;> simp only [hp, true_or, or_true])
        case qy5 => k_asm
        case qy6 => first | exact rfl | assumption
        case qya => exact List.Mem.tail _ (List.Mem.head _)
        case qyb => exact List.Mem.tail _ (List.Mem.tail _ (List.Mem.head _))
        case qyc => exact hne5
        case qyd => exact hsz5
        case qye => exact hz6
        case qyf => exact hdk1
        case qyg => exact hdk2
        case qy11 => ktr_room
        case qy12 => ktr_units
        rintro r9 news9 h9 tk9 ⟨rfl, tp5, t5, u5, n5, c5, rfl, l5, m5⟩ F9 N9
        (try dsimp only); (try k_fold)
        k_steps
        refine kend (its4.push (.ref tp5), c5, (tp5, ({ cls := .type "tuple", data := .seq #[.str (if c = 48 then lft else rgt) t5, .str (dig k) u5] n5 } : Obj)) :: nw4) (by assumption) N9 ⟨push_row hH4 (by rw [Array.getElem?_toList]; exact hc) (row_even (by assumption)) hz5, push_le hsz4, fun p hp => List.mem_cons_of_mem _ (hsub4 p hp), ne_cons m5 hq1, ne_cons (l5 _ (List.Mem.tail _ (List.Mem.head _))) hq2, ne_cons (l5 _ (List.Mem.tail _ (List.Mem.tail _ (List.Mem.head _)))) hq3, ne_cons (l5 _ (List.Mem.tail _ (List.Mem.tail _ (List.Mem.tail _ (List.Mem.head _))))) hq4, ne_cons (l5 _ (List.Mem.tail _ (List.Mem.tail _ (List.Mem.tail _ (List.Mem.tail _ (List.Mem.head _)))))) hq5⟩ (fun p hp => absurd hp List.not_mem_nil) (by (intro z h2 h3; simp only [List.contains_cons, List.contains_nil, Bool.or_false, Bool.or_eq_false_iff, beq_eq_false_iff_ne, ne_eq] at h3; simp [kstB, h3])) (by intro p hp; simp only [List.mem_cons] at hp ⊢; rcases hp with hp | hp | hp | hp | hp | hp | hp | hp <;> simp only [hp, dig, true_or, or_true]) ⟨hO7.1, hO7.2.1, hO7.2.2.1, hO7.2.2.2.1, hO7.2.2.2.2.1, Nat.ne_of_gt (l5 _ (List.Mem.head _)), hO7.2.2.2.2.2⟩ (fun p hp => absurd hp List.not_mem_nil)
end
section
section
variable {prog : Program} {w : World} {A : Around} {E : Value → Shared → Prop} {s : Shared} {h₀ : Heap} {L l d : Addr} {m : Str → Option Value} {news : List (Addr × Obj)} {Q : Value → Shared → Prop}
theorem my_keys {o : Obj} {kvs : List (Str × Value)} (hh : A.handled = none) (F : Fr h₀ L s.heap m) (N : News h₀ L s.heap news) (hm : (d, o) ∈ news) (ho : o.IsDictOf (PySem.strKind prog w) kvs) (lo : (d == sysModules) = false) (hc : kvs.length ≤ 1000)
    (h : ∀ (B : Addr) (n : Nat) h' tk vs, Fr h₀ L h' m → News h₀ L h' ((B, listOf vs.toArray n) :: news) → (∀ q ∈ news, q.1 < B) → StrsAre vs (kvs.map (·.1)) → Q (.ref B) { s with heap := h', toks := tk }) :
    wpAny (model prog w) A (call (.type "list") [.ref d]) Q E s := by
  have hg := (N _ hm).1
  obtain ⟨es, ep, a, b, c, e, f⟩ := ho
  have hD : s.heap.DictAt (PySem.strKind prog w) d kvs ep := ⟨o, es, hg, a, b, c, e, f⟩
  refine kdl_N (kdl_dict (knd := PySem.strKind prog w) (kvs := kvs) (ep := ep) lo) hh F N hD (kdl_size (by omega)) fun B n h' tk vs F' N' l1 hl hv => ?_
  refine h B n h' tk vs F' N' l1 (kdy_strs (by rw [hl, List.length_map]) fun j v hvj => ?_)
  obtain ⟨k, x, hx, hk⟩ := hv j v hvj
  obtain ⟨t, rfl⟩ := Value.isStrOf_shape hk
  exact ⟨k, by rw [List.getElem?_map, hx]; rfl, t, rfl⟩
theorem strs_rev : ∀ {vs : List Value} {ss : List Str}, StrsAre vs ss → StrsAre vs.reverse ss.reverse
  | _, _, .nil => .nil
  | _, _, .cons x t h => by
    rw [List.reverse_cons, List.reverse_cons]
    exact strs_app (strs_rev h) (.cons x t .nil)
theorem my_rev {value slice : PySem.Expr} {vs : List Value} {ss : List Str} {n : Nat} {vk : Value} {ops : List Value} (F : Fr h₀ L s.heap m) (N : News h₀ L s.heap news) (hm : (l, W.listOf vs.toArray n) ∈ news) (hs9 : StrsAre vs ss) (pk : IsPart vk (some (-1))) (hz : ss.length ≤ 1000)
    (h : ∀ D zs h', Fr h₀ L h' m → News h₀ L h' ((D, listOf (List.toArray zs) 0) :: news) → (∀ p ∈ news, p.1 < D) → StrsAre zs ss.reverse → Q (.ref D) { s with heap := h' })
    (hs : subscripted slice false (.ref l) (.ref s.heap.objs.size) = operate ops (getItem (.ref l) (.ref s.heap.objs.size))) (ht : ∀ r, letTemporaryGo value (.ref l) r = pure ()) :
    wpAny (model prog w) A (subscriptTail value slice (.ref l) (.ref s.heap.objs.size)) Q E { s with heap := s.heap.push { cls := .type "slice", data := .fields #[.none, .none, vk] } } :=
  krv_lit (its := vs.toArray) (zs := vs.reverse) F N (N.isList hm) pk rfl (fun D h' F' N' l1 => h D vs.reverse h' F' N' l1 (strs_rev hs9)) hs ht (by rw [sizeLine_eq, List.size_toArray, strs_len hs9]; omega)
end
local macro_rules | `(tactic| k_all) => `(tactic| first | assumption | exact below_ne (by assumption))
local macro_rules | `(tactic| k_mem) => `(tactic| assumption)
local macro_rules | `(tactic| walk_at "exec For Name Subscript cons nil") => `(tactic| (k_here; refine Hold.of ?_))
local macro_rules | `(tactic| walk_at "pyIter ref") => `(tactic| (k_here; refine Hold.of ?_))
local macro_rules | `(tactic| walk_at "CompSrc") => `(tactic| (refine Hold.of ?_))
local macro_rules | `(tactic| lcg_src) => `(tactic| exact List.Mem.head _)
local macro_rules | `(tactic| walk_at "call type:list") => `(tactic| (k_here; k_dflt (refine' my_keys ?z1 ?z2 ?z3 ?z4 ?z5 ?z6 ?z7 ?_; (case z1 => with_unfolding_all exact rfl); (case z2 => k_asm); (case z3 => k_asm); (case z4 => k_mem); (case z5 => assumption); (case z6 => assumption); (case z7 => assumption)); intro B9 n9 h9 tk9 vs9 F9 N9 l9 hy9; (try k_lt l9)))
local macro_rules | `(tactic| walk_at "subscriptTail Call Name cons nil Slice ref ref") => `(tactic| (k_here; k_dflt (refine kba_turn (value' := PySem.Expr.Name (PySem.Str.ofString "_") ⟨0, 0, 0, 0⟩) (fun _ => rfl) ?_; refine' my_rev ?z1 ?z2 ?z3 ?z4 ?z5 ?z6 ?_ ?z7 ?z8; (case z1 => k_asm); (case z2 => k_asm); (case z3 => exact List.Mem.head _); (case z4 => assumption); (case z5 => exact IsPart.int _ _); (case z6 => (rw [List.length_map]; assumption)); (case z7 => with_unfolding_all rfl); (case z8 => exact fun _ => rfl)); intro D9 zs9 h9 F9 N9 l9 hy9; (try k_lt l9)))
local macro_rules | `(tactic| walk_at "subscriptTail Name Name ref str") => `(tactic| (k_here; k_dflt (refine' kda_item (knd := PySem.strKind _ _) ?z1 ?z2 ?z3 (strKind_is _ _ _ _) ?z4 ?_; (case z1 => k_asm); (case z4 => assumption); (case z2 => k_mem); (case z3 => assumption))))
local macro_rules | `(tactic| walk_at "eval ListComp") => `(tactic| (k_here; k_dflt (refine LCg.ListComp_U (F₀ := by k_asm) (by with_unfolding_all rfl) (by decide) (by rfl) (by decide) (by rfl) ?_)))
local macro_rules | `(tactic| walk_at "CompEnd") => `(tactic| ((with_reducible rename News _ _ _ _ => hN9); (with_reducible rename LCg.Off3 _ _ _ _ => hO9); refine LCg.CompEnd.intro (by assumption) hN9 _ (fun p hp => by (repeat' (first | exact hp | refine List.Mem.tail _ ?_))) hO9 (by first | exact trivial | lcg_src) ⟨rfl, ?_⟩))
local macro_rules | `(tactic| walk_at "subscriptTail Subscript") => `(tactic| (k_here; k_dflt (refine' my_item ?N ?m ?i ?f ?g ?z ?_; (case N => k_asm); (case m => k_mem); (case i => assumption); (case f => assumption); (case g => assumption); (case z => assumption)); intro t'))
theorem ints_at : ∀ {vs : List Value} {ns : List Int}, IntsAre vs ns → ∀ (i : Nat) (v : Value), vs[i]? = some v → ∃ n t, ns[i]? = some n ∧ v = .int n t
  | _, _, .nil, i, v, h => by simp at h
  | _, _, .cons n t r, 0, v, h => ⟨n, t, rfl, by simpa using h.symm⟩
  | _, _, .cons n t r, i + 1, v, h => ints_at r i v (by simpa using h)
theorem ints_snoc {zs : List Value} {L : List Int} {f : Int → Int} {i : Nat} {n : Int} {t : Tok} (h : L[i]? = some n) (hz : IntsAre zs ((L.take i).map f)) : IntsAre (zs ++ [.int (f n) t]) ((L.take (i + 1)).map f) := by
  rw [List.take_add_one, h, List.map_append]
  exact ksk_snoc hz
theorem ne_cons3 {x tp : Addr} {o : Obj} {nw : List (Addr × Obj)} (h : @Ne Nat tp x) (hq : ∀ p ∈ nw, p.1 ≠ x) : ∀ p ∈ (tp, o) :: nw, p.1 ≠ x := fun p hp => by
  rcases List.mem_cons.mp hp with rfl | hp
  · exact h
  · exact hq p hp
structure ClimbAt (w : World) (news : List (Addr × Obj)) (dc dp : Addr) (keys : List Str) (Pl : Str → Option (List Int)) : Prop where
  cuts : ∃ o kvs, (dc, o) ∈ news ∧ o.IsDictOf (PySem.strKind Challenge.rw_pm0054_01.row.prog w) kvs ∧ kvs.length ≤ 1000 ∧ (dc == sysModules) = false ∧ kvs.map (·.1) = keys
  places : ∃ o kvs, (dp, o) ∈ news ∧ o.IsDictOf (PySem.strKind Challenge.rw_pm0054_01.row.prog w) kvs ∧ kvs.length ≤ 10 ∧ ∀ part ps, Pl part = some ps → ∃ a ys n, valueAt kvs part = some (.ref a) ∧ (a, listOf (List.toArray ys) n) ∈ news ∧ IntsAre ys ps ∧ ps.length < 1000
theorem climb (w : World) (dc dp : Addr) (x : Str) (t : Tok) (keys : List Str) (Pl : Str → Option (List Int)) (C : Nat → List Int → Prop) (ps0 : List Int) (news : List (Addr × Obj)) (hT : ClimbAt w news dc dp keys Pl)
   (h0 : Pl x = some ps0) (h1 : C 0 ps0)
   (hW : ∀ i node sp, keys.reverse[i]? = some node → C i sp → sp.length < 1000 ∧ node.length < 1000 ∧
     ((Builtin.Str.occurrences node x 0 node.length 1).isEmpty = false → node ≠ Str.ofString "abcd" → ∃ ps, Pl node = some ps ∧ (∀ s ∈ sp, 0 ≤ s ∧ s < ps.length) ∧ C (i + 1) (sp.map fun s => ps.getD s.toNat 0)) ∧
     (((Builtin.Str.occurrences node x 0 node.length 1).isEmpty = true ∨ node = Str.ofString "abcd") → C (i + 1) sp))
   : Does w 4 233 [.ref dc, .ref dp, .str x t] news (fun r news' => ∃ a ys n sp, r = .ref a ∧ (∀ p ∈ news, p ∈ news') ∧ (a, listOf (List.toArray ys) n) ∈ news' ∧ IntsAre ys sp ∧ C keys.length sp) := by
  k_with_none
  w_top off
  obtain ⟨oc, kvc, hdc, hoc, hcl, hlo, hkeys⟩ := hT.cuts
  obtain ⟨op, kvp, hdp, hop, hpl, hpP⟩ := hT.places
  obtain ⟨pa, ys0, pn, hva, hpa, hi0, hl0⟩ := hpP _ _ h0
  unfold Does
  k_fill
  intro dp' un gd cn cs a ccd cl outer A₀ base h₀ L m mg mb mean s Q E B F X N T hk hd hu hret
  refine wpAny_call ?_
  refine' code_defC ?k1 ?k2 ?k3 ?k4 ?k5 ?kA ?kF ?kK ?k6 ?k7 ?k8 ?k9 ?kB ?kD ?_ ?c2 ?c3 ?c4; (case kA => exact rfl); (case kF => exact rfl); (case kK => assumption); (case k1 => k_asm); (case k2 => k_asm); (case k3 => k_asm); (case k4 => k_asm); (case k5 => k_asm); (case k6 => k_is); (case k7 => k_is); (case k8 => ktr_room); (case k9 => (refine' kp_binds ?kx ?ke; (case kx => k_in); (case ke => exact fun _ => rfl))); (case kB => exact rfl); (case kD => decide +kernel); (case c2 => exact rfl); (case c3 => exact rfl); (case c4 => exact rfl); k_whole; intro g1 Lc h1 tk1 cells1 FG1 F1 N1 Y1 B1 X1 T1 l1; (try k_lt l1); k_cells Y1; (try simp only [List.cons_append, List.nil_append] at N1); (try dsimp only); (try k_fold)
  rename_i oA oB dA dB
  replace dA : oA.data = Data.cell none := dA
  replace dB : oB.data = Data.cell (some (.ref dp)) := dB
  k_steps
  unfold Hold
  k_dflt (refine' For_invTF ?zg0 ?zg1 ?zg2 ?zg3; (case zg0 => k_asm); (case zg2 => exact fun _ => rfl); (case zg3 => first | passes_own | with_unfolding_all passes_own))
  k_steps
  unfold Hold
  (with_reducible rename News _ _ _ _ => hN9)
  (with_reducible rename Fr _ _ _ _ => hF9)
  (with_reducible rename StrsAre _ _ => hy9)
  (with_reducible rename _ ∧ _ ∧ _ ∧ AllLt _ news => hl9)
  rename_i D9 zs9 h9
  have hN8 := cb_drop hN9 (show ∀ p ∈ (D9, W.listOf zs9.toArray 0) :: (Lc + 1, oB) :: (Lc + 1 + 1, oA) :: news, p ∈ _ from by intro p hp; simp only [List.mem_cons] at hp ⊢; rcases hp with hp | hp | hp | hp <;> simp only [hp, true_or, or_true])
  rw [hkeys] at hy9
  have hlen : (List.toArray zs9).size = keys.length := by rw [List.size_toArray, strs_len hy9, List.length_reverse]
  refine iter_list (by with_unfolding_all rfl) (ksw_fr0 [Str.ofString "node", Str.ofString "spots"] [(Str.ofString "spots", .ref pa)] (by kst_all) hF9) hN8 (List.Mem.head _) ?_
  refine for_K (σ := Addr × List Value × Nat × List Int × Obj × List (Addr × Obj)) [Str.ofString "node", Str.ofString "spots"] (fun _ c => [(Str.ofString "spots", .ref c.1)]) (fun _ c => (D9, W.listOf zs9.toArray 0) :: (Lc + 1, oB) :: (Lc + 1 + 1, c.2.2.2.2.1) :: c.2.2.2.2.2) (fun i c => (c.1, W.listOf (List.toArray c.2.1) c.2.2.1) ∈ c.2.2.2.2.2 ∧ IntsAre c.2.1 c.2.2.2.1 ∧ C i c.2.2.2.1 ∧ (∃ v, c.2.2.2.2.1.data = Data.cell v) ∧ (∀ p ∈ news, p ∈ c.2.2.2.2.2) ∧ (∀ p ∈ c.2.2.2.2.2, p.1 ≠ Lc + 1) ∧ (∀ p ∈ c.2.2.2.2.2, p.1 ≠ Lc + 1 + 1) ∧ (∀ p ∈ c.2.2.2.2.2, p.1 ≠ D9)) (pa, ys0, pn, ps0, oA, news) ?st ?tu ?fi
  case st => exact ⟨hpa, hi0, by assumption, ⟨_, dA⟩, fun _ h => h, below_ne (L := Lc) (k := 1) l1, below_ne (L := Lc) (k := 2) l1, fun p hp => Nat.ne_of_lt (tb_ltOf hl9.2.2.2 p hp)⟩
  case fi =>
    rintro u ⟨pz, ysz, nz, spz, oC, nw⟩ ⟨hpz, hiz, hcz, ⟨v0, hv0⟩, hsub, hn1, hn2, hn3⟩ h tk hF8 hN8
    dsimp only at hpz hiz hcz hv0 hsub hn1 hn2 hn3 hF8 hN8
    replace hF8 : Fr g1 Lc h _ := hF8
    replace hN8 : News g1 Lc h _ := hN8
    k_steps
    (with_reducible rename News _ _ _ _ => hN4)
    exact hret _ nw _ _ ⟨pz, ysz, nz, spz, rfl, hsub, hpz, hiz, hlen ▸ hcz⟩ (by assumption) (cb_drop hN4 (by intro p hp; simp only [List.mem_cons] at hp ⊢; simp only [hp, true_or, or_true]))
  case tu =>
    rintro i v I oI h g d tk os u ⟨pz, ysz, nz, spz, oC, nw⟩ hi hv ⟨hpz, hiz, hcz, ⟨v0, hv0⟩, hsub, hn1, hn2, hn3⟩ hF8 hN8 hO8
    obtain ⟨node, tn, hnode, rfl⟩ := strs_at hy9 i v (by simpa using hv)
    obtain ⟨hs1, hs2, hst1, hst2⟩ := hW i node spz hnode hcz
    dsimp only at hpz hiz hcz hv0 hsub hn1 hn2 hn3 hF8 hN8 hO8
    simp only [AllNe] at hO8
    replace hF8 : Fr g1 Lc h _ := hF8
    replace hN8 : News g1 Lc h _ := hN8
    k_steps
    · rename_i hz oz Fz Nz dz az
      refine kend (pz, ysz, nz, spz, oz, nw) Fz Nz ⟨hpz, hiz, hst2 (.inl az), ⟨_, dz⟩, hsub, hn1, hn2, hn3⟩ (by kst_all) (by intro z h2 h3; simp only [List.forall_mem_cons, List.not_mem_nil, false_implies, implies_true, and_true, ne_eq] at h2; simp only [List.contains_cons, List.contains_nil, Bool.or_false, Bool.or_eq_false_iff, beq_eq_false_iff_ne, ne_eq] at h3; simp [kstB, h2, h3]) (by intro p hp; simp only [List.mem_cons] at hp ⊢; rcases hp with hp | hp | hp | hp | hp <;> simp only [hp, true_or, or_true]) hO8 (fun p hp => by rw [List.mem_singleton.mp hp]; exact List.Mem.head _)
    · unfold Hold
      (with_reducible rename News _ _ _ _ => hN7)
      (with_reducible rename Fr _ _ _ _ => hF7)
      (with_reducible rename List.isEmpty _ = false => ha1)
      (with_reducible rename Obj.data _ = Data.cell (some _) => hc9)
      (with_reducible rename Obj => oE)
      (with_reducible rename (node != Str.ofString "abcd") = true => ha2)
      obtain ⟨ps, hps, hin, hC⟩ := hst1 ha1 (by simpa using ha2)
      obtain ⟨na, ysn, nn, hvn, hpn, hin2, hln⟩ := hpP _ _ hps
      have hpn' := hsub _ hpn
      have hdp' := hsub _ hdp
      have hzz : (List.toArray ysz).size = spz.length := by rw [List.size_toArray]; exact hiz.length
      refine LCg.CompSrc.ledger (by rfl) hF7 hN7 (by k_mem) (small_ok (by rw [hzz]; exact hs1)) ?_
      intro g0
      refine comp_const (fun i zs => IntsAre zs ((spz.take i).map fun s => ps.getD s.toNat 0)) ?start ?turn ?fin
      case start => exact IntsAre.nil
      case turn =>
        intro i9 v9 I9 oI9 C9 oC9 D8 m₂ zs h9 tk9 E9 hi9 hv9 hJ9 hC9 hx9 F9 N9 off9 ne9
        obtain ⟨n9, t9, hn9, rfl⟩ := ints_at hiz i9 v9 (by simpa using hv9)
        obtain ⟨hge, hlt⟩ := hin n9 (List.mem_of_getElem? hn9)
        have hin3 : IntsAre (List.toArray ysn).toList ps := by simpa using hin2
        k_steps
        exact ints_snoc hn9 hJ9
      case fin =>
        intro zs hJ9
        rw [hzz, List.take_length] at hJ9
        k_steps
        rename_i Dz hz tkz Fz Nz oz
        refine kend (Dz, zs, zs.length, _, oE, (Dz, LCg.lst zs) :: nw) Fz Nz ⟨(show (Dz, LCg.lst zs) ∈ (Dz, LCg.lst zs) :: nw from List.Mem.head _), hJ9, hC, ⟨_, hc9⟩, fun p hp => List.Mem.tail _ (hsub p hp), ne_cons3 (Ne.symm oz.2.2.1) hn1, ne_cons3 (Ne.symm oz.2.2.2.1) hn2, ne_cons3 (Ne.symm oz.2.1) hn3⟩ (by kst_all) (by intro z h2 h3; simp only [List.forall_mem_cons, List.not_mem_nil, false_implies, implies_true, and_true, ne_eq] at h2; simp only [List.contains_cons, List.contains_nil, Bool.or_false, Bool.or_eq_false_iff, beq_eq_false_iff_ne, ne_eq] at h3; simp [kstB, h2, h3]) (by intro p hp; simp only [List.mem_cons] at hp ⊢; rcases hp with hp | hp | hp | hp | hp | hp <;> simp only [hp, true_or, or_true]) ⟨hO8.1, hO8.2.1, hO8.2.2.1, Ne.symm oz.1, hO8.2.2.2⟩ (fun p hp => by rw [List.mem_singleton.mp hp]; exact List.Mem.head _)
    · rename_i hz oz Fz Nz dz tkz a1 a2
      refine kend (pz, ysz, nz, spz, oz, nw) Fz Nz ⟨hpz, hiz, hst2 (.inr (by simpa using a2)), ⟨_, dz⟩, hsub, hn1, hn2, hn3⟩ (by kst_all) (by intro z h2 h3; simp only [List.forall_mem_cons, List.not_mem_nil, false_implies, implies_true, and_true, ne_eq] at h2; simp only [List.contains_cons, List.contains_nil, Bool.or_false, Bool.or_eq_false_iff, beq_eq_false_iff_ne, ne_eq] at h3; simp [kstB, h2, h3]) (by intro p hp; simp only [List.mem_cons] at hp ⊢; rcases hp with hp | hp | hp | hp | hp <;> simp only [hp, true_or, or_true]) hO8 (fun p hp => by rw [List.mem_singleton.mp hp]; exact List.Mem.head _)
end
section
section
variable {prog : Program} {w : World} {A : Around} {E : Value → Shared → Prop} {s : Shared} {h₀ : Heap} {L : Addr} {m : Str → Option Value} {news : List (Addr × Obj)}
theorem items_signs {x : Str} {acc : Array Value} (h : ItemsOf (SignAt x) acc x.cps.size) : StrsAre acc.toList (signsOf x) := by
  refine kdy_strs (by simp [signsOf, h.1]) fun j v hv => ?_
  obtain ⟨c, u, hc, rfl⟩ := h.2 j v (by simpa using hv)
  exact ⟨⟨#[c]⟩, signs_at x j c hc, u, rfl⟩
theorem my_sorted {x : Str} {t : Tok} {Q : Value → Shared → Prop} (hh : A.in1.in1.handled = none ∧ A.in1.handled = none ∧ A.handled = none) (F : Fr h₀ L s.heap m) (N : News h₀ L s.heap news) (h64 : x.cps.size < 64)
    (h : ∀ (D : Addr) (n : Nat) h' tk vs ss, Fr h₀ L h' m → News h₀ L h' ((D, W.listOf (List.toArray vs) n) :: news) → (∀ q ∈ news, q.1 < D) → StrsAre vs ss → ss.Perm (signsOf x) → sortedS ss = true → Q (.ref D) { s with heap := h', toks := tk }) :
    wpAny (model prog w) A (call (.builtin "sorted") [.str x t]) Q E s := by
  refine Calls.call_function_entry kind_sorted plain_sorted entry_sorted (args_sorted1 _) ?_
  unfold Builtin.«sorted»
  refine wpAny_bind (m := checkCount "sorted" 1 1 _) (wpAny_pure ?_)
  refine wpAny_bind (wpAny_collect_str (by first | exact hh.1 | exact hh.2.1 | exact hh.2.2) x t (fun s' acc hk hg hd ho hacc => ?_) (by rw [sizeLine_eq]; omega))
  obtain ⟨h1, g1, d1, tk1, os1⟩ := s'
  dsimp only at hg hd ho hk
  subst hg hd ho
  have hS := items_signs hacc
  have hl64 : acc.toList.length < 64 := by rw [Array.length_toList, hacc.1]; exact h64
  refine wpAny_bind (wpAny_newList ?_ (by rw [sizeLine_eq]; omega))
  have hoL : (h1.push (seqObj "list" acc.toList.toArray 0)).get? h1.objs.size = some (seqObj "list" acc.toList.toArray 0) := Heap.get?_push_size _ rfl
  refine wpAny_bind (wpAny_holding (wpAny_call_entry slot_list_sort ⟨_, hoL, rfl⟩ entry_list_sort (list_sort_treeK strKind_oneLt hoL hS.keysOf (fun v₁ v₂ rest e => keyKind_strs (by rw [← e]; exact hS)) hl64 fun st' a1 a2 => ⟨_, rfl, ?_⟩) (args_list_sort _)))
  refine wpAny_pure ⟨_, rfl, ?_⟩
  obtain ⟨ss', b1, b2, b3⟩ := sorted_out_str hS a1 a2
  have keep : ∀ b o, s.heap.get? b = some o → (sortedHeap (h1.push (seqObj "list" acc.toList.toArray 0)) h1.objs.size acc.toList ((arrOf st').map (·.2))).get? b = some o := fun b o e => by
    have e1 := hk b o e
    have hlt := Heap.lt_size e1
    rw [sortedHeap_old (Nat.ne_of_lt hlt) (by rw [size_push']; exact Nat.lt_succ_of_lt hlt), Heap.get?_push_ne _ _ _ (Nat.ne_of_lt hlt)]
    exact e1
  obtain ⟨e, he⟩ := sortedHeap_at (out := (arrOf st').map (·.2)) hoL
  refine h h1.objs.size e _ _ ((arrOf st').map (·.2)).toList ss' (F.kept keep) ?_ (fun q hq => ?_) b1 b2 b3
  · rw [Array.toArray_toList]
    intro p hp
    rcases List.mem_cons.mp hp with rfl | hp
    · refine ⟨he, ?_, ?_⟩
      · obtain ⟨oL, _, _, hL, _⟩ := F.ns
        exact Nat.ne_of_gt (Heap.lt_size (hk _ _ hL))
      · cases e0 : h₀.get? h1.objs.size with
        | none => rfl
        | some o => exact absurd (Heap.lt_size (hk _ _ (F.keep _ _ e0))) (Nat.lt_irrefl _)
    · exact ⟨keep _ _ (N p hp).1, (N p hp).2⟩
  · exact Heap.lt_size (hk _ _ (N q hq).1)
end
/-- rows of sign and two counts -/
inductive Rows3 (news : List (Addr × Obj)) : List Value → List (Str × Int × Int) → Prop
  | nil : Rows3 news [] []
  | cons {a : Addr} {n : Nat} {c : Str} {i j : Int} {t0 t1 t2 : Tok} {vs : List Value} {R : List (Str × Int × Int)} : (a, W.listOf #[.str c t0, .int i t1, .int j t2] n) ∈ news → Rows3 news vs R → Rows3 news (.ref a :: vs) ((c, i, j) :: R)
theorem Rows3.grow {news news' : List (Addr × Obj)} (hs : ∀ p ∈ news, p ∈ news') : ∀ {vs : List Value} {R : List (Str × Int × Int)}, Rows3 news vs R → Rows3 news' vs R
  | _, _, .nil => .nil
  | _, _, .cons hm r => .cons (hs _ hm) (r.grow hs)
theorem Rows3.snoc {news : List (Addr × Obj)} {a : Addr} {n : Nat} {c : Str} {i j : Int} {t0 t1 t2 : Tok} (hm : (a, W.listOf #[.str c t0, .int i t1, .int j t2] n) ∈ news) : ∀ {vs : List Value} {R : List (Str × Int × Int)}, Rows3 news vs R → Rows3 news (vs ++ [.ref a]) (R ++ [(c, i, j)])
  | _, _, .nil => .cons hm .nil
  | _, _, .cons h r => .cons h (r.snoc hm)
def rowD (r : Str × Int × Int) : PyData := .list [.str r.1, .int r.2.1, .int r.2.2]
theorem Rows3.reads {h₀ h : Heap} {L : Addr} {news : List (Addr × Obj)} (N : News h₀ L h news) : ∀ {vs : List Value} {R : List (Str × Int × Int)}, Rows3 news vs R → ∃ as, ReadsAll h vs (R.map rowD) as
  | _, _, .nil => ⟨_, .nil⟩
  | _, _, .cons hm r => by
    obtain ⟨as, ha⟩ := r.reads N
    exact ⟨_, .cons (.list (N _ hm).1 rfl rfl (.cons (.str _ _) (.cons (.int _ _) (.cons (.int _ _) .nil)))) ha⟩
theorem rowD_lay : ∀ R : List (Str × Int × Int), (∀ r ∈ R, PyData.canLay0 (.str r.1) = true) → PyData.canLayAll0 (R.map rowD) = true ∧ PyData.depthAll (R.map rowD) ≤ 1
  | [], _ => ⟨rfl, Nat.zero_le _⟩
  | r :: R, h => by
    obtain ⟨h1, h2⟩ := rowD_lay R fun r hr => h r (List.mem_cons_of_mem _ hr)
    have h0 := h r List.mem_cons_self
    rw [List.map_cons]
    refine ⟨?_, ?_⟩
    · unfold PyData.canLayAll0
      rw [h1, Bool.and_true]
      simp only [rowD, PyData.canLay0, PyData.canLayAll0, Bool.and_true] at h0 ⊢
      exact h0
    · unfold PyData.depthAll
      have : PyData.depth (rowD r) = 1 := by simp [rowD, PyData.depth, PyData.depthAll]
      omega
section
variable {prog : Program} {w : World} {A : Around} {E : Value → Shared → Prop} {s : Shared} {h₀ : Heap} {L : Addr} {m : Str → Option Value} {news : List (Addr × Obj)} {Q : Value → Shared → Prop}
theorem ne_rows {a b : Addr} {xs ys : List Value} {n k : Nat} {R : List (Str × Int × Int)} (N : News h₀ L s.heap news) (ha : (a, W.listOf (List.toArray xs) n) ∈ news) (hb : (b, W.listOf (List.toArray ys) k) ∈ news) (hx : Rows3 news xs R) (hy : Rows3 news ys R) (hR : ∀ r ∈ R, PyData.canLay0 (.str r.1) = true) (hu : A.units + 64 < cLine) (h : Q (.bool false) s) :
    wpAny (model prog w) A (compareOp .NotEq (.ref a) (.ref b)) Q E s := by
  obtain ⟨as, rx⟩ := hx.reads N
  obtain ⟨bs, ry⟩ := hy.reads N
  obtain ⟨c1, c2⟩ := rowD_lay R hR
  have c3 : PyData.canLay0 (.list (R.map rowD)) = true := by simpa [PyData.canLay0] using c1
  have c4 : PyData.depth (.list (R.map rowD)) ≤ 64 := by simp only [PyData.depth]; omega
  refine ne_dataH (da := .list (R.map rowD)) (db := .list (R.map rowD)) (.list (N _ ha).1 rfl rfl (by simpa using rx)) (.list (N _ hb).1 rfl rfl (by simpa using ry)) ?_ ?_ hu ?_
  · simp [SeqAt.shaped, c3, c4]
  · simp [SeqAt.shaped, c3, c4]
  · rw [SeqAt.eqv_refl _ c3]; exact h
theorem ne_ints {a b : Addr} {xs ys : List Value} {n k : Nat} {R : List Int} (N : News h₀ L s.heap news) (ha : (a, W.listOf (List.toArray xs) n) ∈ news) (hb : (b, W.listOf (List.toArray ys) k) ∈ news) (hx : IntsAre xs R) (hy : IntsAre ys R) (hu : A.units + 64 < cLine) (h : Q (.bool false) s) :
    wpAny (model prog w) A (compareOp .NotEq (.ref a) (.ref b)) Q E s := by
  refine ne_dataH (da := .list (R.map PyData.int)) (db := .list (R.map PyData.int)) (.list (N _ ha).1 rfl rfl (by simpa using hx.reads _)) (.list (N _ hb).1 rfl rfl (by simpa using hy.reads _)) (ke_shaped_ints _) (ke_shaped_ints _) hu ?_
  rw [SeqAt.eqv_refl _ (by have := ke_shaped_ints R; simp [SeqAt.shaped] at this; exact this.1)]; exact h
end
end
section
/-- the loop of cuts, step by step -/
inductive Run (fin : List (Str × Str × Str)) : Int → List Str → List (Str × Str × Str) → Nat → Prop
  | done {x : Int} : Run fin x [] fin 0
  | leaf {x : Int} {p : List Str} {node : Str} {rows : List (Str × Str × Str)} {k : Nat} : ¬ 1 < node.length → p.length < 10 → PyData.canLay0 (.str node) = true → (∀ s ∈ p, PyData.canLay0 (.str s) = true) → Run fin x p rows k → Run fin x (p ++ [node]) rows (k + 1)
  | cut {x : Int} {p : List Str} {node l r : Str} {rows : List (Str × Str × Str)} {k : Nat} : 1 < node.length → node.length < 1000 → p.length < 10 → rows.length < 10 → PyData.canLay0 (.str node) = true → (∀ s ∈ p, PyData.canLay0 (.str s) = true) →
      Txt.slice node none (some (1 + Int.fmod x ((node.length : Int) - 1))) = l → Txt.slice node (some (1 + Int.fmod x ((node.length : Int) - 1))) none = r → node ∉ rows.map (·.1) →
      Run fin (Int.fdiv x 3) (p ++ [l, r]) (rows ++ [(node, l, r)]) k → Run fin x (p ++ [node]) rows (k + 1)
structure CSt where
  k : Nat
  total : Int
  tt : Tok
  pa : Addr
  ys : List Value
  pn : Nat
  oC : Obj
  kvs : List (Str × Value)
  pile : List Str
  rows : List (Str × Str × Str)
  nw : List (Addr × Obj)
section
variable {prog : Program} {w : World} {A : Around} {E : Value → Shared → Prop} {s : Shared} {h₀ : Heap} {L : Addr} {m : Str → Option Value} {news : List (Addr × Obj)} {Q : Value → Shared → Prop}
theorem lay_strs : ∀ (ss : List Str), (∀ s ∈ ss, PyData.canLay0 (.str s) = true) → PyData.canLayAll0 (ss.map PyData.str) = true ∧ PyData.depthAll (ss.map PyData.str) ≤ 0
  | [], _ => ⟨rfl, Nat.le_refl _⟩
  | a :: ss, h => by
    obtain ⟨h1, h2⟩ := lay_strs ss fun r hr => h r (List.mem_cons_of_mem _ hr)
    have h0 := h a List.mem_cons_self
    rw [List.map_cons]
    refine ⟨?_, ?_⟩
    · unfold PyData.canLayAll0
      rw [h1, Bool.and_true]; exact h0
    · unfold PyData.depthAll
      have : PyData.depth (.str a) = 0 := by simp [PyData.depth]
      omega
theorem ne_nil {a b : Addr} {xs : List Value} {n k : Nat} {ss : List Str} (N : News h₀ L s.heap news) (ha : (a, W.listOf (List.toArray xs) n) ∈ news) (hb : (b, W.listOf (List.toArray []) k) ∈ news) (hx : StrsAre xs ss) (hl : ∀ s ∈ ss, PyData.canLay0 (.str s) = true) (hu : A.units + 64 < cLine) (h : Q (.bool (!ss.isEmpty)) s) :
    wpAny (model prog w) A (compareOp .NotEq (.ref a) (.ref b)) Q E s := by
  obtain ⟨c1, c2⟩ := lay_strs ss hl
  have c3 : PyData.canLay0 (.list (ss.map PyData.str)) = true := by simpa [PyData.canLay0] using c1
  have c4 : PyData.depth (.list (ss.map PyData.str)) ≤ 64 := by simp only [PyData.depth]; omega
  refine ne_dataH (da := .list (ss.map PyData.str)) (db := .list []) (.list (N _ ha).1 rfl rfl (by simpa using hx.reads _)) (.list (N _ hb).1 rfl rfl .nil) ?_ (by decide) hu ?_
  · simp [SeqAt.shaped, c3, c4]
  · have e : PyData.eqv (.list (ss.map PyData.str)) (.list []) = ss.isEmpty := by
      cases ss <;> simp [PyData.eqv, PyData.eqvAll]
    rw [e]; exact h
theorem my_last {value slice : PySem.Expr} {l : Addr} {vi : List Value} {v : Value} {n : Nat} {u : Tok} (N : News h₀ L s.heap news) (hm : (l, W.listOf (List.toArray (vi ++ [v])) n) ∈ news) (h : Q v s)
    (hs : subscripted slice false (.ref l) (.int (-1) u) = operate [.ref l, .int (-1) u] (getItem (.ref l) (.int (-1) u)) := by with_unfolding_all rfl) (hg : ∀ r, letTemporaryGo value (.ref l) r = pure () := by intro _; with_unfolding_all rfl) :
    wpAny (model prog w) A (subscriptTail value slice (.ref l) (.int (-1) u)) Q E s := item_last (N.isList hm) h hs hg
theorem pick_init (vi : List Value) (v : Value) : slicePick (List.toArray (vi ++ [v])) none (some (-1)) none = vi.toArray := by
  have hb : sliceBounds none (some (-1)) none (List.toArray (vi ++ [v])).size = (0, (vi.length : Int), 1) := by
    simp [sliceBounds]; omega
  have hr : sliceRange 0 (vi.length : Int) 1 = (List.range vi.length).map (0 + ·) := by
    unfold sliceRange
    have : ((vi.length : Int) - 0 + 1 - 1) / 1 = vi.length := by rw [Int.ediv_one]; omega
    by_cases h : (0 : Int) < vi.length
    · simp only [show (1 : Int) > 0 by decide, if_true, h, this, Int.toNat_natCast]
      apply List.map_congr_left
      intro k _; omega
    · have : vi = [] := by
        have : vi.length = 0 := by omega
        exact List.length_eq_zero_iff.mp this
      subst this; simp
  unfold slicePick
  rw [hb]
  show ((sliceRange 0 (vi.length : Int) 1).filterMap _).toArray = _
  rw [hr, pick_run]
  simp
theorem my_init {value slice : PySem.Expr} {l : Addr} {vi : List Value} {v vu : Value} {n : Nat} (F : Fr h₀ L s.heap m) (N : News h₀ L s.heap news) (hm : (l, W.listOf (List.toArray (vi ++ [v])) n) ∈ news) (pu : IsPart vu (some (-1))) (hz : vi.length < 1000)
    (h : ∀ D h', Fr h₀ L h' m → News h₀ L h' ((D, W.listOf (List.toArray vi) 0) :: news) → (∀ p ∈ news, p.1 < D) → Q (.ref D) { s with heap := h' })
    (hs : subscripted slice false (.ref l) (.ref s.heap.objs.size) = operate [.ref s.heap.objs.size, .ref l] (getItem (.ref l) (.ref s.heap.objs.size)) := by with_unfolding_all rfl) (ht : ∀ r, letTemporaryGo value (.ref l) r = pure () := by intro _; with_unfolding_all rfl) :
    wpAny (model prog w) A (subscriptTail value slice (.ref l) (.ref s.heap.objs.size)) Q E { s with heap := s.heap.push { cls := .type "slice", data := .fields #[.none, vu, .none] } } := by
  refine slice_list F N (N.isList hm) .none pu (fun h' F' N' => h _ h' F' ?_ fun p hp => Nat.lt_succ_of_lt (Heap.lt_size (N p hp).1)) hs ht (by rw [sizeLine_eq]; simp; omega)
  rw [pick_init] at N'
  exact N'
end
theorem CutRows.grow {news news' : List (Addr × Obj)} (hs : ∀ p ∈ news, p ∈ news') {kvs : List (Str × Value)} {T : List (Str × Str × Str)} (h : CutRows news kvs T) : CutRows news' kvs T := by
  induction h with
  | nil => exact .nil
  | cons hm _ ih => exact .cons (hs _ hm) ih
theorem CutRows.snoc {news : List (Addr × Obj)} {x l r : Str} {a : Addr} {n : Nat} {t1 t2 : Tok} (hm : (a, W.listOf #[.str l t1, .str r t2] n) ∈ news) {kvs : List (Str × Value)} {T : List (Str × Str × Str)} (h : CutRows news kvs T) : CutRows news (kvs ++ [(x, .ref a)]) (T ++ [(x, l, r)]) := by
  induction h with
  | nil => exact .cons hm .nil
  | cons hm' _ ih => exact .cons hm' ih
theorem CutRows.names {news : List (Addr × Obj)} {kvs : List (Str × Value)} {T : List (Str × Str × Str)} (h : CutRows news kvs T) : kvs.map (·.1) = T.map (·.1) := by
  induction h with
  | nil => rfl
  | cons _ _ ih => simp [ih]
theorem stored_fresh {kvs : List (Str × Value)} {k : Str} {v : Value} (h : k ∉ kvs.map (·.1)) : stored kvs k v = kvs ++ [(k, v)] := by
  unfold stored
  rw [if_neg]
  intro he
  obtain ⟨p, hp, e⟩ := List.any_eq_true.mp he
  exact h (List.mem_map.mpr ⟨p, hp, by simpa using e⟩)
local macro_rules | `(tactic| k_all) => `(tactic| first | assumption | exact below_ne (by assumption))
theorem valueAt_new {kvs : List (Str × Value)} {k : Str} {v : Value} (h : k ∉ kvs.map (·.1)) : valueAt (stored kvs k v) k = some v := by
  rw [stored_fresh h]
  unfold valueAt
  rw [List.find?_append]
  have : kvs.find? (fun kv => decide (kv.1 = k)) = none := by
    rw [List.find?_eq_none]
    intro p hp he
    exact h (List.mem_map.mpr ⟨p, hp, by simpa using he⟩)
  simp [this]
local macro_rules | `(tactic| k_mem) => `(tactic| assumption)
local macro_rules | `(tactic| walk_at "subscriptTail Name UnaryOp") => `(tactic| (k_here; k_dflt (refine' my_last ?z1 ?z2 ?_; (case z1 => k_asm); (case z2 => k_mem))))
local macro_rules | `(tactic| walk_at "subscriptTail Name Slice ref ref") => `(tactic| (k_here; k_dflt (refine' my_init ?z1 ?z2 ?z3 ?z4 ?z5 ?_; (case z1 => k_asm); (case z2 => k_asm); (case z3 => k_mem); (case z4 => exact IsPart.int _ _); (case z5 => omega)); intro D9 h9 F9 N9 l9; (try k_lt l9)))
local macro_rules | `(tactic| walk_at "call builtin:len") => `(tactic| (k_here; (with_reducible show wpAny _ _ (call (Value.builtin "len") [Value.str _ _]) _ _ _); k_dflt (refine' len_str ?z1 ?_; (case z1 => omega))))
local macro_rules | `(tactic| walk_at "setItem ref str") => `(tactic| (k_here; k_dflt (refine' kda_set (knd := PySem.strKind _ _) ?z1 ?z2 ?z3 ?z4 (strKind_is _ _ _ _) ?z5 ?_; (case z1 => k_asm); (case z2 => k_asm); (case z3 => k_updF); (case z4 => assumption); (case z5 => assumption)); intro h' o' F' N' hd'; (try dsimp only at N')))
local macro_rules | `(tactic| walk_at "subscriptTail Name Name ref str") => `(tactic| (k_here; k_dflt (refine' kda_item (knd := PySem.strKind _ _) ?z1 ?z2 ?z3 (strKind_is _ _ _ _) ?z4 ?_; (case z1 => k_asm); (case z2 => k_mem); (case z3 => assumption); (case z4 => exact valueAt_new (by assumption)))))
local macro_rules | `(tactic| walk_at "binaryOp Add ref ref") => `(tactic| (k_here; k_dflt (refine' my_cat ?z1 ?z2 ?z3 ?z4 ?z5 ?_; (case z1 => k_asm); (case z2 => k_asm); (case z3 => k_mem); (case z4 => k_mem); (case z5 => (simp only [List.length_cons, List.length_nil]; omega))); intro D' h' F' N' l1; (try k_lt l1)))
local macro_rules | `(tactic| walk_at "compareOp NotEq ref ref") => `(tactic| (k_here; refine Hold.of ?_))
theorem cutsG (w : World) (x : Int) (t : Tok) (news : List (Addr × Obj)) (fin : List (Str × Str × Str)) (k0 : Nat) (hR : Run fin x [Str.ofString "abcd"] [] k0)
   : Does w 4 209 [.int x t] news (fun r news' => ∃ dc, r = .ref dc ∧ (∀ p ∈ news, p ∈ news') ∧ CutsAt w news' dc fin) := by
  k_with_none
  w_top off
  k_with "exec While Compare cons nil" => refine Hold.of ?_
  unfold Does
  k_fill
  intro dp' un gd cn cs a ccd cl outer A₀ base h₀ L m mg mb mean s Q E B F X N T hk hd hu hret
  refine wpAny_call ?_
  k_dflt (refine' code_def ?k1 ?k2 ?k3 ?k4 ?k5 ?kA ?kF ?kK ?k6 ?k7 ?k8 ?k9 ?kB ?_ ?c2 ?c3 ?c4 ?c5; (case kA => exact rfl); (case kF => exact rfl); (case kK => assumption); (case k1 => k_asm); (case k2 => k_asm); (case k3 => k_asm); (case k4 => k_asm); (case k5 => k_asm); (case k6 => k_is); (case k7 => k_is); (case k8 => ktr_room); (case k9 => (refine' kp_binds ?kx ?ke; (case kx => k_in); (case ke => exact fun _ => rfl))); (case kB => exact locs rfl); (case c5 => decide); (case c2 => exact rfl); (case c3 => exact rfl); (case c4 => exact rfl); k_whole; intro g1 Lc h1 FG1 F1 N1 B1 X1 T1; (try dsimp only); (try k_fold))
  k_steps
  unfold Hold
  k_here
  rename_i tk9 dc hz1 oD lz1 hlo9 hs9 fs9 hi9 fi9 hz2 lP hz3 hl9 hz4 hF9 hN9
  have hP0 : PyData.canLay0 (.str (Str.ofString "abcd")) = true := by decide +kernel
  with_unfolding_all refine' ksw_while (σ := CSt) (fun c => (dc, c.oC) :: c.nw) (fun c => [(Str.ofString "cuts", .ref dc), (Str.ofString "pile", .ref c.pa), (Str.ofString "total", .int c.total c.tt)]) (fun _ => True) [Str.ofString "node", Str.ofString "cut"] (fun c => Run fin c.total c.pile c.rows c.k ∧ (c.pa, W.listOf (List.toArray c.ys) c.pn) ∈ c.nw ∧ StrsAre c.ys c.pile ∧ c.oC.IsDictOf (PySem.strKind Challenge.rw_pm0054_01.row.prog w) c.kvs ∧ CutRows c.nw c.kvs c.rows ∧ (∀ p ∈ news, p ∈ c.nw) ∧ (∀ p ∈ c.nw, p.1 ≠ dc)) (fun c => c.k) ⟨k0, x, t, lP, [.str (Str.ofString "abcd") (tk9 + 1)], 0, oD, [], [Str.ofString "abcd"], [], (lP, W.listOf #[.str (Str.ofString "abcd") (tk9 + 1)] 0) :: news⟩ ?F ?N trivial ?ps ?P ?turn
  case F => exact hF9
  case N => exact cb_drop hN9 (by intro p hp; simp only [List.mem_cons] at hp ⊢; rcases hp with hp | hp | hp <;> simp only [hp, true_or, or_true])
  case ps => kst_all
  case P => exact ⟨hR, List.Mem.head _, .cons _ _ .nil, hs9, .nil, fun p hp => List.Mem.tail _ hp, fun p hp => by
      rcases List.mem_cons.mp hp with rfl | hp
      · exact Nat.ne_of_gt hl9.1
      · exact Nat.ne_of_lt (lz1 p hp)⟩
  case turn =>
    rintro ⟨k, total, tt, pa, ys, pn, oC, kvs, pile, rows, nw⟩ u h tk kFacts ⟨hRun, hpa, hys, hoC, hrows, hsub, hne⟩ kFr kNews
    dsimp only at hRun hpa hys hoC hrows hsub hne kFr kNews
    (try k_fold)
    cases hRun with
    | done =>
      obtain rfl := strs_nil hys
      k_steps
      unfold Hold
      (with_reducible rename News _ _ _ _ => hN8)
      refine ne_nil (ss := []) hN8 (List.Mem.tail _ (List.Mem.tail _ hpa)) (List.Mem.head _) .nil (fun _ h => absurd h List.not_mem_nil) (by ktr_units) ?_
      k_steps
      rename_i kF kN Tc kX
      exact hret _ ((dc, oC) :: nw) _ _ ⟨dc, rfl, fun p hp => List.Mem.tail _ (hsub p hp), oC, kvs, hoC, List.Mem.head _, hlo9, hrows.grow fun p hp => List.Mem.tail _ hp⟩ kF (cb_drop kN (by intro p hp; simp only [List.mem_cons] at hp ⊢; rcases hp with hp | hp <;> simp only [hp, true_or, or_true]))
    | leaf h1 h2 h3 h4 h5 =>
      rename_i p node k
      rcases PyProof.Rows.strs_nil_or_snoc hys with ⟨_, h⟩ | ⟨vi, yi, y, t8, rfl, hyi, hvi⟩
      · exact absurd h (by simp)
      obtain ⟨rfl, rfl⟩ := List.append_inj' hyi rfl |>.imp id (fun h => List.singleton_inj.mp h)
      k_steps
      unfold Hold
      (with_reducible rename News _ _ _ _ => hN8)
      refine ne_nil hN8 (List.Mem.tail _ (List.Mem.tail _ hpa)) (List.Mem.head _) hys (fun s hs => by
        rcases List.mem_append.mp hs with hs | hs
        · exact h4 s hs
        · rw [List.mem_singleton.mp hs]; exact h3) (by ktr_units) ?_
      rw [show (!(p ++ [node]).isEmpty) = true by simp]
      have hvl : vi.length < 900 := by rw [strs_len hvi]; omega
      k_steps
      rename_i hq1 Dq hq2 lq hq3 Fq Nq
      refine ksw_end ⟨k, total, tt, Dq, vi, 0, oC, kvs, p, rows, (Dq, W.listOf vi.toArray 0) :: nw⟩ Fq Nq (by intro p hp; simp only [List.mem_cons] at hp ⊢; rcases hp with hp | hp | hp <;> simp only [hp, true_or, or_true]) trivial (by kst_all) (by intro z h2 h3; simp only [List.forall_mem_cons, List.not_mem_nil, false_implies, implies_true, and_true, ne_eq] at h2; simp only [List.contains_cons, List.contains_nil, Bool.or_false, Bool.or_eq_false_iff, beq_eq_false_iff_ne, ne_eq] at h3; simp [kstB, h2, h3]) ⟨h5, List.Mem.head _, hvi, hoC, hrows.grow fun p hp => List.Mem.tail _ hp, fun p hp => List.Mem.tail _ (hsub p hp), fun p hp => ?_⟩ (Nat.lt_succ_self _)
      rcases List.mem_cons.mp hp with rfl | hp
      · exact Nat.ne_of_gt lq.2.1
      · exact hne p hp
    | cut h1 h2 h3 h4 h5 h6 h7 h8 h9 h10 =>
      rename_i p node lft rgt k
      rcases PyProof.Rows.strs_nil_or_snoc hys with ⟨_, h⟩ | ⟨vi, yi, y, t8, rfl, hyi, hvi⟩
      · exact absurd h (by simp)
      obtain ⟨rfl, rfl⟩ := List.append_inj' hyi rfl |>.imp id (fun h => List.singleton_inj.mp h)
      have hvl : vi.length < 900 := by rw [strs_len hvi]; omega
      have hfr : node ∉ kvs.map (·.1) := by rw [hrows.names]; exact h9
      have hkl : kvs.length ≤ sizeLine := by
        have := congrArg List.length hrows.names
        rw [List.length_map, List.length_map] at this
        rw [sizeLine_eq, this]; omega
      k_steps
      unfold Hold
      (with_reducible rename News _ _ _ _ => hN8)
      refine ne_nil hN8 (List.Mem.tail _ (List.Mem.tail _ hpa)) (List.Mem.head _) hys (fun s hs => by
        rcases List.mem_append.mp hs with hs | hs
        · exact h6 s hs
        · rw [List.mem_singleton.mp hs]; exact h5) (by ktr_units) ?_
      rw [show (!(p ++ [node]).isEmpty) = true by simp]
      k_steps
      rename_i ta ka aa hq4 tb kb ab l9 hq3 l1 hq2 o9 hd9 Dq hq1 lq hq0 Fq Nq
      rw [h7, h8] at Nq
      refine ksw_end ⟨k, Int.fdiv total 3, _, Dq, vi ++ [.str lft ta, .str rgt tb], 0, o9, stored kvs node (.ref l9), p ++ [lft, rgt], rows ++ [(node, lft, rgt)], (Dq, W.listOf (List.toArray (vi ++ [.str lft ta, .str rgt tb])) 0) :: (l9, W.listOf #[.str lft ta, .str rgt tb] 0) :: nw⟩ Fq Nq (by intro p hp; simp only [List.mem_cons] at hp ⊢; rcases hp with hp | hp | hp | hp <;> simp only [hp, true_or, or_true]) trivial (by kst_all) (by intro z h2 h3; simp only [List.forall_mem_cons, List.not_mem_nil, false_implies, implies_true, and_true, ne_eq] at h2; simp only [List.contains_cons, List.contains_nil, Bool.or_false, Bool.or_eq_false_iff, beq_eq_false_iff_ne, ne_eq] at h3; simp [kstB, h2, h3]) ⟨h10, List.Mem.head _, strs_app hvi (.cons _ _ (.cons _ _ .nil)), hd9, by rw [stored_fresh hfr]; exact (hrows.grow fun p hp => List.Mem.tail _ (List.Mem.tail _ hp)).snoc (List.Mem.tail _ (List.Mem.head _)), fun p hp => List.Mem.tail _ (List.Mem.tail _ (hsub p hp)), fun p hp => ?_⟩ (Nat.lt_succ_self _)
      rcases List.mem_cons.mp hp with rfl | hp
      · exact Nat.ne_of_gt lq.2.2.2.1
      rcases List.mem_cons.mp hp with rfl | hp
      · exact Nat.ne_of_gt l1.2.2.1
      · exact hne p hp
theorem Run.step {fin rows : List (Str × Str × Str)} {x x' c : Int} {p : List Str} {node l r : Str} {k : Nat} (h0 : Int.fmod x ((node.length : Int) - 1) = c) (hl : Txt.slice node none (some (1 + c)) = l) (hr : Txt.slice node (some (1 + c)) none = r) (hx : Int.fdiv x 3 = x')
    (hd : 1 < node.length ∧ node.length < 1000 ∧ p.length < 10 ∧ rows.length < 10 ∧ PyData.canLay0 (.str node) = true ∧ (∀ s ∈ p, PyData.canLay0 (.str s) = true) ∧ node ∉ rows.map (·.1)) (h : Run fin x' (p ++ [l, r]) (rows ++ [(node, l, r)]) k) : Run fin x (p ++ [node]) rows (k + 1) := by
  obtain ⟨h1, h2, h3, h4, h5, h6, h7⟩ := hd
  subst h0 hx
  exact .cut h1 h2 h3 h4 h5 h6 hl hr h7 h
theorem Run.drop {fin rows : List (Str × Str × Str)} {x : Int} {p : List Str} {node : Str} {k : Nat} (hd : ¬ 1 < node.length ∧ p.length < 10 ∧ PyData.canLay0 (.str node) = true ∧ (∀ s ∈ p, PyData.canLay0 (.str s) = true)) (h : Run fin x p rows k) : Run fin x (p ++ [node]) rows (k + 1) :=
  .leaf hd.1 hd.2.1 hd.2.2.1 hd.2.2.2 h
theorem fmod_one (x : Int) : Int.fmod x 1 = 0 := by simp
def tree00 : List (Str × Str × Str) := [(Str.ofString "abcd", Str.ofString "a", Str.ofString "bcd"), (Str.ofString "bcd", Str.ofString "b", Str.ofString "cd"), (Str.ofString "cd", Str.ofString "c", Str.ofString "d")]
def tree01 : List (Str × Str × Str) := [(Str.ofString "abcd", Str.ofString "a", Str.ofString "bcd"), (Str.ofString "bcd", Str.ofString "bc", Str.ofString "d"), (Str.ofString "bc", Str.ofString "b", Str.ofString "c")]
def tree1 : List (Str × Str × Str) := [(Str.ofString "abcd", Str.ofString "ab", Str.ofString "cd"), (Str.ofString "cd", Str.ofString "c", Str.ofString "d"), (Str.ofString "ab", Str.ofString "a", Str.ofString "b")]
def tree20 : List (Str × Str × Str) := [(Str.ofString "abcd", Str.ofString "abc", Str.ofString "d"), (Str.ofString "abc", Str.ofString "a", Str.ofString "bc"), (Str.ofString "bc", Str.ofString "b", Str.ofString "c")]
def tree21 : List (Str × Str × Str) := [(Str.ofString "abcd", Str.ofString "abc", Str.ofString "d"), (Str.ofString "abc", Str.ofString "ab", Str.ofString "c"), (Str.ofString "ab", Str.ofString "a", Str.ofString "b")]
theorem run00 {x : Int} (h1 : Int.fmod x 3 = 0) (h2 : Int.fmod (Int.fdiv x 3) 2 = 0) : Run tree00 x [Str.ofString "abcd"] [] 7 := by
  refine Run.step (p := []) (c := 0) (l := Str.ofString "a") (r := Str.ofString "bcd") h1 (by decide +kernel) (by decide +kernel) rfl (by decide +kernel) ?_
  refine Run.step (p := [Str.ofString "a"]) (c := 0) (l := Str.ofString "b") (r := Str.ofString "cd") h2 (by decide +kernel) (by decide +kernel) rfl (by decide +kernel) ?_
  refine Run.step (p := [Str.ofString "a", Str.ofString "b"]) (c := 0) (l := Str.ofString "c") (r := Str.ofString "d") (fmod_one _) (by decide +kernel) (by decide +kernel) rfl (by decide +kernel) ?_
  refine Run.drop (p := [Str.ofString "a", Str.ofString "b", Str.ofString "c"]) (by decide +kernel) ?_
  refine Run.drop (p := [Str.ofString "a", Str.ofString "b"]) (by decide +kernel) ?_
  refine Run.drop (p := [Str.ofString "a"]) (by decide +kernel) ?_
  exact Run.drop (p := []) (by decide +kernel) .done
theorem run01 {x : Int} (h1 : Int.fmod x 3 = 0) (h2 : Int.fmod (Int.fdiv x 3) 2 = 1) : Run tree01 x [Str.ofString "abcd"] [] 7 := by
  refine Run.step (p := []) (c := 0) (l := Str.ofString "a") (r := Str.ofString "bcd") h1 (by decide +kernel) (by decide +kernel) rfl (by decide +kernel) ?_
  refine Run.step (p := [Str.ofString "a"]) (c := 1) (l := Str.ofString "bc") (r := Str.ofString "d") h2 (by decide +kernel) (by decide +kernel) rfl (by decide +kernel) ?_
  refine Run.drop (p := [Str.ofString "a", Str.ofString "bc"]) (by decide +kernel) ?_
  refine Run.step (p := [Str.ofString "a"]) (c := 0) (l := Str.ofString "b") (r := Str.ofString "c") (fmod_one _) (by decide +kernel) (by decide +kernel) rfl (by decide +kernel) ?_
  refine Run.drop (p := [Str.ofString "a", Str.ofString "b"]) (by decide +kernel) ?_
  refine Run.drop (p := [Str.ofString "a"]) (by decide +kernel) ?_
  exact Run.drop (p := []) (by decide +kernel) .done
theorem run1 {x : Int} (h1 : Int.fmod x 3 = 1) : Run tree1 x [Str.ofString "abcd"] [] 7 := by
  refine Run.step (p := []) (c := 1) (l := Str.ofString "ab") (r := Str.ofString "cd") h1 (by decide +kernel) (by decide +kernel) rfl (by decide +kernel) ?_
  refine Run.step (p := [Str.ofString "ab"]) (c := 0) (l := Str.ofString "c") (r := Str.ofString "d") (fmod_one _) (by decide +kernel) (by decide +kernel) rfl (by decide +kernel) ?_
  refine Run.drop (p := [Str.ofString "ab", Str.ofString "c"]) (by decide +kernel) ?_
  refine Run.drop (p := [Str.ofString "ab"]) (by decide +kernel) ?_
  refine Run.step (p := []) (c := 0) (l := Str.ofString "a") (r := Str.ofString "b") (fmod_one _) (by decide +kernel) (by decide +kernel) rfl (by decide +kernel) ?_
  refine Run.drop (p := [Str.ofString "a"]) (by decide +kernel) ?_
  exact Run.drop (p := []) (by decide +kernel) .done
theorem run20 {x : Int} (h1 : Int.fmod x 3 = 2) (h2 : Int.fmod (Int.fdiv x 3) 2 = 0) : Run tree20 x [Str.ofString "abcd"] [] 7 := by
  refine Run.step (p := []) (c := 2) (l := Str.ofString "abc") (r := Str.ofString "d") h1 (by decide +kernel) (by decide +kernel) rfl (by decide +kernel) ?_
  refine Run.drop (p := [Str.ofString "abc"]) (by decide +kernel) ?_
  refine Run.step (p := []) (c := 0) (l := Str.ofString "a") (r := Str.ofString "bc") h2 (by decide +kernel) (by decide +kernel) rfl (by decide +kernel) ?_
  refine Run.step (p := [Str.ofString "a"]) (c := 0) (l := Str.ofString "b") (r := Str.ofString "c") (fmod_one _) (by decide +kernel) (by decide +kernel) rfl (by decide +kernel) ?_
  refine Run.drop (p := [Str.ofString "a", Str.ofString "b"]) (by decide +kernel) ?_
  refine Run.drop (p := [Str.ofString "a"]) (by decide +kernel) ?_
  exact Run.drop (p := []) (by decide +kernel) .done
theorem run21 {x : Int} (h1 : Int.fmod x 3 = 2) (h2 : Int.fmod (Int.fdiv x 3) 2 = 1) : Run tree21 x [Str.ofString "abcd"] [] 7 := by
  refine Run.step (p := []) (c := 2) (l := Str.ofString "abc") (r := Str.ofString "d") h1 (by decide +kernel) (by decide +kernel) rfl (by decide +kernel) ?_
  refine Run.drop (p := [Str.ofString "abc"]) (by decide +kernel) ?_
  refine Run.step (p := []) (c := 1) (l := Str.ofString "ab") (r := Str.ofString "c") h2 (by decide +kernel) (by decide +kernel) rfl (by decide +kernel) ?_
  refine Run.drop (p := [Str.ofString "ab"]) (by decide +kernel) ?_
  refine Run.step (p := []) (c := 0) (l := Str.ofString "a") (r := Str.ofString "b") (fmod_one _) (by decide +kernel) (by decide +kernel) rfl (by decide +kernel) ?_
  refine Run.drop (p := [Str.ofString "a"]) (by decide +kernel) ?_
  exact Run.drop (p := []) (by decide +kernel) .done
theorem cuts00 (w : World) (x : Int) (t : Tok) (news : List (Addr × Obj)) (h1 : Int.fmod x 3 = 0) (h2 : Int.fmod (Int.fdiv x 3) 2 = 0)
   : Does w 4 209 [.int x t] news (fun r news' => ∃ dc, r = .ref dc ∧ (∀ p ∈ news, p ∈ news') ∧ CutsAt w news' dc tree00) := cutsG w x t news tree00 7 (run00 h1 h2)
theorem cuts01 (w : World) (x : Int) (t : Tok) (news : List (Addr × Obj)) (h1 : Int.fmod x 3 = 0) (h2 : Int.fmod (Int.fdiv x 3) 2 = 1)
   : Does w 4 209 [.int x t] news (fun r news' => ∃ dc, r = .ref dc ∧ (∀ p ∈ news, p ∈ news') ∧ CutsAt w news' dc tree01) := cutsG w x t news tree01 7 (run01 h1 h2)
theorem cuts1 (w : World) (x : Int) (t : Tok) (news : List (Addr × Obj)) (h1 : Int.fmod x 3 = 1)
   : Does w 4 209 [.int x t] news (fun r news' => ∃ dc, r = .ref dc ∧ (∀ p ∈ news, p ∈ news') ∧ CutsAt w news' dc tree1) := cutsG w x t news tree1 7 (run1 h1)
theorem cuts20 (w : World) (x : Int) (t : Tok) (news : List (Addr × Obj)) (h1 : Int.fmod x 3 = 2) (h2 : Int.fmod (Int.fdiv x 3) 2 = 0)
   : Does w 4 209 [.int x t] news (fun r news' => ∃ dc, r = .ref dc ∧ (∀ p ∈ news, p ∈ news') ∧ CutsAt w news' dc tree20) := cutsG w x t news tree20 7 (run20 h1 h2)
theorem cuts21 (w : World) (x : Int) (t : Tok) (news : List (Addr × Obj)) (h1 : Int.fmod x 3 = 2) (h2 : Int.fmod (Int.fdiv x 3) 2 = 1)
   : Does w 4 209 [.int x t] news (fun r news' => ∃ dc, r = .ref dc ∧ (∀ p ∈ news, p ∈ news') ∧ CutsAt w news' dc tree21) := cutsG w x t news tree21 7 (run21 h1 h2)
end
section
local macro_rules | `(tactic| k_all) => `(tactic| first | assumption | exact below_ne (by assumption))
local macro_rules | `(tactic| k_mem) => `(tactic| assumption)
local macro_rules | `(tactic| walk_at "exec For Name Call cons nil") => `(tactic| (k_here; refine Hold.of ?_))
local macro_rules | `(tactic| walk_at "exec For Name Constant cons nil") => `(tactic| (k_here; refine Hold.of ?_))
local macro_rules | `(tactic| walk_at "pyIter ref") => `(tactic| (k_here; refine Hold.of ?_))
local macro_rules | `(tactic| walk_at "pyIter str") => `(tactic| (k_here; refine Hold.of ?_))
local macro_rules | `(tactic| walk_at "CompSrcT") => `(tactic| (refine Hold.of ?_))
local macro_rules | `(tactic| walk_at "CompSrc") => `(tactic| (refine Hold.of ?_))
local macro_rules | `(tactic| walk_at "eval ListComp") => `(tactic| (k_here; refine Hold.of ?_))
local macro_rules | `(tactic| lcg_src) => `(tactic| exact List.Mem.head _)
local macro_rules | `(tactic| walk_at "call builtin:len") => `(tactic| (k_here; (with_reducible show wpAny _ _ (call (Value.builtin "len") [Value.str _ _]) _ _ _); k_dflt (refine' len_str ?z1 ?_; (case z1 => omega))))
local macro_rules | `(tactic| walk_at "call ref") => `(tactic| (k_here; (with_reducible show wpAny _ _ (call (Value.ref 228) _ _) _ _ _); refine Hold.of ?_))
local macro_rules | `(tactic| walk_at "compareOp NotEq ref ref") => `(tactic| (k_here; refine Hold.of ?_))
local macro_rules | `(tactic| walk_at "call ref") => `(tactic| (k_here; (with_reducible show wpAny _ _ (call (Value.ref 233) _ _) _ _ _); refine Hold.of ?_))
local macro_rules | `(tactic| walk_at "subscriptTail Name Name str int") => `(tactic| (k_here; k_dflt (refine' my_sign ?z1 ?z2 ?_; (case z2 => assumption); (case z1 => omega)); intro t8 k8; (try dsimp only)))
local macro_rules | `(tactic| walk_at "CompEnd") => `(tactic| (refine Hold.of ?_))
local macro_rules | `(tactic| walk_at "call builtin:sorted") => `(tactic| (k_here; refine Hold.of ?_))
theorem TreeAt.grow {w : World} {news news' : List (Addr × Obj)} {dc dp : Addr} {Tr : Str → Option (Str × Str)} {P : Str → Option (List Int)} (h : TreeAt w news dc dp Tr P) (hs : ∀ p ∈ news, p ∈ news') : TreeAt w news' dc dp Tr P := by
  obtain ⟨⟨o, kvs, a, b, c, d⟩, ⟨o2, kvs2, a2, b2, c2, d2⟩⟩ := h
  refine ⟨⟨o, kvs, hs _ a, b, c, fun node l r e => ?_⟩, ⟨o2, kvs2, hs _ a2, b2, c2, fun part ps e => ?_⟩⟩
  · obtain ⟨a, n, t1, t2, h1, h2⟩ := d node l r e
    exact ⟨a, n, t1, t2, h1, hs _ h2⟩
  · obtain ⟨a, its, n, h1, h2, h3⟩ := d2 part ps e
    exact ⟨a, its, n, h1, hs _ h2, h3⟩
def posUpTo (x : Str) (c n : Nat) : List Int := ((List.range n).filter fun k => decide (x.cps[k]? = some c)).map (fun k : Nat => (k : Int))
theorem pos_hit {x : Str} {c n : Nat} {zs : List Value} {t : Tok} (h : x.cps[n]? = some c) (hz : IntsAre zs (posUpTo x c n)) : IntsAre (zs ++ [.int (n : Int) t]) (posUpTo x c (n + 1)) := by
  unfold posUpTo at hz ⊢
  rw [List.range_succ, List.filter_append, List.map_append]
  simp only [List.filter_cons, h, decide_true, if_true, List.filter_nil, List.map_cons, List.map_nil]
  exact ksk_snoc hz
theorem pos_miss {x : Str} {c n : Nat} {zs : List Value} (h : ¬ x.cps[n]? = some c) (hz : IntsAre zs (posUpTo x c n)) : IntsAre zs (posUpTo x c (n + 1)) := by
  unfold posUpTo at hz ⊢
  rw [List.range_succ, List.filter_append, List.map_append]
  simpa [h] using hz
theorem ClimbAt.grow {w : World} {news news' : List (Addr × Obj)} {dc dp : Addr} {keys : List Str} {P : Str → Option (List Int)} (h : ClimbAt w news dc dp keys P) (hs : ∀ p ∈ news, p ∈ news') : ClimbAt w news' dc dp keys P := by
  obtain ⟨⟨o, kvs, a, b⟩, ⟨o2, kvs2, a2, b2, c2, d2⟩⟩ := h
  refine ⟨⟨o, kvs, hs _ a, b⟩, ⟨o2, kvs2, hs _ a2, b2, c2, fun part ps e => ?_⟩⟩
  obtain ⟨a, its, n, h1, h2, h3⟩ := d2 part ps e
  exact ⟨a, its, n, h1, hs _ h2, h3⟩
theorem take_snoc {α : Type} {l : List α} {k : Nat} {a : α} (h : l[k]? = some a) : l.take (k + 1) = l.take k ++ [a] := by rw [List.take_add_one, h]; rfl
def dueOf (x : Str) (i j : Nat) (os : List Str) : List (Str × Int × Int) := os.map fun c => (c, (Txt.count (Txt.slice x none (some (i : Int))) c : Int), (Txt.count (Txt.slice x none (some (j : Int))) c : Int))
theorem dueOf_at {x : Str} {i j k : Nat} {os : List Str} {c : Str} (h : os[k]? = some c) : (dueOf x i j os)[k]? = some (c, (Txt.count (Txt.slice x none (some (i : Int))) c : Int), (Txt.count (Txt.slice x none (some (j : Int))) c : Int)) := by
  unfold dueOf
  rw [List.getElem?_map, h]; rfl
theorem dueOf_snoc {x : Str} {i j k : Nat} {os : List Str} {c : Str} (h : os[k]? = some c) : dueOf x i j (os.take (k + 1)) = dueOf x i j (os.take k) ++ [(c, (Txt.count (Txt.slice x none (some (i : Int))) c : Int), (Txt.count (Txt.slice x none (some (j : Int))) c : Int))] := by
  unfold dueOf
  rw [List.take_add_one, h]; simp
theorem agrees (w : World) (x : Str) (t : Tok) (dc dp : Addr) (Tr : Str → Option (Str × Str)) (P : Str → Option (List Int)) (keys : List Str) (news : List (Addr × Obj)) (hx : x.length ≤ 10) (hT : TreeAt w news dc dp Tr P) (hK : ClimbAt w news dc dp keys P)
   (HL : ∀ (i j : Nat) (os : List Str), i < j → j ≤ x.length → os.Perm (signsOf (Txt.slice x (some (i : Int)) (some (j : Int)))) → sortedS os = true → os.length = j - i ∧ (∀ c ∈ os, PyData.canLay0 (.str c) = true) ∧ ∀ (k : Nat) (c : Str), os[k]? = some c → ∃ W : Str → Int → Int → Int → Prop, W (Str.ofString "abcd") i j k ∧
     (∀ node i j k, W node i j k → node.length < 1000 ∧ (1 < node.length → ∃ l r ps, Tr node = some (l, r) ∧ P l = some ps ∧ i ≤ j ∧ l.length < node.length ∧ r.length < node.length ∧
       (k < cnt ps j - cnt ps i → W l (cnt ps i) (cnt ps j) k) ∧ (¬ k < cnt ps j - cnt ps i → W r (i - cnt ps i) (j - cnt ps j) (k - (cnt ps j - cnt ps i))))) ∧
     (∀ node i' j' k', W node i' j' k' → ¬ 1 < node.length → node = c ∧ i' = Txt.count (Txt.slice x none (some (i : Int))) c ∧ j' = Txt.count (Txt.slice x none (some (j : Int))) c))
   (HC : ∀ (k c : Nat), (Str.ofString "abcd").cps[k]? = some c → ∃ (C : Nat → List Int → Prop) (ps0 : List Int), P ⟨#[c]⟩ = some ps0 ∧ C 0 ps0 ∧
     (∀ i node sp, keys.reverse[i]? = some node → C i sp → sp.length < 1000 ∧ node.length < 1000 ∧
       ((Builtin.Str.occurrences node ⟨#[c]⟩ 0 node.length 1).isEmpty = false → node ≠ Str.ofString "abcd" → ∃ ps, P node = some ps ∧ (∀ s ∈ sp, 0 ≤ s ∧ s < ps.length) ∧ C (i + 1) (sp.map fun s => ps.getD s.toNat 0)) ∧
       (((Builtin.Str.occurrences node ⟨#[c]⟩ 0 node.length 1).isEmpty = true ∨ node = Str.ofString "abcd") → C (i + 1) sp)) ∧
     (∀ sp, C keys.length sp → sp = posUpTo x c x.length))
   : Does w 6 238 [.str x t, .ref dc, .ref dp] news (fun r news' => r = .bool true ∧ news' = news) := by
  k_with_none
  w_top off
  unfold Does
  k_fill
  intro dp' un gd cn cs a ccd cl outer A₀ base h₀ L m mg mb mean s Q E B F X N T hk hd hu hret
  refine wpAny_call ?_
  refine' code_defC ?k1 ?k2 ?k3 ?k4 ?k5 ?kA ?kF ?kK ?k6 ?k7 ?k8 ?k9 ?kB ?kD ?_ ?c2 ?c3 ?c4; (case kA => exact rfl); (case kF => exact rfl); (case kK => assumption); (case k1 => k_asm); (case k2 => k_asm); (case k3 => k_asm); (case k4 => k_asm); (case k5 => k_asm); (case k6 => k_is); (case k7 => k_is); (case k8 => ktr_room); (case k9 => (refine' kp_binds ?kx ?ke; (case kx => k_in); (case ke => exact fun _ => rfl))); (case kB => exact rfl); (case kD => decide +kernel); (case c2 => exact rfl); (case c3 => exact rfl); (case c4 => exact rfl); k_whole; intro g1 Lc h1 tk1 cells1 FG1 F1 N1 Y1 B1 X1 T1 l1; (try k_lt l1); k_cells Y1; (try simp only [List.cons_append, List.nil_append] at N1); (try dsimp only); (try k_fold)
  rename_i oF oE oD oC oB oA dF dE dD dC dB dA
  have hb4 : ∀ p ∈ news, p.1 ≠ Lc + 1 + 1 + 1 + 1 := below_ne (L := Lc) (k := 4) l1
  have hb5 : ∀ p ∈ news, p.1 ≠ Lc + 1 + 1 + 1 + 1 + 1 := below_ne (L := Lc) (k := 5) l1
  have hb6 : ∀ p ∈ news, p.1 ≠ Lc + 1 + 1 + 1 + 1 + 1 + 1 := below_ne (L := Lc) (k := 6) l1
  replace dF : oF.data = Data.cell none := dF
  replace dE : oE.data = Data.cell none := dE
  replace dD : oD.data = Data.cell none := dD
  replace dC : oC.data = Data.cell (some (.ref dp)) := dC
  replace dB : oB.data = Data.cell (some (.ref dc)) := dB
  replace dA : oA.data = Data.cell (some (.str x t)) := dA
  k_steps
  unfold Hold
  k_dflt (refine' For_invTF ?zg0 ?zg1 ?zg2 ?zg3; (case zg0 => k_asm); (case zg2 => exact fun _ => rfl); (case zg3 => first | passes_own | with_unfolding_all passes_own))
  k_steps
  unfold Hold
  (with_reducible rename News _ _ _ _ => hN9)
  (with_reducible rename Fr _ _ _ _ => hF9)
  (with_reducible rename IsRange _ _ _ _ _ _ _ _ => hR9)
  refine iter_range (n := x.length) (by with_unfolding_all rfl) (ksw_fr0 [Str.ofString "order", Str.ofString "due"] [] (by kst_all) hF9) hN9 hR9 (small_one (by omega) (by omega) (by omega) (by omega)) (by rw [rangeSize_nat]; omega) ?_
  refine for_K (σ := Obj × Obj) [Str.ofString "order", Str.ofString "due"] (fun _ c => []) (fun _ c => (Lc + 1 + 1 + 1 + 1 + 1 + 1, oF) :: (Lc + 1 + 1 + 1 + 1 + 1, c.2) :: (Lc + 1 + 1 + 1 + 1, c.1) :: (Lc + 1 + 1 + 1, oC) :: (Lc + 1 + 1, oB) :: (Lc + 1, oA) :: news) (fun i c => (∃ v, c.1.data = Data.cell v) ∧ (∃ v, c.2.data = Data.cell v)) (oD, oE) ?st ?tu ?fi
  case st => exact ⟨⟨_, dD⟩, ⟨_, dE⟩⟩
  case fi =>
    rintro u ⟨oi, oj⟩ ⟨⟨vi, hvi⟩, ⟨vj, hvj⟩⟩ h tk hF8 hN8
    dsimp only at hvi hvj hF8 hN8
    replace hF8 : Fr g1 Lc h _ := hF8
    replace hN8 : News g1 Lc h _ := hN8
    k_steps
    unfold Hold
    k_dflt (refine' For_invTF ?zj0 ?zj1 ?zj2 ?zj3; (case zj0 => k_asm); (case zj2 => exact fun _ => rfl); (case zj3 => first | passes_own | with_unfolding_all passes_own))
    k_steps
    unfold Hold
    (with_reducible rename News _ _ _ _ => hN9)
    (with_reducible rename Fr _ _ _ _ => hF9)
    refine iter_str (by with_unfolding_all rfl) (ksw_fr0 [Str.ofString "spots"] [] (by kst_all) hF9) hN9 ?_
    refine for_K (σ := Obj) [Str.ofString "spots"] (fun _ c => []) (fun _ c => (Lc + 1 + 1 + 1 + 1 + 1 + 1, c) :: (Lc + 1 + 1 + 1 + 1 + 1, oj) :: (Lc + 1 + 1 + 1 + 1, oi) :: (Lc + 1 + 1 + 1, oC) :: (Lc + 1 + 1, oB) :: (Lc + 1, oA) :: news) (fun i c => ∃ v, c.data = Data.cell v) oF ?st4 ?tu4 ?fi4
    case st4 => exact ⟨_, dF⟩
    case fi4 =>
      rintro u5 oF5 ⟨vF5, hvF5⟩
      intro h5 tk5 hF5 hN5
      (try dsimp only at hF5 hN5)
      replace hF5 : Fr g1 Lc h5 _ := hF5
      replace hN5 : News g1 Lc h5 _ := hN5
      k_steps
      (with_reducible rename News _ _ _ _ => hN4)
      exact hret _ _ _ _ ⟨rfl, rfl⟩ (by assumption) (cb_drop hN4 (by intro p hp; simp only [List.mem_cons]; simp only [hp, true_or, or_true]))
    case tu4 =>
      rintro k v J oJ h4 g4 d4 tk4 os4 u4 oF4 hk4 hv4 ⟨vF4, hvF4⟩ hF8 hN8 hO7
      obtain ⟨c, tc, hc, rfl⟩ := hv4
      (try dsimp only at hvF4 hF8 hN8 hO7)
      simp only [AllNe] at hO7
      replace hF8 : Fr g1 Lc h4 _ := hF8
      replace hN8 : News g1 Lc h4 _ := hN8
      k_steps
      unfold Hold
      (with_reducible rename Obj.data _ = Data.cell (some (Value.str ⟨#[c]⟩ _)) => hcf)
      (with_reducible rename Obj => of2)
      (with_reducible rename News _ _ _ _ => hN9)
      (with_reducible rename Fr _ _ _ _ => hF9)
      (with_reducible rename IsRange _ _ _ _ _ _ _ _ => hR9)
      refine LCt.CompSrcT.range (n := x.length) (by rfl) hF9 hN9 hR9 (small_one (by omega) (by omega) (by omega) (by omega)) (by rw [rangeSize_nat]; omega) (by rw [sizeLine_eq]; omega) ?_
      intro g0
      refine compT_const (fun i zs => IntsAre zs (posUpTo x c i)) ?start3 ?turn3 ?fin3
      case start3 => exact IntsAre.nil
      case turn3 =>
        intro i9 v9 I9 oI9 C9 oC9 D8 m₂ zs h9 tk9 E9 hi9 hv9 hJ9 hC9 hx9 F9 N9 off9 ne9
        obtain ⟨t9, hv9⟩ := hv9
        rw [Int.zero_add] at hv9
        subst hv9
        obtain ⟨c9, hc9⟩ : ∃ c, x.cps[i9]? = some c := ⟨_, Array.getElem?_eq_getElem hi9⟩
        have hzk : x.length < 1000 := Nat.lt_of_le_of_lt hx (by decide)
        k_steps
        · rename_i hcc
          unfold Hold
          (with_reducible rename News _ _ _ _ => hN1)
          (with_reducible rename LCg.Off3 _ _ _ _ => hO1)
          refine LCg.CompEnd.intro (by assumption) hN1 _ (fun p hp => by (repeat' (first | exact hp | refine List.Mem.tail _ ?_))) hO1 trivial ⟨rfl, ?_⟩
          have he : c9 = c := by simpa using hcc
          subst he
          exact pos_hit hc9 hJ9
        · rename_i hcc
          unfold Hold
          (with_reducible rename News _ _ _ _ => hN1)
          (with_reducible rename LCg.Off3 _ _ _ _ => hO1)
          refine LCg.CompEnd.intro (by assumption) hN1 _ (fun p hp => by (repeat' (first | exact hp | refine List.Mem.tail _ ?_))) hO1 trivial ⟨rfl, ?_⟩
          have he : ¬ c9 = c := by simpa using hcc
          exact pos_miss (by rw [hc9]; simpa using he) hJ9
      case fin3 =>
        intro zs hJ9
        k_steps
        unfold Hold
        rename_i Dd hd1 tkd Fd Nd od
        obtain ⟨Ck, ps0, hc0, hc1, hc2, hc3⟩ := HC k c hc
        with_unfolding_all refine' Does.use ?z1 ?z2 ?z3 ?z4 ?z5 ?z6 (climb w dc dp ⟨#[c]⟩ _ keys P Ck ps0 _ (hK.grow ?z7) hc0 hc1 hc2) ?z11 ?z12 ?_
        case z1 => k_asm
        case z2 => k_asm
        case z3 => k_asm
        case z4 => k_asm
        case z5 => k_asm
        case z6 => first | exact rfl | assumption
        case z7 => exact fun p hp => List.Mem.tail _ (List.Mem.tail _ (List.Mem.tail _ (List.Mem.tail _ (List.Mem.tail _ (List.Mem.tail _ (List.Mem.tail _ (List.Mem.tail _ hp)))))))
        case z11 => ktr_room
        case z12 => ktr_units
        rintro r9 news9 h9 tk9 ⟨az, ysz, nz, spz, rfl, hsz, hmz, hiz, hCz⟩ Fz Nz
        obtain rfl := hc3 _ hCz
        (try dsimp only); (try k_fold)
        k_steps
        unfold Hold
        refine ne_ints Nz hmz (hsz _ (List.Mem.head _)) hiz hJ9 (by ktr_units) ?_
        k_steps
        refine kend of2 Fz Nz ⟨_, hcf⟩ (fun p hp => absurd hp List.not_mem_nil) (by (intro z h2 h3; simp only [List.contains_cons, List.contains_nil, Bool.or_false, Bool.or_eq_false_iff, beq_eq_false_iff_ne, ne_eq] at h3; simp [kstB, h3])) (fun p hp => hsz p (List.Mem.tail _ hp)) hO7 (fun p hp => absurd hp List.not_mem_nil)
  case tu =>
    rintro i v I oI h g d tk os u ⟨oi, oj⟩ hi hv ⟨⟨vi, hvi⟩, ⟨vj, hvj⟩⟩ hF8 hN8 hO8
    obtain ⟨tv, hv⟩ := hv
    rw [Int.zero_add] at hv
    subst hv
    dsimp only at hvi hvj hF8 hN8 hO8
    simp only [AllNe] at hO8
    replace hF8 : Fr g1 Lc h _ := hF8
    replace hN8 : News g1 Lc h _ := hN8
    k_steps
    unfold Hold
    k_dflt (refine' For_invTF ?zh0 ?zh1 ?zh2 ?zh3; (case zh0 => k_asm); (case zh2 => exact fun _ => rfl); (case zh3 => first | passes_own | with_unfolding_all passes_own))
    k_steps
    unfold Hold
    (with_reducible rename News _ _ _ _ => hN9)
    (with_reducible rename Fr _ _ _ _ => hF9)
    (with_reducible rename IsRange _ _ _ _ _ _ _ _ => hR9)
    (with_reducible rename Obj.data _ = Data.cell (some (Value.int _ tv)) => hci)
    (with_reducible rename Obj => oi2)
    refine iter_range (n := x.length - i) (by with_unfolding_all rfl) (ksw_fr0 [Str.ofString "order", Str.ofString "due"] [] (by kst_all) hF9) hN9 hR9 (small_one (by omega) (by omega) (by omega) (by omega)) (by rw [rangeSize_nat]; omega) ?_
    refine for_K (σ := Obj) [Str.ofString "order", Str.ofString "due"] (fun _ c => []) (fun _ c => (I, oI) :: (Lc + 1 + 1 + 1 + 1 + 1 + 1, oF) :: (Lc + 1 + 1 + 1 + 1 + 1, c) :: (Lc + 1 + 1 + 1 + 1, oi2) :: (Lc + 1 + 1 + 1, oC) :: (Lc + 1 + 1, oB) :: (Lc + 1, oA) :: news) (fun i c => ∃ v, c.data = Data.cell v) oj ?st2 ?tu2 ?fi2
    case st2 => exact ⟨_, hvj⟩
    case fi2 =>
      rintro u5 oj5 ⟨vj5, hvj5⟩
      intro h5 tk5 hF5 hN5
      (try dsimp only at hF5 hN5)
      replace hF5 : Fr g1 Lc h5 _ := hF5
      replace hN5 : News g1 Lc h5 _ := hN5
      k_steps
      refine kend (oi2, oj5) hF5 hN5 ⟨⟨_, hci⟩, ⟨_, hvj5⟩⟩ (fun p hp => absurd hp List.not_mem_nil) (by (intro z h2 h3; simp only [List.contains_cons, List.contains_nil, Bool.or_false, Bool.or_eq_false_iff, beq_eq_false_iff_ne, ne_eq] at h3; simp [kstB, h3])) (fun p hp => hp) hO8 (fun p hp => absurd hp List.not_mem_nil)
    case tu2 =>
      rintro k v J oJ h4 g4 d4 tk4 os4 u4 oj4 hk4 hv4 ⟨vj4, hvj4⟩ hF8 hN8 hO7
      obtain ⟨tj, hv4⟩ := hv4
      obtain ⟨j, hj1⟩ : ∃ j : Nat, j = i + 1 + k := ⟨_, rfl⟩
      rw [show ((i : Int) + 1 + (k : Int)) = (j : Int) by omega] at hv4
      subst hv4
      (try dsimp only at hvj4 hF8 hN8 hO7)
      simp only [AllNe] at hO7
      replace hF8 : Fr g1 Lc h4 _ := hF8
      replace hN8 : News g1 Lc h4 _ := hN8
      k_steps
      unfold Hold
      (with_reducible rename Obj.data _ = Data.cell (some (Value.int _ tj)) => hcj)
      (with_reducible rename Obj => oj2)
      have hsl : (Txt.slice x (some (i : Int)) (some (j : Int))).length ≤ 10 := Nat.le_trans (by assumption) hx
      have hsl2 : (Txt.slice x (some (i : Int)) (some (j : Int))).cps.size < 64 := Nat.lt_of_le_of_lt hsl (by decide)
      refine my_sorted ⟨by with_unfolding_all rfl, by with_unfolding_all rfl, by with_unfolding_all rfl⟩ (by k_asm) (by k_asm) hsl2 ?_
      intro D9 n9 h9 tk9 vs9 ss9 F9 N9 l9 hy9 hperm hsort
      (try k_lt l9)
      k_steps
      unfold Hold
      (with_reducible rename News _ _ _ _ => hN7)
      (with_reducible rename Fr _ _ _ _ => hF7)
      have hvl : (List.toArray vs9).size < 1000 := by rw [List.size_toArray, strs_len hy9, hperm.length_eq, signs_len]; omega
      refine LCg.CompSrc.ledger (by rfl) hF7 hN7 (List.Mem.head _) (small_ok hvl) ?_
      intro g0
      refine comp_inv (fun i9 ys nw => Rows3 nw ys (dueOf x i j (ss9.take i9)) ∧ (∀ p ∈ (D9, W.listOf vs9.toArray n9) :: (J, oJ) :: (I, oI) :: (Lc + 1 + 1 + 1 + 1 + 1 + 1, oF) :: (Lc + 1 + 1 + 1 + 1 + 1, oj2) :: (Lc + 1 + 1 + 1 + 1, oi2) :: (Lc + 1 + 1 + 1, oC) :: (Lc + 1 + 1, oB) :: (Lc + 1, oA) :: news, p ∈ nw)) ?start ?turn ?fin
      case start => exact ⟨.nil, fun _ h => h⟩
      case turn =>
        intro i9 v9 I9 oI9 C9 oC9 D8 m₂ ys nw h9 tk9 E9 hi9 hv9 hJ9 hC9 hx9 F9 N9 off9 ne9
        obtain ⟨hR9, hsub9⟩ := hJ9
        obtain ⟨c9, t9, hc9, rfl⟩ := strs_at hy9 i9 v9 (by simpa using hv9)
        have q1 := hsub9 _ (List.Mem.tail _ (List.Mem.tail _ (List.Mem.tail _ (List.Mem.tail _ (List.Mem.head _)))))
        have q2 := hsub9 _ (List.Mem.tail _ (List.Mem.tail _ (List.Mem.tail _ (List.Mem.tail _ (List.Mem.tail _ (List.Mem.head _))))))
        have q3 := hsub9 _ (List.Mem.tail _ (List.Mem.tail _ (List.Mem.tail _ (List.Mem.tail _ (List.Mem.tail _ (List.Mem.tail _ (List.Mem.tail _ (List.Mem.tail _ (List.Mem.head _)))))))))
        k_steps
        unfold Hold
        rename_i kA aA cE hB tB kB aB lz hz Fz Nz lz1
        refine LCg.CompEnd.intro Fz Nz ((lz, W.listOf #[.str c9 t9, .int (Txt.count (Txt.slice x none (some (i : Int))) c9) kA, .int (Txt.count (Txt.slice x none (some (j : Int))) c9) kB] 0) :: nw) (by intro p hp; simp only [List.mem_cons] at hp ⊢; rcases hp with hp | hp | hp | hp | hp <;> simp only [hp, true_or, or_true]) ⟨⟨Nat.ne_of_gt lz1.1, Nat.ne_of_gt lz1.2.1, Nat.ne_of_gt lz1.2.2.1⟩, off9⟩ (.inr ⟨_, List.Mem.tail _ (hsub9 _ (List.Mem.head _)), rfl, _, rfl⟩) ⟨?_, fun p hp => List.Mem.tail _ (hsub9 p hp)⟩
        rw [dueOf_snoc hc9]
        exact (hR9.grow fun p hp => List.Mem.tail _ hp).snoc (List.Mem.head _)
      case fin =>
        intro ys nw hJ9
        obtain ⟨hR9, hsub9⟩ := hJ9
        rw [show (List.toArray vs9).size = ss9.length by rw [List.size_toArray, strs_len hy9], List.take_length] at hR9
        have q1 := hsub9 _ (List.Mem.tail _ (List.Mem.tail _ (List.Mem.tail _ (List.Mem.tail _ (List.Mem.head _)))))
        have q2 := hsub9 _ (List.Mem.tail _ (List.Mem.tail _ (List.Mem.tail _ (List.Mem.tail _ (List.Mem.tail _ (List.Mem.head _))))))
        have q3 := hsub9 _ (List.Mem.tail _ (List.Mem.tail _ (List.Mem.tail _ (List.Mem.tail _ (List.Mem.tail _ (List.Mem.tail _ (List.Mem.tail _ (List.Mem.tail _ (List.Mem.head _)))))))))
        have q4 := hsub9 _ (List.Mem.tail _ (List.Mem.tail _ (List.Mem.tail _ (List.Mem.tail _ (List.Mem.tail _ (List.Mem.tail _ (List.Mem.head _)))))))
        have q5 := hsub9 _ (List.Mem.tail _ (List.Mem.tail _ (List.Mem.tail _ (List.Mem.tail _ (List.Mem.tail _ (List.Mem.tail _ (List.Mem.tail _ (List.Mem.head _))))))))
        k_steps
        unfold Hold
        k_dflt (refine LCg.ListComp_U (F₀ := by k_asm) (by with_unfolding_all rfl) (by decide) (by rfl) (by decide) (by rfl) ?_)
        k_steps
        unfold Hold
        rename_i Dd hd1 tkd Fd Nd od hd2 tkd2 ta tb tc Rd F2 N2 kd
        obtain ⟨hl1, hl2, hl3⟩ := HL i j ss9 (by omega) (by omega) hperm hsort
        refine LCg.CompSrc.range (n := j - i) (by rfl) F2 N2 Rd (small_one (by omega) (by omega) (by omega) (by omega)) (by rw [rangeSize_nat]; omega) (by rw [sizeLine_eq]; omega) ?_
        intro g0
        refine comp_inv (fun i9 zs nw2 => Rows3 nw2 zs ((dueOf x i j ss9).take i9) ∧ (∀ p ∈ (Dd, LCg.lst ys) :: nw, p ∈ nw2)) ?start2 ?turn2 ?fin2
        case start2 => exact ⟨.nil, fun _ h => h⟩
        case turn2 =>
          intro i9 v9 I9 oI9 C9 oC9 D8 m₂ zs nw2 h9 tk9 E9 hi9 hv9 hJ9 hC9 hx9 F9 N9 off9 ne9
          obtain ⟨hZ9, hsub2⟩ := hJ9
          obtain ⟨t9, hv9⟩ := hv9
          rw [Int.zero_add] at hv9
          subst hv9
          have r1 := hsub2 _ (List.Mem.tail _ q1)
          have r2 := hsub2 _ (List.Mem.tail _ q2)
          have r4 := hsub2 _ (List.Mem.tail _ q4)
          have r5 := hsub2 _ (List.Mem.tail _ q5)
          obtain ⟨c9, hc9⟩ : ∃ c, ss9[i9]? = some c := ⟨_, List.getElem?_eq_getElem (by omega)⟩
          obtain ⟨Wk, hW0, hW1, hW2⟩ := hl3 i9 c9 hc9
          have hT2 : TreeAt w ((I9, oI9) :: (C9, oC9) :: (D8, LCg.lst zs) :: nw2) dc dp Tr P := hT.grow fun p hp => List.Mem.tail _ (List.Mem.tail _ (List.Mem.tail _ (hsub2 p (List.Mem.tail _ (hsub9 p (List.Mem.tail _ (List.Mem.tail _ (List.Mem.tail _ (List.Mem.tail _ (List.Mem.tail _ (List.Mem.tail _ (List.Mem.tail _ (List.Mem.tail _ (List.Mem.tail _ (hp)))))))))))))))
          k_steps
          unfold Hold
          with_unfolding_all refine' Does.use ?z1 ?z2 ?z3 ?z4 ?z5 ?z6 (least w dc dp Tr P Wk _ _ _ _ _ _ _ hT2 hW0 hW1) ?z11 ?z12 ?_
          case z1 => k_asm
          case z2 => k_asm
          case z3 => k_asm
          case z4 => k_asm
          case z5 => k_asm
          case z6 => first | exact rfl | assumption
          case z11 => ktr_room
          case z12 => ktr_units
          rintro r9 news9 h9 tk9 ⟨az, nz, node, u1, i', u2, j', u3, k', rfl, rfl, hlt, hWn, hnl⟩ Fz Nz
          obtain ⟨rfl, rfl, rfl⟩ := hW2 _ _ _ _ hWn hnl
          (try dsimp only); (try k_fold)
          k_steps
          unfold Hold
          refine LCg.CompEnd.intro Fz Nz ((az, W.listOf #[.str node u1, .int (Txt.count (Txt.slice x none (some (i : Int))) node) u2, .int (Txt.count (Txt.slice x none (some (j : Int))) node) u3] nz) :: nw2) (by intro p hp; simp only [List.mem_cons] at hp ⊢; rcases hp with hp | hp | hp | hp | hp <;> simp only [hp, true_or, or_true]) ⟨⟨Nat.ne_of_gt (hlt _ (List.Mem.head _)), Nat.ne_of_gt (hlt _ (List.Mem.tail _ (List.Mem.head _))), Nat.ne_of_gt (hlt _ (List.Mem.tail _ (List.Mem.tail _ (List.Mem.head _))))⟩, off9⟩ trivial ⟨?_, fun p hp => List.Mem.tail _ (hsub2 p hp)⟩
          rw [take_snoc (dueOf_at hc9)]
          exact (hZ9.grow fun p hp => List.Mem.tail _ hp).snoc (List.Mem.head _)
        case fin2 =>
          intro zs nw2 hJ9
          obtain ⟨hZ9, hsub2⟩ := hJ9
          have r1 := hsub2 _ (List.Mem.head _)
          rw [List.take_of_length_le (by unfold dueOf; rw [List.length_map, hl1]; exact Nat.le_refl _)] at hZ9
          k_steps
          unfold Hold
          rename_i Dz hz tkz Fz Nz oz
          refine ne_rows Nz (List.Mem.head _) (List.Mem.tail _ r1) (hZ9.grow fun p hp => List.Mem.tail _ hp) (hR9.grow fun p hp => List.Mem.tail _ (hsub2 p (List.Mem.tail _ hp))) (fun r hr => by obtain ⟨c, hc, rfl⟩ := List.mem_map.mp hr; exact hl2 c hc) (by ktr_units) ?_
          k_steps
          refine kend oj2 Fz Nz ⟨_, hcj⟩ (fun p hp => absurd hp List.not_mem_nil) (by (intro z h2 h3; simp only [List.contains_cons, List.contains_nil, Bool.or_false, Bool.or_eq_false_iff, beq_eq_false_iff_ne, ne_eq] at h3; simp [kstB, h3])) (fun p hp => List.Mem.tail _ (hsub2 p (List.Mem.tail _ (hsub9 p (List.Mem.tail _ hp))))) hO7 (fun p hp => absurd hp List.not_mem_nil)
end
section
/-- where in a row a letter of the part stands -/
noncomputable def idx (p : Nat → Bool) : Nat → List Nat → List Nat
  | _, [] => []
  | k, c :: M => (if p c then [k] else []) ++ idx p (k + 1) M
def nums (L : List Nat) : List Int := L.map fun k : Nat => (k : Int)
theorem idx_append (p : Nat → Bool) : ∀ (A B : List Nat) (k : Nat), idx p k (A ++ B) = idx p k A ++ idx p (k + A.length) B
  | [], B, k => by simp [idx]
  | a :: A, B, k => by
    simp only [List.cons_append, idx, List.length_cons]
    rw [idx_append p A B (k + 1), List.append_assoc, show k + 1 + A.length = k + (A.length + 1) by omega]
theorem idx_ge (p : Nat → Bool) : ∀ (M : List Nat) (k a : Nat), a ∈ idx p k M → k ≤ a ∧ a < k + M.length
  | [], k, a, h => by simp [idx] at h
  | c :: M, k, a, h => by
    simp only [idx, List.mem_append] at h
    rcases h with h | h
    · split at h
      · have := List.mem_singleton.mp h; subst this; simp
      · simp at h
    · have := idx_ge p M (k + 1) a h
      simp only [List.length_cons]; omega
theorem idx_len (p : Nat → Bool) : ∀ (M : List Nat) (k : Nat), (idx p k M).length = (M.filter p).length
  | [], _ => rfl
  | c :: M, k => by
    simp only [idx, List.length_append, idx_len p M (k + 1), List.filter_cons]
    by_cases h : p c = true <;> simp [h]; omega
theorem idx_sorted (p : Nat → Bool) : ∀ (M : List Nat) (k : Nat), (idx p k M).Pairwise (· < ·)
  | [], _ => List.Pairwise.nil
  | c :: M, k => by
    simp only [idx]
    have ih := idx_sorted p M (k + 1)
    split
    · exact List.pairwise_cons.mpr ⟨fun a ha => (idx_ge p M (k + 1) a ha).1, ih⟩
    · exact ih
theorem nums_sorted {L : List Nat} (h : L.Pairwise (· < ·)) : (nums L).Pairwise (· < ·) := by
  unfold nums
  rw [List.pairwise_map]
  exact h.imp fun h => by omega
theorem nums_app (A B : List Nat) : nums (A ++ B) = nums A ++ nums B := List.map_append
theorem cnt_app (A B : List Int) (x : Int) : cnt (A ++ B) x = cnt A x + cnt B x := by simp [cnt]
theorem cnt_big {L : List Nat} {k : Nat} (h : ∀ a ∈ L, k ≤ a) : cnt (nums L) (k : Int) = 0 := by
  unfold cnt nums
  rw [List.length_eq_zero_iff, List.filter_eq_nil_iff]
  intro a ha
  obtain ⟨b, hb, rfl⟩ := List.mem_map.mp ha
  have := h b hb
  simp; omega
theorem cnt_idx (p : Nat → Bool) : ∀ (M : List Nat) (k i : Nat), cnt (nums (idx p k M)) ((k + i : Nat) : Int) = ((M.take i).filter p).length
  | [], k, i => by simp [idx, nums, cnt]
  | c :: M, k, 0 => by
    rw [Nat.add_zero, cnt_big fun a ha => (idx_ge p _ _ a ha).1]; rfl
  | c :: M, k, i + 1 => by
    have ih := cnt_idx p M (k + 1) i
    rw [show k + 1 + i = k + (i + 1) by omega] at ih
    simp only [idx]
    rw [nums_app, cnt_app, ih]
    simp only [List.take_succ_cons, List.filter_cons]
    by_cases h : p c = true
    · simp [h, nums, cnt, show ((k : Int) < (k : Int) + ((i : Int) + 1)) by omega]; omega
    · simp [h, nums, cnt]
theorem idx_map (p q : Nat → Bool) : ∀ (M pre : List Nat) (k : Nat), (idx q pre.length (M.filter p)).map (fun s => (pre ++ idx p k M).getD s 0) = idx (fun c => p c && q c) k M
  | [], pre, k => by simp [idx]
  | c :: M, pre, k => by
    by_cases hp : p c = true
    · have ih := idx_map p q M (pre ++ [k]) (k + 1)
      rw [List.length_append, List.length_singleton, List.append_assoc] at ih
      simp only [List.filter_cons, hp, if_true, idx, List.map_append, Bool.true_and]
      rw [ih]
      by_cases hq : q c = true
      · simp [hq]
      · simp [hq]
    · have ih := idx_map p q M pre (k + 1)
      simp only [List.filter_cons, hp, Bool.false_eq_true, if_false, idx, List.nil_append, Bool.false_and]
      exact ih
theorem idx_congr {p q : Nat → Bool} : ∀ (M : List Nat) (k : Nat), (∀ c ∈ M, p c = q c) → idx p k M = idx q k M
  | [], _, _ => rfl
  | c :: M, k, h => by
    simp only [idx]
    rw [h c List.mem_cons_self, idx_congr M (k + 1) fun c hc => h c (List.mem_cons_of_mem _ hc)]
theorem idx_comap (p : Nat → Bool) (f : Nat → Nat) : ∀ (M : List Nat) (k : Nat), idx p k (M.map f) = idx (fun c => p (f c)) k M
  | [], _ => rfl
  | c :: M, k => by
    simp only [List.map_cons, idx]
    rw [idx_comap p f M (k + 1)]
theorem range_idx (M : List Nat) (c : Nat) : ∀ n, n ≤ M.length → (List.range n).filter (fun k => decide (M[k]? = some c)) = idx (fun a => a == c) 0 (M.take n)
  | 0, _ => by simp [idx]
  | n + 1, h => by
    have ih := range_idx M c n (by omega)
    rw [List.range_succ, List.filter_append, ih, List.take_add_one, idx_append, List.length_take, Nat.min_eq_left (by omega), Nat.zero_add]
    have hn : M[n]? = some M[n] := List.getElem?_eq_getElem (by omega)
    rw [hn]
    by_cases e : M[n] = c
    · simp [idx, hn, e]
    · simp [idx, hn, e]
theorem pos_idx (x : Str) (c : Nat) : posUpTo x c x.length = nums (idx (fun a => a == c) 0 x.cps.toList) := by
  have h := range_idx x.cps.toList c x.cps.toList.length (Nat.le_refl _)
  rw [List.take_length] at h
  unfold posUpTo nums
  rw [← h]
  simp only [Array.getElem?_toList]
  rfl
theorem nums_getD (L : List Nat) (s : Nat) : (nums L).getD s 0 = ((L.getD s 0 : Nat) : Int) := by
  unfold nums
  simp only [List.getD_eq_getElem?_getD, List.getElem?_map]
  cases L[s]? <;> rfl
theorem climb_map (p q : Nat → Bool) (M : List Nat) : (nums (idx q 0 (M.filter p))).map (fun s => (nums (idx p 0 M)).getD s.toNat 0) = nums (idx (fun c => p c && q c) 0 M) := by
  have h := idx_map p q M [] 0
  rw [← h]
  unfold nums
  rw [List.map_map, List.map_map]
  refine List.map_congr_left fun s _ => ?_
  have := nums_getD (idx p 0 M) s
  unfold nums at this
  simpa using this
/-- the letters -/
def inS (s : Str) (c : Nat) : Bool := s.cps.toList.contains c
def abcdL : List Nat := [97, 98, 99, 100]
def parts9 : List Str := [Str.ofString "a", Str.ofString "b", Str.ofString "c", Str.ofString "d", Str.ofString "ab", Str.ofString "bc", Str.ofString "cd", Str.ofString "abc", Str.ofString "bcd"]
theorem low9 : ∀ p ∈ parts9, Txt.lower p = p ∧ Txt.lower (Txt.upper p) = p := by decide +kernel
theorem hits_app (nm : Str) (A B : List (Str × Str)) : hits nm (A ++ B) = hits nm A ++ hits nm B := by simp [hits]
noncomputable def rowFrom (l r : Str) : Nat → List Nat → List (Str × Str)
  | _, [] => []
  | k, c :: m => rowAt l r k c :: rowFrom l r (k + 1) m
theorem rowsM_from (l r : Str) : ∀ (m : List Nat) (k : Nat), (m.mapIdx fun i c => rowAt l r (i + k) c) = rowFrom l r k m
  | [], _ => rfl
  | c :: m, k => by
    have ih := rowsM_from l r m (k + 1)
    rw [List.mapIdx_cons, Nat.zero_add]
    show rowAt l r k c :: _ = rowAt l r k c :: _
    rw [← ih]
    congr 2
    funext i c
    rw [show i + 1 + k = i + (k + 1) by omega]
theorem hits_row {l r part : Str} (hl : l ∈ parts9) (hr : r ∈ parts9) (hp : part ∈ parts9) : ∀ (m : List Nat) (k : Nat), hits (Txt.upper part) (rowFrom l r k m) = (idx (fun c => if c = 48 then decide (l = part) else decide (r = part)) k m).map dig
  | [], _ => rfl
  | c :: m, k => by
    have ih := hits_row hl hr hp m (k + 1)
    have hq : Txt.lower (rowAt l r k c).1 = if c = 48 then l else r := by
      unfold rowAt
      by_cases h2 : k % 2 = 1 <;> by_cases hc : c = 48 <;> simp [h2, hc, (low9 l hl).1, (low9 l hl).2, (low9 r hr).1, (low9 r hr).2]
    show hits _ ([rowAt l r k c] ++ rowFrom l r (k + 1) m) = _
    rw [hits_app, ih]
    simp only [idx, List.map_append]
    congr 1
    unfold hits
    rw [List.filter_cons, hq, (low9 part hp).2]
    by_cases hc : c = 48
    · by_cases e : l = part <;> simp [hc, e, rowAt]
    · by_cases e : r = part <;> simp [hc, e, rowAt]
/-- what replace makes of a text -/
noncomputable def subA (ps : List (Str × Str)) (L : List Nat) : List Nat := ps.foldl (fun L p => sub1 (p.1.cps.toList.headD 0) p.2.cps.toList L) L
theorem subA_append : ∀ (ps : List (Str × Str)) (A B : List Nat), subA ps (A ++ B) = subA ps A ++ subA ps B
  | [], _, _ => rfl
  | p :: ps, A, B => by
    show subA ps (sub1 _ _ (A ++ B)) = subA ps (sub1 _ _ A) ++ subA ps (sub1 _ _ B)
    rw [sub1_append, subA_append ps]
theorem subA_nil : ∀ (ps : List (Str × Str)), subA ps [] = []
  | [] => rfl
  | _ :: ps => subA_nil ps
theorem subA_flat (ps : List (Str × Str)) : ∀ L : List Nat, subA ps L = L.flatMap fun c => subA ps [c]
  | [] => subA_nil ps
  | c :: L => by
    have h := subA_append ps [c] L
    rw [subA_flat ps L] at h
    simpa using h
theorem repAll_cps : ∀ (ps : List (Str × Str)) (x : Str), Ones ps → (repAll x ps).cps.toList = subA ps x.cps.toList
  | [], _, _ => rfl
  | p :: ps, x, h => by
    obtain ⟨⟨a⟩, b⟩ := p
    have h1 : a.size = 1 := (h _ List.mem_cons_self).1
    obtain ⟨c, rfl⟩ : ∃ c, a = #[c] := by
      rcases a with ⟨_ | ⟨c, _ | ⟨d, r⟩⟩⟩
      · simp at h1
      · exact ⟨c, rfl⟩
      · simp at h1
    show (repAll (R1 x ⟨#[c]⟩ b) ps).cps.toList = subA ps (sub1 c b.cps.toList x.cps.toList)
    rw [repAll_cps ps _ fun q hq => h q (List.mem_cons_of_mem _ hq), R1_cps]
def pairsR (node l r : Str) : List (Str × Str) := (outs node).map (fun l => (l, Str.ofString "")) ++ ((signsOf l).map (fun l => (l, Str.ofString "0")) ++ (signsOf r).map (fun l => (l, Str.ofString "1")))
abbrev RowOk (node l r : Str) : Prop := ∀ c ∈ abcdL, subA (pairsR node l r) [c] = if inS node c then [if inS l c then 48 else 49] else []
theorem marks_is {x node l r : Str} (hx : ∀ c ∈ x.cps.toList, c ∈ abcdL) (h : RowOk node l r) : (marksOf x node l r).cps.toList = (x.cps.toList.filter (inS node)).map fun c => if inS l c then 48 else 49 := by
  have e : marksOf x node l r = repAll x (pairsR node l r) := by
    unfold marksOf rowOf pairsR repAll
    simp only [List.foldl_append]
  have ho : Ones (pairsR node l r) := Ones.app (ones_outs _ _ (by decide)) (Ones.app (ones_signs _ _ (by decide)) (ones_signs _ _ (by decide)))
  rw [e, repAll_cps _ _ ho, subA_flat]
  generalize x.cps.toList = L at hx
  induction L with
  | nil => rfl
  | cons c L ih =>
    rw [List.flatMap_cons, ih fun c hc => hx c (List.mem_cons_of_mem _ hc), h c (hx c List.mem_cons_self), List.filter_cons]
    by_cases hc : inS node c = true <;> simp [hc]
end
section
abbrev Tree := List (Str × Str × Str)
def rowT (T : Tree) (node : Str) : Option (Str × Str) := (T.find? fun row => decide (row.1 = node)).map (·.2)
def par (T : Tree) (part : Str) : Str := ((T.find? fun row => decide (row.2.1 = part ∨ row.2.2 = part)).map (·.1)).getD part
def stepF (T : Tree) (c : Nat) (f node : Str) : Str := if inS node c = true ∧ node ≠ Str.ofString "abcd" then par T node else f
def frame (T : Tree) (c : Nat) (i : Nat) : Str := (((T.map (·.1)).reverse.take i).foldl (stepF T c) (par T ⟨#[c]⟩))
structure GoodT (T : Tree) : Prop where
  len : T.length ≤ 3
  row : ∀ row ∈ T, RowOk row.1 row.2.1 row.2.2
  parts : ∀ p ∈ partsT T, p ∈ parts9
  nodup : (partsT T).Nodup
  node : ∀ row ∈ T, row.1 = Str.ofString "abcd" ∨ row.1 ∈ partsT T
  top : (rowT T (Str.ofString "abcd")).isSome = true
  tall : ∀ p ∈ partsT T, 1 < p.length → (rowT T p).isSome = true
  par : ∀ row ∈ T, par T row.2.1 = row.1 ∧ par T row.2.2 = row.1
  cut : ∀ row ∈ T, ∀ c ∈ abcdL, inS row.1 c = (inS row.2.1 c || inS row.2.2 c)
  order : ∀ row ∈ T, ∀ a ∈ abcdL, ∀ b ∈ abcdL, inS row.2.1 a = true → inS row.2.2 b = true → a < b
  sizes : ∀ row ∈ T, row.2.1.length < row.1.length ∧ row.2.2.length < row.1.length ∧ row.1.length < 1000
  leaf : ∀ c ∈ abcdL, (⟨#[c]⟩ : Str) ∈ partsT T
  up : ∀ c ∈ abcdL, ∀ i ∈ List.range T.length, ∀ node ∈ (T.map (·.1)).reverse[i]?, inS node c = true → node ≠ Str.ofString "abcd" → frame T c i = node
  last : ∀ c ∈ abcdL, frame T c T.length = Str.ofString "abcd"
theorem good00 : GoodT tree00 := by constructor <;> decide +kernel
theorem good01 : GoodT tree01 := by constructor <;> decide +kernel
theorem good1 : GoodT tree1 := by constructor <;> decide +kernel
theorem good20 : GoodT tree20 := by constructor <;> decide +kernel
theorem good21 : GoodT tree21 := by constructor <;> decide +kernel
theorem idx_false {p : Nat → Bool} : ∀ (M : List Nat) (k : Nat), (∀ c, p c = false) → idx p k M = []
  | [], _, _ => rfl
  | c :: M, k, h => by simp only [idx, h c, Bool.false_eq_true, if_false, List.nil_append]; exact idx_false M (k + 1) h
theorem flatMap_nil {α β : Type} {g : α → List β} : ∀ (T : List α), (∀ q ∈ T, g q = []) → T.flatMap g = []
  | [], _ => rfl
  | a :: T, h => by rw [List.flatMap_cons, h a List.mem_cons_self, flatMap_nil T fun q hq => h q (List.mem_cons_of_mem _ hq)]; rfl
theorem flatMap_one {α β γ : Type} {g : α → List β} {h : α → List γ} {part : γ} : ∀ (T : List α) (row : α), row ∈ T → (T.flatMap h).Nodup → part ∈ h row → (∀ q ∈ T, part ∉ h q → g q = []) → T.flatMap g = g row
  | a :: T, row, hm, hd, hp, hg => by
    rw [List.flatMap_cons, List.nodup_append] at hd
    obtain ⟨_, hd2, hd3⟩ := hd
    rw [List.flatMap_cons]
    rcases List.mem_cons.mp hm with rfl | hm
    · rw [flatMap_nil T, List.append_nil]
      intro q hq
      refine hg q (List.mem_cons_of_mem _ hq) fun hpq => ?_
      exact hd3 part hp part (List.mem_flatMap.mpr ⟨q, hq, hpq⟩) rfl
    · rw [hg a List.mem_cons_self fun hpa => hd3 part hpa part (List.mem_flatMap.mpr ⟨row, hm, hp⟩) rfl, List.nil_append]
      exact flatMap_one T row hm hd2 hp fun q hq => hg q (List.mem_cons_of_mem _ hq)
theorem hits_flat (nm : Str) (f : Str × Str × Str → List (Str × Str)) : ∀ T : Tree, hits nm (T.flatMap f) = T.flatMap fun row => hits nm (f row)
  | [] => rfl
  | a :: T => by rw [List.flatMap_cons, hits_app, hits_flat nm f T, List.flatMap_cons]
theorem two_ne {T : Tree} {row : Str × Str × Str} (h : (partsT T).Nodup) (hm : row ∈ T) : row.2.1 ≠ row.2.2 := by
  unfold partsT at h
  induction T with
  | nil => simp at hm
  | cons a T ih =>
    rw [List.flatMap_cons, List.nodup_append] at h
    rcases List.mem_cons.mp hm with rfl | hm
    · have := h.1
      simp at this; exact this
    · exact ih h.2.1 hm
theorem mem_parts {T : Tree} {row : Str × Str × Str} (hm : row ∈ T) : row.2.1 ∈ partsT T ∧ row.2.2 ∈ partsT T :=
  ⟨List.mem_flatMap.mpr ⟨row, hm, by simp⟩, List.mem_flatMap.mpr ⟨row, hm, by simp⟩⟩
theorem placesT {x : Str} {T : Tree} (G : GoodT T) (hx : ∀ c ∈ x.cps.toList, c ∈ abcdL) (h10 : x.length ≤ 10) {row : Str × Str × Str} (hm : row ∈ T) {part : Str} (hp : part = row.2.1 ∨ part = row.2.2) :
    placesOf (rowsT x T) part = nums (idx (inS part) 0 (x.cps.toList.filter (inS row.1))) := by
  have h9 : ∀ q ∈ T, q.2.1 ∈ parts9 ∧ q.2.2 ∈ parts9 := fun q hq => ⟨G.parts _ (mem_parts hq).1, G.parts _ (mem_parts hq).2⟩
  have hp9 : part ∈ parts9 := by rcases hp with rfl | rfl; exact (h9 _ hm).1; exact (h9 _ hm).2
  have e1 : ∀ q ∈ T, hits (Txt.upper part) (rowsM q.2.1 q.2.2 (marksOf x q.1 q.2.1 q.2.2).cps.toList) = (idx (fun c => if c = 48 then decide (q.2.1 = part) else decide (q.2.2 = part)) 0 (marksOf x q.1 q.2.1 q.2.2).cps.toList).map dig := fun q hq => by
    rw [← hits_row (h9 q hq).1 (h9 q hq).2 hp9, ← rowsM_from]; rfl
  have e2 : hits (Txt.upper part) (rowsT x T) = (idx (fun c => if c = 48 then decide (row.2.1 = part) else decide (row.2.2 = part)) 0 (marksOf x row.1 row.2.1 row.2.2).cps.toList).map dig := by
    unfold rowsT
    rw [hits_flat, ← e1 row hm]
    refine flatMap_one (h := fun q : Str × Str × Str => [q.2.1, q.2.2]) (part := part) T row hm G.nodup (by rcases hp with rfl | rfl <;> simp) fun q hq hn => ?_
    rw [e1 q hq, idx_false]
    · rfl
    · intro c
      simp only [List.mem_cons, List.not_mem_nil, or_false, not_or] at hn
      by_cases hc : c = 48
      · simp [hc, Ne.symm hn.1]
      · simp [hc, Ne.symm hn.2]
  have e3 : idx (fun c => if c = 48 then decide (row.2.1 = part) else decide (row.2.2 = part)) 0 (marksOf x row.1 row.2.1 row.2.2).cps.toList = idx (inS part) 0 (x.cps.toList.filter (inS row.1)) := by
    rw [marks_is hx (G.row row hm), idx_comap]
    refine idx_congr _ _ fun c hc => ?_
    obtain ⟨hc1, hc2⟩ := List.mem_filter.mp hc
    have hcut := G.cut row hm c (hx c hc1)
    have hord := G.order row hm c (hx c hc1) c (hx c hc1)
    rw [hc2] at hcut
    have hne := two_ne G.nodup hm
    rcases hp with rfl | rfl
    · by_cases hl : inS row.2.1 c = true
      · simp [hl]
      · simp [hl, Ne.symm hne]
    · by_cases hl : inS row.2.1 c = true
      · have : ¬ inS row.2.2 c = true := fun hr => absurd (hord hl hr) (Nat.lt_irrefl _)
        simp [hl, hne, this]
      · have : inS row.2.2 c = true := by simpa [hl] using hcut.symm
        simp [hl, this]
  unfold placesOf
  rw [e2, e3, List.map_map]
  unfold nums
  refine List.map_congr_left fun a ha => ?_
  have := (idx_ge _ _ _ _ ha).2
  have h2 : (x.cps.toList.filter (inS row.1)).length ≤ x.cps.toList.length := List.length_filter_le _ _
  have h3 : x.cps.toList.length ≤ 10 := by simpa [Str.length] using h10
  exact undig_dig a (by omega)
theorem par_row {T : Tree} {part : Str} (h : part ∈ partsT T) : ∃ row ∈ T, (part = row.2.1 ∨ part = row.2.2) ∧ par T part = row.1 := by
  unfold par
  cases e : T.find? fun row => decide (row.2.1 = part ∨ row.2.2 = part) with
  | none =>
    exfalso
    rw [List.find?_eq_none] at e
    obtain ⟨row, hr, hp⟩ := List.mem_flatMap.mp h
    have := e row hr
    simp only [List.mem_cons, List.not_mem_nil, or_false] at hp
    rcases hp with rfl | rfl <;> simp at this
  | some row =>
    have h1 := List.mem_of_find?_eq_some e
    have h2 := List.find?_some e
    refine ⟨row, h1, ?_, rfl⟩
    simp only [decide_eq_true_eq] at h2
    rcases h2 with h2 | h2
    · exact .inl h2.symm
    · exact .inr h2.symm
noncomputable def PT (x : Str) (T : Tree) (part : Str) : Option (List Int) := if part ∈ partsT T then some (nums (idx (inS part) 0 (x.cps.toList.filter (inS (par T part))))) else none
theorem rowT_mem {T : Tree} {node l r : Str} (h : rowT T node = some (l, r)) : (node, l, r) ∈ T := by
  unfold rowT at h
  rw [Option.map_eq_some_iff] at h
  obtain ⟨row, h1, h2⟩ := h
  have h3 := List.mem_of_find?_eq_some h1
  have h4 := List.find?_some h1
  simp only [decide_eq_true_eq] at h4
  obtain ⟨n, lr⟩ := row
  dsimp only at h2 h4
  subst h2 h4
  exact h3
theorem CutRows.find {news : List (Addr × Obj)} {node l r : Str} : ∀ {kvs : List (Str × Value)} {T : Tree}, CutRows news kvs T → rowT T node = some (l, r) → ∃ a n t1 t2, valueAt kvs node = some (.ref a) ∧ (a, W.listOf #[.str l t1, .str r t2] n) ∈ news
  | _, _, .nil, h => by simp [rowT] at h
  | _, _, .cons (x := x) (l := l') (r := r') (a := a) (n := n) (t1 := t1) (t2 := t2) (T := T') hm rs, h => by
    by_cases e : x = node
    · subst e
      simp only [rowT, List.find?_cons, decide_true, Option.map_some, Option.some.injEq, Prod.mk.injEq] at h
      obtain ⟨rfl, rfl⟩ := h
      exact ⟨a, n, t1, t2, by simp [valueAt], hm⟩
    · have h' : rowT T' node = some (l, r) := by
        simp only [rowT, List.find?_cons, e, decide_false] at h
        exact h
      obtain ⟨a', n', u1, u2, h1, h2⟩ := CutRows.find rs h'
      exact ⟨a', n', u1, u2, by simp only [valueAt, List.find?_cons, e, decide_false]; exact h1, h2⟩
theorem CutRows.keys {news : List (Addr × Obj)} : ∀ {kvs : List (Str × Value)} {T : Tree}, CutRows news kvs T → kvs.map (·.1) = T.map (·.1)
  | _, _, .nil => rfl
  | _, _, .cons _ rs => by simp [rs.keys]
theorem PT_of {x : Str} {T : Tree} (G : GoodT T) (hx : ∀ c ∈ x.cps.toList, c ∈ abcdL) (h10 : x.length ≤ 10) {part : Str} {ps : List Int} (h : PT x T part = some ps) : part ∈ partsT T ∧ ps = nums (idx (inS part) 0 (x.cps.toList.filter (inS (par T part)))) ∧ placesOf (rowsT x T) part = ps ∧ ps.length < 1000 ∧ ps.Pairwise (· < ·) := by
  unfold PT at h
  split at h
  · rename_i hm
    have h := (Option.some.inj h).symm
    subst h
    obtain ⟨row, hr, hp, hpar⟩ := par_row hm
    refine ⟨hm, rfl, by rw [placesT G hx h10 hr hp, hpar], ?_, nums_sorted (idx_sorted _ _ _)⟩
    unfold nums
    rw [List.length_map, idx_len]
    have h1 : ((x.cps.toList.filter (inS (par T part))).filter (inS part)).length ≤ (x.cps.toList.filter (inS (par T part))).length := List.length_filter_le _ _
    have h2 : (x.cps.toList.filter (inS (par T part))).length ≤ x.cps.toList.length := List.length_filter_le _ _
    have h3 : x.cps.toList.length ≤ 10 := by simpa [Str.length] using h10
    omega
  · cases h
theorem tree_at {w : World} {x : Str} {T : Tree} {news : List (Addr × Obj)} {dc dP : Addr} {oP : Obj} {kvP : List (Str × Value)} (G : GoodT T) (hx : ∀ c ∈ x.cps.toList, c ∈ abcdL) (h10 : x.length ≤ 10) (hC : CutsAt w news dc T) (hm : (dP, oP) ∈ news) (ho : oP.IsDictOf (PySem.strKind Challenge.rw_pm0054_01.row.prog w) kvP) (hl : kvP.length ≤ 2 * 3) (hP : PlDone news kvP (rowsT x T) (partsT T)) :
    TreeAt w news dc dP (rowT T) (PT x T) ∧ ClimbAt w news dc dP (T.map (·.1)) (PT x T) := by
  obtain ⟨o, kvs, h1, h2, h3, h4⟩ := hC
  have hlen : kvs.length ≤ 3 := h4.len ▸ G.len
  refine ⟨⟨⟨o, kvs, h2, h1, by omega, fun node l r e => h4.find e⟩, ⟨oP, kvP, hm, ho, by omega, fun part ps e => ?_⟩⟩, ⟨⟨o, kvs, h2, h1, by omega, h3, h4.keys⟩, ⟨oP, kvP, hm, ho, by omega, fun part ps e => ?_⟩⟩⟩
  · obtain ⟨q1, q2, q3, q4, q5⟩ := PT_of G hx h10 e
    obtain ⟨a, ys, n, r1, r2, r3⟩ := hP part q1
    exact ⟨a, List.toArray ys, n, r1, r2, by rw [← q3]; simpa using r3, q4, q5⟩
  · obtain ⟨q1, q2, q3, q4, q5⟩ := PT_of G hx h10 e
    obtain ⟨a, ys, n, r1, r2, r3⟩ := hP part q1
    exact ⟨a, ys, n, r1, r2, by rw [← q3]; exact r3, q4⟩
end
section
def sg (c : Nat) : Str := ⟨#[c]⟩
theorem inS_sg (a c : Nat) : inS (sg a) c = (c == a) := by
  unfold inS sg
  by_cases e : c = a <;> simp [e]
theorem inS_abcd : ∀ c ∈ abcdL, inS (Str.ofString "abcd") c = true := by decide +kernel
theorem parts_len : ∀ p ∈ parts9, 0 < p.length ∧ p.length < 1000 := by decide +kernel
theorem filter_all {p : Nat → Bool} : ∀ (L : List Nat), (∀ c ∈ L, p c = true) → L.filter p = L := fun L h => List.filter_eq_self.mpr h
theorem count_sg (y : Str) (c : Nat) : Txt.count y (sg c) = ((y.cps.toList.filter (inS (sg c))).length : Int) := by
  have h : Txt.count y (sg c) = PyProof.Rows.cnt c y.cps.toList := count_cnt y c
  rw [h]
  generalize y.cps.toList = L
  induction L with
  | nil => rfl
  | cons d L ih =>
    rw [cnt_cons, ih, List.filter_cons, inS_sg]
    by_cases e : d = c
    · simp [e]; omega
    · simp [e]
theorem rising : ∀ (S : List Nat) (p : Nat), risingS (sg p) (S.map sg) = true → (∀ b ∈ S, p ≤ b) ∧ S.Pairwise (· ≤ ·)
  | [], p, _ => ⟨fun b hb => by simp at hb, List.Pairwise.nil⟩
  | x :: r, p, h => by
    have h' : (!ltCps (sg x).cps.toList (sg p).cps.toList && risingS (sg x) (r.map sg)) = true := h
    rw [Bool.and_eq_true] at h'
    obtain ⟨h1, h2⟩ := h'
    obtain ⟨i1, i2⟩ := rising r x h2
    have hpx : p ≤ x := by
      simp [sg, ltCps] at h1
      omega
    refine ⟨fun b hb => ?_, List.pairwise_cons.mpr ⟨i1, i2⟩⟩
    rcases List.mem_cons.mp hb with rfl | hb
    · exact hpx
    · exact Nat.le_trans hpx (i1 b hb)
theorem sorted_up : ∀ (S : List Nat), sortedS (S.map sg) = true → S.Pairwise (· ≤ ·)
  | [], _ => List.Pairwise.nil
  | x :: r, h => by
    have h' : risingS (sg x) (r.map sg) = true := h
    obtain ⟨i1, i2⟩ := rising r x h'
    exact List.pairwise_cons.mpr ⟨i1, i2⟩
section
variable {node l r : Str}
/-- a set of letters, cut in two -/
structure Cut2 (node l r : Str) : Prop where
  cut : ∀ c ∈ abcdL, inS node c = (inS l c || inS r c)
  order : ∀ a ∈ abcdL, ∀ b ∈ abcdL, inS l a = true → inS r b = true → a < b
theorem Cut2.no (h : Cut2 node l r) {c : Nat} (hc : c ∈ abcdL) (hl : inS l c = true) : inS r c = false := by
  cases e : inS r c with
  | false => rfl
  | true => exact absurd (h.order c hc c hc hl e) (Nat.lt_irrefl _)
theorem Cut2.split (h : Cut2 node l r) : ∀ (S : List Nat), (∀ c ∈ S, c ∈ abcdL) → S.Pairwise (· ≤ ·) → S.filter (inS node) = S.filter (inS l) ++ S.filter (inS r)
  | [], _, _ => rfl
  | s :: S, ha, hp => by
    have ih := h.split S (fun c hc => ha c (List.mem_cons_of_mem _ hc)) (List.pairwise_cons.mp hp).2
    have hs := ha s List.mem_cons_self
    have hle := (List.pairwise_cons.mp hp).1
    have hcut := h.cut s hs
    by_cases hl : inS l s = true
    · have hr := h.no hs hl
      simp only [List.filter_cons, hcut, hl, hr, Bool.true_or, if_true, Bool.false_eq_true, if_false, List.cons_append, ih]
    · by_cases hr : inS r s = true
      · have hnil : S.filter (inS l) = [] := by
          rw [List.filter_eq_nil_iff]
          intro b hb hbl
          have := h.order b (ha b (List.mem_cons_of_mem _ hb)) s hs hbl hr
          have := hle b hb
          omega
        rw [hnil, List.nil_append] at ih
        simp only [List.filter_cons, hcut, hl, hr, Bool.or_true, if_true, hnil, List.nil_append, ih]
        simp
      · simp only [List.filter_cons, hcut, hl, hr, Bool.or_self, Bool.false_eq_true, if_false, ih]
theorem Cut2.len (h : Cut2 node l r) : ∀ (S : List Nat), (∀ c ∈ S, c ∈ abcdL) → (S.filter (inS node)).length = (S.filter (inS l)).length + (S.filter (inS r)).length
  | [], _ => rfl
  | s :: S, ha => by
    have ih := h.len S (fun c hc => ha c (List.mem_cons_of_mem _ hc))
    have hs := ha s List.mem_cons_self
    have hcut := h.cut s hs
    by_cases hl : inS l s = true
    · have hr := h.no hs hl
      simp only [List.filter_cons, hcut, hl, hr, Bool.true_or, if_true, Bool.false_eq_true, if_false, List.length_cons, ih]
      omega
    · by_cases hr : inS r s = true
      · simp only [List.filter_cons, hcut, hl, hr, Bool.or_true, if_true, Bool.false_eq_true, if_false, List.length_cons, ih]
        omega
      · simp only [List.filter_cons, hcut, hl, hr, Bool.or_self, Bool.false_eq_true, if_false, ih]
theorem Cut2.inl (h : Cut2 node l r) (S : List Nat) (ha : ∀ c ∈ S, c ∈ abcdL) : (S.filter (inS node)).filter (inS l) = S.filter (inS l) := by
  rw [List.filter_filter]
  refine List.filter_congr fun c hc => ?_
  rw [h.cut c (ha c hc)]
  cases inS l c <;> simp
theorem Cut2.inr (h : Cut2 node l r) (S : List Nat) (ha : ∀ c ∈ S, c ∈ abcdL) : (S.filter (inS node)).filter (inS r) = S.filter (inS r) := by
  rw [List.filter_filter]
  refine List.filter_congr fun c hc => ?_
  rw [h.cut c (ha c hc)]
  cases inS r c <;> simp
end
theorem take_filter (p : Nat → Bool) (L : List Nat) (n : Nat) : (L.filter p).take ((L.take n).filter p).length = (L.take n).filter p := by
  have h : L.filter p = (L.take n).filter p ++ (L.drop n).filter p := by rw [← List.filter_append, List.take_append_drop]
  rw [h, List.take_left']
  rfl
def WL (L S : List Nat) (T : Tree) (i0 j0 c0 : Nat) (node : Str) (i j k : Int) : Prop :=
  (node = Str.ofString "abcd" ∨ node ∈ partsT T) ∧ i = (((L.take i0).filter (inS node)).length : Int) ∧ j = (((L.take j0).filter (inS node)).length : Int) ∧ 0 ≤ k ∧ (S.filter (inS node))[k.toNat]? = some c0
theorem WL_step {x : Str} {T : Tree} {S : List Nat} {i0 j0 c0 : Nat} (G : GoodT T) (hx : ∀ c ∈ x.cps.toList, c ∈ abcdL) (hij : i0 < j0) (hp : S.Perm ((x.cps.toList.drop i0).take (j0 - i0))) (hs : S.Pairwise (· ≤ ·)) {node : Str} {i j k : Int} (h : WL x.cps.toList S T i0 j0 c0 node i j k) :
    node.length < 1000 ∧ (1 < node.length → ∃ l r ps, rowT T node = some (l, r) ∧ PT x T l = some ps ∧ i ≤ j ∧ l.length < node.length ∧ r.length < node.length ∧
       (k < cnt ps j - cnt ps i → WL x.cps.toList S T i0 j0 c0 l (cnt ps i) (cnt ps j) k) ∧ (¬ k < cnt ps j - cnt ps i → WL x.cps.toList S T i0 j0 c0 r (i - cnt ps i) (j - cnt ps j) (k - (cnt ps j - cnt ps i)))) := by
  obtain ⟨hn, hi, hj, hk, hget⟩ := h
  have hn1 : node.length < 1000 := by
    rcases hn with rfl | hn
    · decide
    · exact (parts_len _ (G.parts _ hn)).2
  refine ⟨hn1, fun hlen => ?_⟩
  have hsome : (rowT T node).isSome = true := by
    rcases hn with rfl | hn
    · exact G.top
    · exact G.tall _ hn hlen
  obtain ⟨⟨l, r⟩, hrow⟩ := Option.isSome_iff_exists.mp hsome
  have hm := rowT_mem hrow
  have hc : Cut2 node l r := ⟨G.cut _ hm, G.order _ hm⟩
  obtain ⟨hlp, hrp⟩ := mem_parts hm
  obtain ⟨hpl, hpr⟩ := G.par _ hm
  obtain ⟨hz1, hz2, _⟩ := G.sizes _ hm
  dsimp only at hlp hrp hpl hpr hz1 hz2
  generalize hL : x.cps.toList = L at hx hp hi hj ⊢
  have hLi : ∀ c ∈ L.take i0, c ∈ abcdL := fun c hc => hx c (List.mem_of_mem_take hc)
  have hLj : ∀ c ∈ L.take j0, c ∈ abcdL := fun c hc => hx c (List.mem_of_mem_take hc)
  have hS : ∀ c ∈ S, c ∈ abcdL := fun c hc => hx c (List.mem_of_mem_drop (List.mem_of_mem_take (hp.mem_iff.mp hc)))
  have hsplit := hc.split S hS hs
  have hpre : L.take j0 = L.take i0 ++ (L.drop i0).take (j0 - i0) := by
    rw [← List.take_add, show i0 + (j0 - i0) = j0 by omega]
  have hcj : ((L.take j0).filter (inS l)).length = ((L.take i0).filter (inS l)).length + (S.filter (inS l)).length := by
    rw [hpre, List.filter_append, List.length_append, (hp.filter (inS l)).length_eq]
  have hlei : ((L.take i0).filter (inS node)).length ≤ ((L.take j0).filter (inS node)).length := by
    rw [hpre, List.filter_append, List.length_append]; omega
  have hcnt : ∀ n, cnt (nums (idx (inS l) 0 (L.filter (inS node)))) (((L.take n).filter (inS node)).length : Int) = ((L.take n).filter (inS l)).length := fun n => by
    have h := cnt_idx (inS l) (L.filter (inS node)) 0 ((L.take n).filter (inS node)).length
    rw [Nat.zero_add, take_filter, hc.inl _ (fun c hc => hx c (List.mem_of_mem_take hc))] at h
    exact h
  refine ⟨l, r, nums (idx (inS l) 0 (L.filter (inS node))), hrow, ?_, by omega, hz1, hz2, ?_, ?_⟩
  · unfold PT
    rw [if_pos hlp, hpl, hL]
  · intro hlt
    rw [hi, hj, hcnt, hcnt] at hlt ⊢
    refine ⟨.inr hlp, rfl, rfl, hk, ?_⟩
    rw [hsplit, List.getElem?_append_left (by omega)] at hget
    exact hget
  · intro hge
    rw [hi, hj, hcnt, hcnt] at hge ⊢
    have e1 := hc.len (L.take i0) hLi
    have e2 := hc.len (L.take j0) hLj
    refine ⟨.inr hrp, by omega, by omega, by omega, ?_⟩
    rw [hsplit, List.getElem?_append_right (by omega)] at hget
    rw [← hget]
    congr 1
    omega
theorem slice_mid {x : Str} {i j : Nat} (hij : i < j) (hj : j ≤ x.length) : Txt.slice x (some (i : Int)) (some (j : Int)) = ⟨((x.cps.toList.drop i).take (j - i)).toArray⟩ := by
  have hl : x.length = x.cps.toList.length := by simp [Str.length]
  have h := slice_closes (x := x) (i := (i : Int)) (j := (j : Int)) ⟨by omega, by omega, by omega⟩
  have h := eq_of_beq h
  rw [h, show ((i : Int)).toNat = i by omega, show ((j : Int) - (i : Int)).toNat = j - i by omega]
theorem slice_pre {x : Str} {i : Nat} (hi : i ≤ x.length) : Txt.slice x none (some (i : Int)) = ⟨(x.cps.toList.take i).toArray⟩ := by
  have hl : x.length = x.cps.toList.length := by simp [Str.length]
  have h := slice_closes_to (x := x) (j := (i : Int)) ⟨by omega, by omega⟩
  have h := eq_of_beq h
  rw [h]
  simp
theorem one_sign {s : Str} (h : s.length = 1) : ∃ a, s = sg a := by
  obtain ⟨⟨l⟩⟩ := s
  rcases l with _ | ⟨c, _ | ⟨d, r⟩⟩
  · simp [Str.length] at h
  · exact ⟨c, rfl⟩
  · simp [Str.length] at h
theorem WL_end {x : Str} {T : Tree} {S : List Nat} {i0 j0 c0 : Nat} (G : GoodT T) (hi0 : i0 ≤ x.length) (hj0 : j0 ≤ x.length) {node : Str} {i j k : Int} (h : WL x.cps.toList S T i0 j0 c0 node i j k) (h1 : ¬ 1 < node.length) :
    node = sg c0 ∧ i = Txt.count (Txt.slice x none (some (i0 : Int))) (sg c0) ∧ j = Txt.count (Txt.slice x none (some (j0 : Int))) (sg c0) := by
  obtain ⟨hn, hi, hj, hk, hget⟩ := h
  have h0 : 0 < node.length := by
    rcases hn with rfl | hn
    · decide
    · exact (parts_len _ (G.parts _ hn)).1
  obtain ⟨a, rfl⟩ := one_sign (show node.length = 1 by omega)
  have hmem := List.mem_of_getElem? hget
  have hca := (List.mem_filter.mp hmem).2
  rw [inS_sg] at hca
  have hca : c0 = a := by simpa using hca
  subst hca
  refine ⟨rfl, ?_, ?_⟩
  · rw [hi, count_sg, slice_pre hi0]
  · rw [hj, count_sg, slice_pre hj0]
theorem lay_sg : ∀ a ∈ abcdL, PyData.canLay0 (.str (sg a)) = true := by
  intro a ha
  simp only [abcdL, List.mem_cons, List.not_mem_nil, or_false] at ha
  rcases ha with rfl | rfl | rfl | rfl <;> simp [PyData.canLay0, sg] <;> decide +kernel
theorem HLT {x : Str} {T : Tree} (G : GoodT T) (hx : ∀ c ∈ x.cps.toList, c ∈ abcdL) :
    ∀ (i j : Nat) (os : List Str), i < j → j ≤ x.length → os.Perm (signsOf (Txt.slice x (some (i : Int)) (some (j : Int)))) → sortedS os = true → os.length = j - i ∧ (∀ c ∈ os, PyData.canLay0 (.str c) = true) ∧ ∀ (k : Nat) (c : Str), os[k]? = some c → ∃ W : Str → Int → Int → Int → Prop, W (Str.ofString "abcd") i j k ∧
     (∀ node i j k, W node i j k → node.length < 1000 ∧ (1 < node.length → ∃ l r ps, rowT T node = some (l, r) ∧ PT x T l = some ps ∧ i ≤ j ∧ l.length < node.length ∧ r.length < node.length ∧
       (k < cnt ps j - cnt ps i → W l (cnt ps i) (cnt ps j) k) ∧ (¬ k < cnt ps j - cnt ps i → W r (i - cnt ps i) (j - cnt ps j) (k - (cnt ps j - cnt ps i))))) ∧
     (∀ node i' j' k', W node i' j' k' → ¬ 1 < node.length → node = c ∧ i' = Txt.count (Txt.slice x none (some (i : Int))) c ∧ j' = Txt.count (Txt.slice x none (some (j : Int))) c) := by
  intro i j os hij hj hperm hsort
  have hl : x.length = x.cps.toList.length := by simp [Str.length]
  have hsig : signsOf (Txt.slice x (some (i : Int)) (some (j : Int))) = ((x.cps.toList.drop i).take (j - i)).map sg := by
    rw [slice_mid hij hj]; rfl
  rw [hsig] at hperm
  obtain ⟨S, hS⟩ : ∃ S, os = S.map sg := ⟨os.map fun s => s.cps.toList.headD 0, by
    rw [List.map_map]
    symm
    rw [List.map_congr_left (g := id), List.map_id]
    intro s hs
    obtain ⟨c, _, rfl⟩ := List.mem_map.mp (hperm.mem_iff.mp hs)
    rfl⟩
  subst hS
  have hP : S.Perm ((x.cps.toList.drop i).take (j - i)) := by
    have h := hperm.map fun s => s.cps.toList.headD 0
    rw [List.map_map, List.map_map] at h
    have e : ∀ L : List Nat, L.map ((fun s : Str => s.cps.toList.headD 0) ∘ sg) = L := fun L => by
      rw [List.map_congr_left (g := id), List.map_id]
      intro s _; rfl
    rw [e, e] at h
    exact h
  have hup := sorted_up S hsort
  have hSa : ∀ c ∈ S, c ∈ abcdL := fun c hc => hx c (List.mem_of_mem_drop (List.mem_of_mem_take (hP.mem_iff.mp hc)))
  refine ⟨?_, ?_, ?_⟩
  · rw [List.length_map, hP.length_eq, List.length_take, List.length_drop]; omega
  · intro c hc
    obtain ⟨a, ha, rfl⟩ := List.mem_map.mp hc
    exact lay_sg a (hSa a ha)
  · intro k c hc
    rw [List.getElem?_map, Option.map_eq_some_iff] at hc
    obtain ⟨c0, hc0, rfl⟩ := hc
    refine ⟨WL x.cps.toList S T i j c0, ⟨.inl rfl, ?_, ?_, by omega, ?_⟩, fun node i' j' k' h => WL_step G hx hij hP hup h, fun node i' j' k' h h1 => WL_end G (by omega) hj h h1⟩
    · rw [filter_all _ fun c hc => inS_abcd c (hx c (List.mem_of_mem_take hc)), List.length_take]; omega
    · rw [filter_all _ fun c hc => inS_abcd c (hx c (List.mem_of_mem_take hc)), List.length_take]; omega
    · rw [filter_all _ fun c hc => inS_abcd c (hSa c hc)]; simpa using hc0
theorem frame_succ {T : Tree} {c i : Nat} {node : Str} (h : (T.map (·.1)).reverse[i]? = some node) : frame T c (i + 1) = stepF T c (frame T c i) node := by
  unfold frame
  rw [List.take_add_one, h, List.foldl_append]; rfl
theorem par_cut {T : Tree} (G : GoodT T) {part : Str} (h : part ∈ partsT T) {L : List Nat} (hx : ∀ c ∈ L, c ∈ abcdL) : (L.filter (inS (par T part))).filter (inS part) = L.filter (inS part) := by
  obtain ⟨row, hr, hp, hpar⟩ := par_row h
  have hc : Cut2 row.1 row.2.1 row.2.2 := ⟨G.cut _ hr, G.order _ hr⟩
  rw [hpar]
  rcases hp with rfl | rfl
  · exact hc.inl L hx
  · exact hc.inr L hx
theorem HCT {x : Str} {T : Tree} (G : GoodT T) (hx : ∀ c ∈ x.cps.toList, c ∈ abcdL) (h10 : x.length ≤ 10) :
    ∀ (k c : Nat), (Str.ofString "abcd").cps[k]? = some c → ∃ (C : Nat → List Int → Prop) (ps0 : List Int), PT x T ⟨#[c]⟩ = some ps0 ∧ C 0 ps0 ∧
     (∀ i node sp, (T.map (·.1)).reverse[i]? = some node → C i sp → sp.length < 1000 ∧ node.length < 1000 ∧
       ((Builtin.Str.occurrences node ⟨#[c]⟩ 0 node.length 1).isEmpty = false → node ≠ Str.ofString "abcd" → ∃ ps, PT x T node = some ps ∧ (∀ s ∈ sp, 0 ≤ s ∧ s < ps.length) ∧ C (i + 1) (sp.map fun s => ps.getD s.toNat 0)) ∧
       (((Builtin.Str.occurrences node ⟨#[c]⟩ 0 node.length 1).isEmpty = true ∨ node = Str.ofString "abcd") → C (i + 1) sp)) ∧
     (∀ sp, C (T.map (·.1)).length sp → sp = posUpTo x c x.length) := by
  intro k c hk
  have hc : c ∈ abcdL := by
    have h := List.mem_of_getElem? (show (Str.ofString "abcd").cps.toList[k]? = some c by rw [Array.getElem?_toList]; exact hk)
    have e : (Str.ofString "abcd").cps.toList = abcdL := by decide +kernel
    rw [e] at h; exact h
  have hsg : ∀ M : List Nat, idx (inS (sg c)) 0 M = idx (fun a => a == c) 0 M := fun M => idx_congr M 0 fun a _ => inS_sg c a
  have hlenf : ∀ f : Str, (nums (idx (fun a => a == c) 0 (x.cps.toList.filter (inS f)))).length < 1000 := fun f => by
    unfold nums
    rw [List.length_map, idx_len]
    have h1 : ((x.cps.toList.filter (inS f)).filter (fun a => a == c)).length ≤ (x.cps.toList.filter (inS f)).length := List.length_filter_le _ _
    have h2 : (x.cps.toList.filter (inS f)).length ≤ x.cps.toList.length := List.length_filter_le _ _
    have h3 : x.cps.toList.length ≤ 10 := by simpa [Str.length] using h10
    omega
  refine ⟨fun i sp => sp = nums (idx (fun a => a == c) 0 (x.cps.toList.filter (inS (frame T c i)))), nums (idx (fun a => a == c) 0 (x.cps.toList.filter (inS (par T (sg c))))), ?_, rfl, ?_, ?_⟩
  · show PT x T (sg c) = _
    unfold PT
    rw [if_pos (show sg c ∈ partsT T from G.leaf c hc), hsg]
  · intro i node sp hnode hC
    subst hC
    have hkey : node ∈ T.map (·.1) := List.mem_reverse.mp (List.mem_of_getElem? hnode)
    obtain ⟨row, hr, hrow⟩ := List.mem_map.mp hkey
    have hi : i < T.length := by
      by_cases h : i < T.length
      · exact h
      · rw [List.getElem?_eq_none (by simpa using h)] at hnode; cases hnode
    have hocc : (Builtin.Str.occurrences node ⟨#[c]⟩ 0 node.length 1).isEmpty = !decide (c ∈ node.cps.toList) := empty_one node c
    have hin : inS node c = decide (c ∈ node.cps.toList) := by
      unfold inS
      by_cases e : c ∈ node.cps.toList <;> simp [e]
    refine ⟨hlenf _, hrow ▸ (G.sizes row hr).2.2, ?_, ?_⟩
    · intro h1 h2
      have hhit : inS node c = true := by rw [hin]; simpa [hocc] using h1
      have hfr := G.up c hc i (List.mem_range.mpr hi) node (by rw [hnode]; rfl) hhit h2
      have hpart : node ∈ partsT T := by
        rcases G.node row hr with h | h
        · exact absurd (hrow ▸ h) h2
        · exact hrow ▸ h
      refine ⟨nums (idx (inS node) 0 (x.cps.toList.filter (inS (par T node)))), by unfold PT; rw [if_pos hpart], ?_, ?_⟩
      · intro s hs
        obtain ⟨a, ha, rfl⟩ := List.mem_map.mp hs
        rw [hfr] at ha
        have hlt := (idx_ge _ _ _ _ ha).2
        have e : (nums (idx (inS node) 0 (x.cps.toList.filter (inS (par T node))))).length = (x.cps.toList.filter (inS node)).length := by
          unfold nums
          rw [List.length_map, idx_len, par_cut G hpart hx]
        rw [e]
        omega
      · show _ = nums (idx (fun a => a == c) 0 (x.cps.toList.filter (inS (frame T c (i + 1)))))
        rw [frame_succ hnode, hfr]
        unfold stepF
        rw [if_pos ⟨hhit, h2⟩]
        have h := climb_map (inS node) (fun a => a == c) (x.cps.toList.filter (inS (par T node)))
        rw [par_cut G hpart hx] at h
        rw [h]
        congr 1
        refine idx_congr _ _ fun a _ => ?_
        by_cases e : a = c
        · subst e; simp [hhit]
        · simp [e]
    · intro h
      show _ = nums (idx (fun a => a == c) 0 (x.cps.toList.filter (inS (frame T c (i + 1)))))
      rw [frame_succ hnode]
      unfold stepF
      rw [if_neg]
      rintro ⟨h1, h2⟩
      rcases h with h | h
      · rw [hin] at h1
        rw [hocc] at h
        simp only [Bool.not_eq_true'] at h
        rw [h] at h1; cases h1
      · exact h2 h
  · intro sp hC
    rw [List.length_map] at hC
    rw [hC, G.last c hc, filter_all _ fun a ha => inS_abcd a (hx a ha), pos_idx]
end
section
structure PartOk (l : Str) : Prop where
  cnt : (signsOf l).length = l.length
  szl : l.length ≤ 10
  nl : NoCtl 48 l
  nll : NoCtl 48 (Txt.lower (Txt.upper l))
  zul : (Txt.upper l).length ≤ 10
  nul : NoCtl 48 (Txt.upper l)
theorem partOk9 : ∀ p ∈ parts9, PartOk p := by
  intro p hp
  have hlow := (low9 p hp).2
  have hcnt := signs_len p
  simp only [parts9, List.mem_cons, List.not_mem_nil, or_false] at hp
  rcases hp with rfl | rfl | rfl | rfl | rfl | rfl | rfl | rfl | rfl
  · exact ⟨hcnt, by decide +kernel, nc_a, by rw [hlow]; exact nc_a, by rw [up_a]; decide +kernel, by rw [up_a]; exact nu_a⟩
  · exact ⟨hcnt, by decide +kernel, nc_b, by rw [hlow]; exact nc_b, by rw [up_b]; decide +kernel, by rw [up_b]; exact nu_b⟩
  · exact ⟨hcnt, by decide +kernel, nc_c, by rw [hlow]; exact nc_c, by rw [up_c]; decide +kernel, by rw [up_c]; exact nu_c⟩
  · exact ⟨hcnt, by decide +kernel, nc_d, by rw [hlow]; exact nc_d, by rw [up_d]; decide +kernel, by rw [up_d]; exact nu_d⟩
  · exact ⟨hcnt, by decide +kernel, nc_ab, by rw [hlow]; exact nc_ab, by rw [up_ab]; decide +kernel, by rw [up_ab]; exact nu_ab⟩
  · exact ⟨hcnt, by decide +kernel, nc_bc, by rw [hlow]; exact nc_bc, by rw [up_bc]; decide +kernel, by rw [up_bc]; exact nu_bc⟩
  · exact ⟨hcnt, by decide +kernel, nc_cd, by rw [hlow]; exact nc_cd, by rw [up_cd]; decide +kernel, by rw [up_cd]; exact nu_cd⟩
  · exact ⟨hcnt, by decide +kernel, nc_abc, by rw [hlow]; exact nc_abc, by rw [up_abc]; decide +kernel, by rw [up_abc]; exact nu_abc⟩
  · exact ⟨hcnt, by decide +kernel, nc_bcd, by rw [hlow]; exact nc_bcd, by rw [up_bcd]; decide +kernel, by rw [up_bcd]; exact nu_bcd⟩
abbrev Fits (T : Tree) : Prop := ∀ row ∈ T, row.2.1.length + row.2.2.length ≤ 4
structure BestT (T : Tree) : Prop extends GoodT T where
  fits : Fits T
theorem BestT.ok {T : Tree} (G : BestT T) : ∀ row ∈ T, NodeOk row.2.1 row.2.2 := fun row hr => by
  obtain ⟨h1, h2⟩ := mem_parts hr
  have a := partOk9 _ (G.parts _ h1)
  have b := partOk9 _ (G.parts _ h2)
  have c := G.fits row hr
  exact ⟨by rw [a.cnt, b.cnt]; exact c, a.szl, b.szl, a.nl, b.nl, a.nll, b.nll, a.zul, b.zul, a.nul, b.nul⟩
theorem BestT.bits {T : Tree} (G : BestT T) {x : Str} (hx : ∀ c ∈ x.cps.toList, c ∈ abcdL) : ∀ row ∈ T, ∀ c ∈ (marksOf x row.1 row.2.1 row.2.2).cps.toList, c = 48 ∨ c = 49 := fun row hr c hc => by
  rw [marks_is hx (G.row row hr)] at hc
  obtain ⟨a, _, rfl⟩ := List.mem_map.mp hc
  split
  · exact .inl rfl
  · exact .inr rfl
theorem placesB (w : World) (x : Str) (t : Tok) (dc : Addr) (T : Tree) (news : List (Addr × Obj)) (G : BestT T) (hx : ∀ c ∈ x.cps.toList, c ∈ abcdL) (h10 : x.length ≤ 10) (hC : CutsAt w news dc T)
   : Does w 10 221 [.str x t, .ref dc] news (fun r news' => ∃ dP, r = .ref dP ∧ (∀ p ∈ news, p ∈ news') ∧ TreeAt w news' dc dP (rowT T) (PT x T) ∧ ClimbAt w news' dc dP (T.map (·.1)) (PT x T)) := by
  refine (places w x t dc T news hC h10 G.len (G.bits hx) G.ok).mono fun r nw h => ?_
  obtain ⟨dP, oP, kvP, h1, h2, h3, h4, h5, _, h7⟩ := h
  have hC2 : CutsAt w nw dc T := by
    obtain ⟨o, kvs, a, b, c, d⟩ := hC
    have grow : ∀ {kvs : List (Str × Value)} {T : Tree}, CutRows news kvs T → CutRows nw kvs T := by
      intro kvs T h
      induction h with
      | nil => exact .nil
      | cons hm _ ih => exact .cons (h2 _ hm) ih
    exact ⟨o, kvs, a, h2 _ b, c, grow d⟩
  exact ⟨dP, h1, h2, tree_at G.toGoodT hx h10 hC2 h3 h4 h5 h7⟩
theorem agreesB (w : World) (x : Str) (t : Tok) (dc dP : Addr) (T : Tree) (news : List (Addr × Obj)) (G : BestT T) (hx : ∀ c ∈ x.cps.toList, c ∈ abcdL) (h10 : x.length ≤ 10) (hT : TreeAt w news dc dP (rowT T) (PT x T)) (hK : ClimbAt w news dc dP (T.map (·.1)) (PT x T))
   : Does w 6 238 [.str x t, .ref dc, .ref dP] news (fun r news' => r = .bool true ∧ news' = news) :=
  agrees w x t dc dP (rowT T) (PT x T) (T.map (·.1)) news h10 hT hK (HLT G.toGoodT hx) (HCT G.toGoodT hx h10)
theorem cutsB (w : World) (x : Int) (t : Tok) (news : List (Addr × Obj))
   : Does w 4 209 [.int x t] news (fun r news' => ∃ dc T, BestT T ∧ r = .ref dc ∧ (∀ p ∈ news, p ∈ news') ∧ CutsAt w news' dc T) := by
  have h3 : Int.fmod x 3 = 0 ∨ Int.fmod x 3 = 1 ∨ Int.fmod x 3 = 2 := by
    rw [Int.fmod_eq_emod_of_nonneg _ (by decide)]; omega
  have h2 : Int.fmod (Int.fdiv x 3) 2 = 0 ∨ Int.fmod (Int.fdiv x 3) 2 = 1 := by
    rw [Int.fmod_eq_emod_of_nonneg _ (by decide)]; omega
  rcases h3 with h3 | h3 | h3
  · rcases h2 with h2 | h2
    · exact (cuts00 w x t news h3 h2).mono fun r nw ⟨dc, a, b, c⟩ => ⟨dc, tree00, ⟨good00, by decide +kernel⟩, a, b, c⟩
    · exact (cuts01 w x t news h3 h2).mono fun r nw ⟨dc, a, b, c⟩ => ⟨dc, tree01, ⟨good01, by decide +kernel⟩, a, b, c⟩
  · exact (cuts1 w x t news h3).mono fun r nw ⟨dc, a, b, c⟩ => ⟨dc, tree1, ⟨good1, by decide +kernel⟩, a, b, c⟩
  · rcases h2 with h2 | h2
    · exact (cuts20 w x t news h3 h2).mono fun r nw ⟨dc, a, b, c⟩ => ⟨dc, tree20, ⟨good20, by decide +kernel⟩, a, b, c⟩
    · exact (cuts21 w x t news h3 h2).mono fun r nw ⟨dc, a, b, c⟩ => ⟨dc, tree21, ⟨good21, by decide +kernel⟩, a, b, c⟩
end
section
local macro_rules | `(tactic| walk_at "call ref") => `(tactic| (k_here; (with_reducible show wpAny _ _ (call (Value.ref _) _ _) _ _ _); refine Hold.of ?_))
local macro_rules | `(tactic| walk_at "CompSrc") => `(tactic| (refine Hold.of ?_))
local macro_rules | `(tactic| walk_at "CompEnd") => `(tactic| (refine Hold.of ?_))
local macro_rules | `(tactic| walk_at "binaryOp Add str str") => `(tactic| (k_here; refine Hold.of ?_))
local macro_rules | `(tactic| walk_at "call builtin:str.join") => `(tactic| (k_here; refine Hold.of ?_))
def letter (k : Int) : Str := Txt.item (Str.ofString "abcd") (Int.fmod k 4)
theorem letter_is (k : Int) : ∃ c ∈ abcdL, letter k = sg c := by
  have h : Int.fmod k 4 = 0 ∨ Int.fmod k 4 = 1 ∨ Int.fmod k 4 = 2 ∨ Int.fmod k 4 = 3 := by
    rw [Int.fmod_eq_emod_of_nonneg _ (by decide)]; omega
  unfold letter
  rcases h with h | h | h | h <;> rw [h]
  · exact ⟨97, by decide, by decide +kernel⟩
  · exact ⟨98, by decide, by decide +kernel⟩
  · exact ⟨99, by decide, by decide +kernel⟩
  · exact ⟨100, by decide, by decide +kernel⟩
theorem letters_snoc {L : List Int} {i : Nat} {n : Int} {ys : List Value} {t : Tok} (h : L[i]? = some n) (hy : StrsAre ys ((L.take i).map letter)) : StrsAre (ys ++ [.str (letter n) t]) ((L.take (i + 1)).map letter) := by
  rw [List.take_add_one, h, List.map_append]
  exact kct_snoc hy
theorem letters_sum : ∀ (L : List Int), ((L.map letter).map (·.length)).sum = L.length
  | [] => rfl
  | k :: L => by
    obtain ⟨c, _, h⟩ := letter_is k
    simp only [List.map_cons, List.sum_cons, List.length_cons, letters_sum L, h]
    show 1 + _ = _
    omega
theorem join_letters : ∀ (L : List Int), (Str.join (Str.ofString "") (L.map letter)).cps.toList.length = L.length ∧ ∀ c ∈ (Str.join (Str.ofString "") (L.map letter)).cps.toList, c ∈ abcdL
  | [] => ⟨rfl, fun c h => by cases h⟩
  | [k] => by
    obtain ⟨c, hc, h⟩ := letter_is k
    show (letter k).cps.toList.length = 1 ∧ ∀ c ∈ (letter k).cps.toList, c ∈ abcdL
    rw [h]
    exact ⟨rfl, fun a ha => by rw [List.mem_singleton.mp ha]; exact hc⟩
  | k :: k2 :: L => by
    obtain ⟨i1, i2⟩ := join_letters (k2 :: L)
    obtain ⟨c, hc, h⟩ := letter_is k
    have e : (Str.join (Str.ofString "") ((k :: k2 :: L).map letter)).cps.toList = c :: (Str.join (Str.ofString "") ((k2 :: L).map letter)).cps.toList := by
      show (letter k ++ Str.ofString "" ++ Str.join (Str.ofString "") ((k2 :: L).map letter)).cps.toList = _
      simp only [Str.cps_append, Array.toList_append, h]
      have e0 : (Str.ofString "").cps.toList = [] := by decide +kernel
      rw [e0]; rfl
    rw [e]
    exact ⟨by simp only [List.length_cons] at i1 ⊢; omega, fun a ha => by
      rcases List.mem_cons.mp ha with rfl | ha
      · exact hc
      · exact i2 a ha⟩
theorem text_ok (L : List Int) (hL : L.length ≤ 3) : (Txt.join (Str.ofString "") (L.map letter)).length ≤ 3 ∧ (Txt.join (Str.ofString "") (L.map letter) ++ Str.ofString "cac").length ≤ 10 ∧ ∀ c ∈ (Txt.join (Str.ofString "") (L.map letter) ++ Str.ofString "cac").cps.toList, c ∈ abcdL := by
  have e : Txt.join (Str.ofString "") (L.map letter) = Str.join (Str.ofString "") (L.map letter) := by
    show Builtin.Str.glued _ _ = _
    rw [StrLaws.glued_eq_join]
  obtain ⟨h1, h2⟩ := join_letters L
  rw [e]
  have hl : (Str.join (Str.ofString "") (L.map letter)).length ≤ 3 := by
    have : (Str.join (Str.ofString "") (L.map letter)).length = (Str.join (Str.ofString "") (L.map letter)).cps.toList.length := by simp [Str.length]
    omega
  refine ⟨hl, ?_, ?_⟩
  · rw [Str.length_append]
    have : (Str.ofString "cac").length = 3 := by decide +kernel
    omega
  · intro c hc
    rw [Str.cps_append, Array.toList_append, List.mem_append] at hc
    rcases hc with hc | hc
    · exact h2 c hc
    · have e3 : (Str.ofString "cac").cps.toList = [99, 97, 99] := by decide +kernel
      rw [e3] at hc
      simp only [List.mem_cons, List.not_mem_nil, or_false] at hc
      rcases hc with rfl | rfl | rfl <;> decide
theorem whole : PySem.Challenge.rw_pm0054_01.Holds := by
  k_with_none
  w_top off
  refine Mine.hd ?_
  k_go0
  (all_goals try k_fold)
  k_steps
  unfold Hold
  rename_i Dq wsq hq Fq Nq hIq hCq hLq lq
  (with_reducible rename List Int => ns)
  have hwl : wsq.toArray.size = (ns.take 3).length := by rw [List.size_toArray]; exact hIq.length
  have hz3 : (ns.take 3).length ≤ 3 := by rw [List.length_take]; omega
  refine LCg.CompSrc.ledger (by rfl) Fq Nq (List.Mem.head _) (small_ok (by omega)) ?_
  intro g0
  refine comp_const (fun i ys => StrsAre ys (((ns.take 3).take i).map letter)) ?start ?turn ?fin
  case start => exact StrsAre.nil
  case turn =>
    intro i9 v9 I9 oI9 C9 oC9 D8 m₂ ys h9 tk9 E9 hi9 hv9 hJ9 hC9 hx9 F9 N9 off9 ne9
    obtain ⟨n9, t9, hn9, rfl⟩ := ints_at hIq i9 v9 (by simpa using hv9)
    k_steps
    unfold Hold
    (with_reducible rename News _ _ _ _ => hN1)
    (with_reducible rename LCg.Off3 _ _ _ _ => hO1)
    refine LCg.CompEnd.intro (by assumption) hN1 _ (fun p hp => by (repeat' (first | exact hp | refine List.Mem.tail _ ?_))) hO1 (.inr ⟨_, List.Mem.head _, rfl, _, rfl⟩) ⟨rfl, ?_⟩
    exact letters_snoc hn9 hJ9
  case fin =>
    intro ys hJ9
    rw [hwl, List.take_length] at hJ9
    k_steps
    unfold Hold
    (with_reducible rename News _ _ _ _ => hN9)
    refine join_list (hN9.isList (List.Mem.head _)) (by rw [List.toList_toArray]; exact hJ9) (by rw [letters_sum, show (Str.ofString "").length = 0 by decide +kernel, Nat.mul_zero]; omega) ?_
    intro t9 k9
    obtain ⟨hj1, hj2, hj3⟩ := text_ok (ns.take 3) hz3
    k_steps
    unfold Hold
    refine PyProof.Rows.add_str (fun t8 k8 => ?_) (by rw [sizeLine_eq]; have : (Str.ofString "cac").length = 3 := by decide +kernel
                                                      omega)
    generalize Txt.join (Str.ofString "") ((ns.take 3).map letter) ++ Str.ofString "cac" = y at hj2 hj3 ⊢
    k_steps
    unfold Hold
    with_unfolding_all refine' Does.use ?u1 ?u2 ?u3 ?u4 ?u5 ?u6 (cutsB _ _ _ _) ?u11 ?u12 ?_
    case u1 => k_asm
    case u2 => k_asm
    case u3 => k_asm
    case u4 => k_asm
    case u5 => k_asm
    case u6 => first | exact rfl | assumption
    case u11 => ktr_room
    case u12 => ktr_units
    rintro r9 news9 h9 tk9 ⟨dc, T, G, rfl, hsub, hC⟩ F9 N9
    (try dsimp only); (try k_fold)
    k_steps
    unfold Hold
    with_unfolding_all refine' Does.use ?v1 ?v2 ?v3 ?v4 ?v5 ?v6 (placesB _ _ _ _ _ _ G hj3 hj2 hC) ?v11 ?v12 ?_
    case v1 => k_asm
    case v2 => k_asm
    case v3 => k_asm
    case v4 => k_asm
    case v5 => k_asm
    case v6 => first | exact rfl | assumption
    case v11 => ktr_room
    case v12 => ktr_units
    rintro r9 news9 h9 tk9 ⟨dP, rfl, hsub2, hT, hK⟩ F9 N9
    (try dsimp only); (try k_fold)
    k_steps
    unfold Hold
    with_unfolding_all refine' Does.use ?x1 ?x2 ?x3 ?x4 ?x5 ?x6 (agreesB _ _ _ _ _ _ _ G hj3 hj2 hT hK) ?x11 ?x12 ?_
    case x1 => k_asm
    case x2 => k_asm
    case x3 => k_asm
    case x4 => k_asm
    case x5 => k_asm
    case x6 => first | exact rfl | assumption
    case x11 => ktr_room
    case x12 => ktr_units
    rintro r9 news9 h9 tk9 ⟨rfl, rfl⟩ F9 N9
    (try dsimp only); (try k_fold)
    k_steps
end
end Mine
theorem PySem.Challenge.cw_pm0054_01_holds : PySem.Challenge.rw_pm0054_01.Holds := by
  exact Mine.whole
