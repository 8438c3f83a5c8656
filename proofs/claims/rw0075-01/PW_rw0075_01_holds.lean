import PyProof.Rows.All
import Wide.All
import OpenK.AllK
import Wide.FinOn
import Lean
import PySem.Challenge.RW_rw0075_01
open PySem PySem.W PyProof.Rows
set_option Elab.async false
set_option maxRecDepth 100000
set_option maxHeartbeats 8000000
set_option rowWalk.seconds 0
set_option linter.all false
namespace Mine

section
open_top hd for PySem.Challenge.rw_rw0075_01
end

local macro_rules | `(tactic| walk_at $s:str) => `(tactic| k_extra $s)

section
/-- the text of the signs l -/
noncomputable def S (l : List Nat) : Str := ⟨l.toArray⟩
/-- a text as a value -/
noncomputable def sv (p : List Nat × Tok) : Value := .str (S p.1) p.2

/-- what a call of f with vs gives: R, every object of the caller's as it was -/
abbrev Gives (w : World) (mean : ExcName → Option Value) (mg mb : Str → Option Value) (f : Addr) (d u : Nat) (pre : List (Addr × Obj) → Prop) (vs : List Value) (R : Tok → Value) : Prop :=
  ∀ (dp un : Nat) (gd : Option (List Code)) (cn : Str) (cs : Scope) (a : Addr) (ccd : Value) (cl : List (Str × Addr)) (outer : List Env) (A₀ : Around) (base h₀ : Heap) (L : Addr) (m : Str → Option Value) (news : List (Addr × Obj)) (s : Shared) (Q E : Value → Shared → Prop),
    Below A₀ base outer h₀ → Fr h₀ L s.heap m → (hd.heap_39 w.params).In h₀ → News h₀ L s.heap news →
    Top hd.view_39 (looseW hd.view_39 [Str.ofString "insort_right", Str.ofString "bisect_right", Str.ofString "bisect_left"]) mean mg mb h₀ →
    cs.kind = .function → pre news → dp + d < recursionLimit → un + u < cLine →
    (∀ (t : Tok) (h' : Heap) (tk' : Nat), Fr h₀ L h' m → News h₀ L h' news → Q (R t) { s with heap := h', toks := tk' }) →
    wpAny (model PySem.Challenge.rw_rw0075_01.row.prog w) (ktrTop dp un gd cn cs L a ccd cl outer) (call (.ref f) vs) Q E s

noncomputable def ltL : List Nat → List Nat → Bool
  | [], [] => false
  | [], _ :: _ => true
  | _ :: _, [] => false
  | a :: x, b :: y => if a < b then true else if b < a then false else ltL x y
theorem ltL_iff (x y : List Nat) : ltL x y = decide (x < y) := by
  induction x generalizing y with
  | nil => cases y <;> simp [ltL]
  | cons a x ih =>
    cases y with
    | nil => simp [ltL]
    | cons b y =>
      rw [ltL]
      simp only [List.cons_lt_cons_iff]
      by_cases h1 : a < b
      · simp [h1]
      · by_cases h2 : b < a
        · have : a ≠ b := by omega
          simp [h1, h2, this]
        · have : a = b := by omega
          subst this
          simp [ih]

/-- bisect_left's search -/
noncomputable def bisLGo (xs : List (List Nat)) (x : List Nat) : Nat → Nat → Nat → Nat
  | 0, lo, _ => lo
  | f + 1, lo, hi => if lo < hi then (if ltL (xs.getD ((lo + hi) / 2) []) x then bisLGo xs x f ((lo + hi) / 2 + 1) hi else bisLGo xs x f lo ((lo + hi) / 2)) else lo
noncomputable def bisL (xs : List (List Nat)) (x : List Nat) : Nat := bisLGo xs x xs.length 0 xs.length
/-- bisect_right's search -/
noncomputable def bisRGo (xs : List (List Nat)) (x : List Nat) : Nat → Nat → Nat → Nat
  | 0, lo, _ => lo
  | f + 1, lo, hi => if lo < hi then (if ltL x (xs.getD ((lo + hi) / 2) []) then bisRGo xs x f lo ((lo + hi) / 2) else bisRGo xs x f ((lo + hi) / 2 + 1) hi) else lo
noncomputable def bisR (xs : List (List Nat)) (x : List Nat) : Nat := bisRGo xs x xs.length 0 xs.length
end

section
section
variable {prog : Program} {w : World} {A : Around} {E : Value → Shared → Prop} {s : Shared} {h₀ : Heap} {L l : Addr} {news : List (Addr × Obj)} {xs : List (List Nat × Tok)} {n : Nat}
theorem len_xs {Q : Value → Shared → Prop} (N : News h₀ L s.heap news) (hm : (l, listOf (xs.map sv).toArray n) ∈ news) (hfit : xs.length ≤ 1000)
    (h : ∀ t tk, Q (.int (xs.length : Int) t) { s with toks := tk }) : wpAny (model prog w) A (call (.builtin "len") [.ref l]) Q E s :=
  kst_len N hm (List.length_map ..) (by omega) (h _ _)
theorem item_xs {value slice : PySem.Expr} {k : Int} {u : Tok} {Q : Value → Shared → Prop} (N : News h₀ L s.heap news) (hm : (l, listOf (xs.map sv).toArray n) ∈ news) (h0 : 0 ≤ k) (hk : k < (xs.length : Int)) (hfit : xs.length ≤ 1000)
    (h : Q (.str (S (xs.getD k.toNat ([], 0)).1) (xs.getD k.toNat ([], 0)).2) s)
    (hs : subscripted slice false (.ref l) (.int k u) = operate [.ref l, .int k u] (getItem (.ref l) (.int k u)) := by with_unfolding_all rfl) :
    wpAny (model prog w) A (subscriptTail value slice (.ref l) (.int k u)) Q E s := by
  have hl : s.heap.IsList l (xs.map sv).toArray := ⟨_, (N _ hm).1, rfl, n, rfl⟩
  have hlt : k.toNat < xs.length := by omega
  refine tail_any hl.typeIs slot_list_getitem.lookup (wpAny_getItem_list hl h0 (by omega) (x := sv (xs.getD k.toNat ([], 0))) ?_ h) hs
  simp [List.getD_eq_getElem?_getD, hlt]
end

theorem fdiv_two (l h : Nat) : Int.fdiv ((l : Int) + (h : Int)) 2 = (((l + h) / 2 : Nat) : Int) := by
  rw [Int.fdiv_eq_ediv_of_nonneg _ (by decide)]; omega
noncomputable def BisInv (go : Nat → Nat → Nat → Nat) (len R : Nat) (c : Int × Tok × Int × Tok) : Prop :=
  ∃ l h f : Nat, c.1 = (l : Int) ∧ c.2.2.1 = (h : Int) ∧ h ≤ len ∧ h - l ≤ f ∧ go f l h = R

theorem getD_fst (xs : List (List Nat × Tok)) (k : Nat) : (xs.getD k ([], 0)).1 = (xs.map (·.1)).getD k [] := by
  simp only [List.getD_eq_getElem?_getD, List.getElem?_map]
  cases xs[k]? <;> rfl
theorem bisLGo_stop {xs x f l h} (hn : ¬ l < h) : bisLGo xs x f l h = l := by
  cases f with
  | zero => rfl
  | succ f => rw [bisLGo, if_neg hn]
theorem bisl_left {xs : List (List Nat × Tok)} {x : List Nat} {lo hi : Int} {t1 t2 : Tok} {l h f R : Nat} (e1 : lo = (l : Int)) (e2 : hi = (h : Int)) (hle : h ≤ xs.length) (hf : h - l ≤ f)
    (hgo : bisLGo (xs.map (·.1)) x f l h = R) (hfd : Int.fdiv (lo + hi) 2 = (((l + h) / 2 : Nat) : Int)) (hlt : lo < hi)
    (hb : ltL (S (xs.getD (Int.fdiv (lo + hi) 2).toNat ([], 0)).1).cps.toList x = true) :
    BisInv (bisLGo (xs.map (·.1)) x) xs.length R (Int.fdiv (lo + hi) 2 + 1, t1, hi, t2) := by
  rw [hfd] at hb ⊢
  cases f with
  | zero => omega
  | succ f =>
    have hb' : ltL ((xs.map (·.1)).getD ((l + h) / 2) []) x = true := by rw [← getD_fst]; exact hb
    rw [bisLGo, if_pos (by omega), if_pos hb'] at hgo
    exact ⟨(l + h) / 2 + 1, h, f, by simp, e2, hle, by omega, hgo⟩
theorem bisl_right {xs : List (List Nat × Tok)} {x : List Nat} {lo hi : Int} {t1 t2 : Tok} {l h f R : Nat} (e1 : lo = (l : Int)) (e2 : hi = (h : Int)) (hle : h ≤ xs.length) (hf : h - l ≤ f)
    (hgo : bisLGo (xs.map (·.1)) x f l h = R) (hfd : Int.fdiv (lo + hi) 2 = (((l + h) / 2 : Nat) : Int)) (hlt : lo < hi)
    (hb : ltL (S (xs.getD (Int.fdiv (lo + hi) 2).toNat ([], 0)).1).cps.toList x = false) :
    BisInv (bisLGo (xs.map (·.1)) x) xs.length R (lo, t1, Int.fdiv (lo + hi) 2, t2) := by
  rw [hfd] at hb ⊢
  cases f with
  | zero => omega
  | succ f =>
    have hb' : ¬ ltL ((xs.map (·.1)).getD ((l + h) / 2) []) x = true := by
      rw [← getD_fst]; intro e; rw [show ltL (xs.getD ((l + h) / 2) ([], 0)).1 x = false from hb] at e; cases e
    rw [bisLGo, if_pos (by omega), if_neg hb'] at hgo
    exact ⟨l, (l + h) / 2, f, e1, rfl, by omega, by omega, hgo⟩
theorem bisl_gives (w : World) (mean mg mb) (al : Addr) (xs : List (List Nat × Tok)) (n : Nat) (x : List Nat) (tx : Tok) (hlen : xs.length ≤ 1000) :
    Gives w mean mg mb 62 1 8 (fun news => (al, listOf (xs.map sv).toArray n) ∈ news) [.ref al, .str (S x) tx] (fun t => .int (bisL (xs.map (·.1)) x) t) := by
  unfold Gives
  k_fill
  intro dp un gd cn cs a ccd cl outer A₀ base h₀ L m news s Q E B F X N T hk hpre hdp hu hret
  refine wpAny_call ?_
  refine' code_def (binds := [(Str.ofString "a", .ref al), (Str.ofString "x", .str (S x) tx), (Str.ofString "lo", .int 0 250), (Str.ofString "hi", .none), (Str.ofString "key", .none)]) B F X N T rfl rfl hk ?k6 ?k7 ?k8 ?k9 ?kB ?_ ?c2 ?c3 ?c4 ?c5
  (case k6 => k_is)
  (case k7 => k_is)
  (case k8 => ktr_room)
  (case k9 => (refine' kp_binds ?kx ?ke; (case kx => k_in); (case ke => exact fun _ => rfl)))
  (case c5 => decide)
  (case kB => exact locs rfl)
  (case c2 => exact rfl)
  (case c3 => exact rfl)
  (case c4 => exact rfl)
  intro g' L' h' FG' F' N' B' X' T'
  (try dsimp only)
  (try k_lift B')
  (try k_fold)
  k_with_none
  k_with "exec While Compare cons nil" => (k_extra "mine while"; walk_say "MINE while")
  k_with "call builtin:len" => (k_here; (with_reducible show wpAny _ _ (call (Value.builtin "len") [Value.ref _]) _ _ _); k_dflt (refine' len_xs ?zzk1 ?zzk2 ?zzk3 ?_; (case zzk1 => k_asm); (case zzk2 => k_mem); (case zzk3 => omega); k_whole); intro _ _)
  k_with "subscriptTail" => (k_here; (with_reducible show wpAny _ _ (subscriptTail _ _ (Value.ref _) (Value.int _ _)) _ _ _); k_dflt (refine' item_xs ?zzk1 ?zzk2 ?zzk3 ?zzk4 ?zzk5 ?_ ?zzk6; (case zzk1 => k_asm); (case zzk2 => k_mem); (case zzk6 => with_unfolding_all rfl); (case zzk3 => omega); (case zzk4 => omega); (case zzk5 => omega); k_whole))
  k_with "mine while" =>
    rename Fr _ _ _ _ => lF
    rename News _ _ _ _ => lN
    with_unfolding_all refine' ksw_while (fun _ => news) (fun c : Int × Tok × Int × Tok => [(Str.ofString "lo", .int c.1 c.2.1), (Str.ofString "hi", .int c.2.2.1 c.2.2.2)]) (fun _ => True) [Str.ofString "mid"] (BisInv (bisLGo (xs.map (·.1)) x) xs.length (bisL (xs.map (·.1)) x)) (fun c => (c.2.2.1 - c.1).toNat) (0, _, (xs.length : Int), _) lF lN trivial ?kk ?kp ?_
    (case kk => kst_all)
    (case kp => exact ⟨0, xs.length, xs.length, rfl, rfl, Nat.le_refl _, Nat.le_refl _, by simp [bisL]⟩)
    clear lF lN
    intro ⟨lo, tlo, hi, thi⟩ u9 h9 tk9 _ hInv F9 N9
    obtain ⟨l, h, f, e1, e2, hle, hf, hgo⟩ := hInv
    dsimp only at e1 e2 F9
    have hfd : Int.fdiv (lo + hi) 2 = (((l + h) / 2 : Nat) : Int) := by rw [e1, e2, fdiv_two]
    dsimp only
    try k_fold
  k_steps
  · have hlt : lo < hi := by assumption
    have hb : ltL (S (xs.getD (Int.fdiv (lo + hi) 2).toNat ([], 0)).1).cps.toList x = true := by
      have hb0 : (S (xs.getD (Int.fdiv (lo + hi) 2).toNat ([], 0)).1).cps.toList < (S x).cps.toList := by assumption
      rw [ltL_iff]; exact decide_eq_true hb0
    refine ksw_end (_, _, _, _) (by assumption) (by assumption) (fun p hp => hp) trivial (by kst_all) (by
      intro z h2 h3
      simp only [List.forall_mem_cons, List.not_mem_nil, false_implies, implies_true, and_true, ne_eq] at h2
      simp only [List.contains_cons, List.contains_nil, Bool.or_false, beq_eq_false_iff_ne, ne_eq] at h3
      simp [kstB, h2, h3]) ?_ ?_
    · exact bisl_left e1 e2 hle hf hgo hfd hlt hb
    · dsimp only; omega
  · have hlt : lo < hi := by assumption
    have hb : ltL (S (xs.getD (Int.fdiv (lo + hi) 2).toNat ([], 0)).1).cps.toList x = false := by
      have hb0 : ¬ (S (xs.getD (Int.fdiv (lo + hi) 2).toNat ([], 0)).1).cps.toList < (S x).cps.toList := by assumption
      rw [ltL_iff]; exact decide_eq_false hb0
    refine ksw_end (_, _, _, _) (by assumption) (by assumption) (fun p hp => hp) trivial (by kst_all) (by
      intro z h2 h3
      simp only [List.forall_mem_cons, List.not_mem_nil, false_implies, implies_true, and_true, ne_eq] at h2
      simp only [List.contains_cons, List.contains_nil, Bool.or_false, beq_eq_false_iff_ne, ne_eq] at h3
      simp [kstB, h2, h3]) ?_ ?_
    · exact bisl_right e1 e2 hle hf hgo hfd hlt hb
    · dsimp only; omega
  · have hlt : ¬ lo < hi := by assumption
    have hx : lo = (bisL (xs.map (·.1)) x : Int) := by
      rw [← hgo, e1, bisLGo_stop (by omega)]
    subst hx
    exact hret _ _ _ (by assumption) (by assumption)
end

section
/-- what a call of f with vs gives: R, the ledger turned from news to news' -/
abbrev GivesN (w : World) (mean : ExcName → Option Value) (mg mb : Str → Option Value) (f : Addr) (d u : Nat) (news news' : List (Addr × Obj)) (vs : List Value) (R : Tok → Value) : Prop :=
  ∀ (dp un : Nat) (gd : Option (List Code)) (cn : Str) (cs : Scope) (a : Addr) (ccd : Value) (cl : List (Str × Addr)) (outer : List Env) (A₀ : Around) (base h₀ : Heap) (L : Addr) (m : Str → Option Value) (s : Shared) (Q E : Value → Shared → Prop),
    Below A₀ base outer h₀ → Fr h₀ L s.heap m → (hd.heap_39 w.params).In h₀ → News h₀ L s.heap news →
    Top hd.view_39 (looseW hd.view_39 [Str.ofString "insort_right", Str.ofString "bisect_right", Str.ofString "bisect_left"]) mean mg mb h₀ →
    cs.kind = .function → dp + d < recursionLimit → un + u < cLine →
    (∀ (t : Tok) (h' : Heap) (tk' : Nat), Fr h₀ L h' m → News h₀ L h' news' → Q (R t) { s with heap := h', toks := tk' }) →
    wpAny (model PySem.Challenge.rw_rw0075_01.row.prog w) (ktrTop dp un gd cn cs L a ccd cl outer) (call (.ref f) vs) Q E s
theorem use_gives {w : World} {mean : ExcName → Option Value} {mg mb : Str → Option Value} {f : Addr} {d u : Nat} {pre : List (Addr × Obj) → Prop} {vs : List Value} {R : Tok → Value}
    (G : Gives w mean mg mb f d u pre vs R) {dp un : Nat} {gd : Option (List Code)} {cn : Str} {cs : Scope} {a : Addr} {ccd : Value} {cl : List (Str × Addr)} {outer : List Env} {A₀ : Around} {base h₀ : Heap} {L : Addr} {m : Str → Option Value} {news : List (Addr × Obj)} {s : Shared} {Q E : Value → Shared → Prop}
    (B : Below A₀ base outer h₀) (F : Fr h₀ L s.heap m) (X : (hd.heap_39 w.params).In h₀) (N : News h₀ L s.heap news)
    (T : Top hd.view_39 (looseW hd.view_39 [Str.ofString "insort_right", Str.ofString "bisect_right", Str.ofString "bisect_left"]) mean mg mb h₀)
    (hk : cs.kind = .function) (hp : pre news) (hd : dp + d < recursionLimit) (hu : un + u < cLine)
    (ret : ∀ (t : Tok) (h' : Heap) (tk' : Nat), Fr h₀ L h' m → News h₀ L h' news → Q (R t) { s with heap := h', toks := tk' }) :
    wpAny (model PySem.Challenge.rw_rw0075_01.row.prog w) (ktrTop dp un gd cn cs L a ccd cl outer) (call (.ref f) vs) Q E s := G _ _ _ _ _ _ _ _ _ _ _ _ _ _ _ _ _ _ B F X N T hk hp hd hu ret
theorem use_givesN {w : World} {mean : ExcName → Option Value} {mg mb : Str → Option Value} {f : Addr} {d u : Nat} {news news' : List (Addr × Obj)} {vs : List Value} {R : Tok → Value}
    (G : GivesN w mean mg mb f d u news news' vs R) {dp un : Nat} {gd : Option (List Code)} {cn : Str} {cs : Scope} {a : Addr} {ccd : Value} {cl : List (Str × Addr)} {outer : List Env} {A₀ : Around} {base h₀ : Heap} {L : Addr} {m : Str → Option Value} {s : Shared} {Q E : Value → Shared → Prop}
    (B : Below A₀ base outer h₀) (F : Fr h₀ L s.heap m) (X : (hd.heap_39 w.params).In h₀) (N : News h₀ L s.heap news)
    (T : Top hd.view_39 (looseW hd.view_39 [Str.ofString "insort_right", Str.ofString "bisect_right", Str.ofString "bisect_left"]) mean mg mb h₀)
    (hk : cs.kind = .function) (hd : dp + d < recursionLimit) (hu : un + u < cLine)
    (ret : ∀ (t : Tok) (h' : Heap) (tk' : Nat), Fr h₀ L h' m → News h₀ L h' news' → Q (R t) { s with heap := h', toks := tk' }) :
    wpAny (model PySem.Challenge.rw_rw0075_01.row.prog w) (ktrTop dp un gd cn cs L a ccd cl outer) (call (.ref f) vs) Q E s := G _ _ _ _ _ _ _ _ _ _ _ _ _ _ _ _ _ B F X N T hk hd hu ret


theorem bisRGo_stop {xs x f l h} (hn : ¬ l < h) : bisRGo xs x f l h = l := by
  cases f with
  | zero => rfl
  | succ f => rw [bisRGo, if_neg hn]
theorem bisr_left {xs : List (List Nat × Tok)} {x : List Nat} {lo hi : Int} {t1 t2 : Tok} {l h f R : Nat} (e1 : lo = (l : Int)) (e2 : hi = (h : Int)) (hle : h ≤ xs.length) (hf : h - l ≤ f)
    (hgo : bisRGo (xs.map (·.1)) x f l h = R) (hfd : Int.fdiv (lo + hi) 2 = (((l + h) / 2 : Nat) : Int)) (hlt : lo < hi)
    (hb : ltL x (S (xs.getD (Int.fdiv (lo + hi) 2).toNat ([], 0)).1).cps.toList = true) :
    BisInv (bisRGo (xs.map (·.1)) x) xs.length R (lo, t1, Int.fdiv (lo + hi) 2, t2) := by
  rw [hfd] at hb ⊢
  cases f with
  | zero => omega
  | succ f =>
    have hb' : ltL x ((xs.map (·.1)).getD ((l + h) / 2) []) = true := by rw [← getD_fst]; exact hb
    rw [bisRGo, if_pos (by omega), if_pos hb'] at hgo
    exact ⟨l, (l + h) / 2, f, e1, rfl, by omega, by omega, hgo⟩
theorem bisr_right {xs : List (List Nat × Tok)} {x : List Nat} {lo hi : Int} {t1 t2 : Tok} {l h f R : Nat} (e1 : lo = (l : Int)) (e2 : hi = (h : Int)) (hle : h ≤ xs.length) (hf : h - l ≤ f)
    (hgo : bisRGo (xs.map (·.1)) x f l h = R) (hfd : Int.fdiv (lo + hi) 2 = (((l + h) / 2 : Nat) : Int)) (hlt : lo < hi)
    (hb : ltL x (S (xs.getD (Int.fdiv (lo + hi) 2).toNat ([], 0)).1).cps.toList = false) :
    BisInv (bisRGo (xs.map (·.1)) x) xs.length R (Int.fdiv (lo + hi) 2 + 1, t1, hi, t2) := by
  rw [hfd] at hb ⊢
  cases f with
  | zero => omega
  | succ f =>
    have hb' : ¬ ltL x ((xs.map (·.1)).getD ((l + h) / 2) []) = true := by
      rw [← getD_fst]; intro e; rw [show ltL x (xs.getD ((l + h) / 2) ([], 0)).1 = false from hb] at e; cases e
    rw [bisRGo, if_pos (by omega), if_neg hb'] at hgo
    exact ⟨(l + h) / 2 + 1, h, f, by simp, e2, hle, by omega, hgo⟩
theorem bisr_gives (w : World) (mean mg mb) (al : Addr) (xs : List (List Nat × Tok)) (n : Nat) (x : List Nat) (tx t0 : Tok) (hlen : xs.length ≤ 1000) :
    Gives w mean mg mb 53 1 8 (fun news => (al, listOf (xs.map sv).toArray n) ∈ news) [.ref al, .str (S x) tx, .int 0 t0, .none] (fun t => .int (bisR (xs.map (·.1)) x) t) := by
  unfold Gives
  k_fill
  intro dp un gd cn cs a ccd cl outer A₀ base h₀ L m news s Q E B F X N T hk hpre hdp hu hret
  refine wpAny_call ?_
  refine' code_def (binds := [(Str.ofString "a", .ref al), (Str.ofString "x", .str (S x) tx), (Str.ofString "lo", .int 0 t0), (Str.ofString "hi", .none), (Str.ofString "key", .none)]) B F X N T rfl rfl hk ?k6 ?k7 ?k8 ?k9 ?kB ?_ ?c2 ?c3 ?c4 ?c5
  (case k6 => k_is)
  (case k7 => k_is)
  (case k8 => ktr_room)
  (case k9 => (refine' kp_binds ?kx ?ke; (case kx => k_in); (case ke => exact fun _ => rfl)))
  (case c5 => decide)
  (case kB => exact locs rfl)
  (case c2 => exact rfl)
  (case c3 => exact rfl)
  (case c4 => exact rfl)
  intro g' L' h' FG' F' N' B' X' T'
  (try dsimp only)
  (try k_lift B')
  (try k_fold)
  k_with_none
  k_with "exec While Compare cons nil" => (k_extra "mine while"; walk_say "MINE while")
  k_with "call ref" => (k_extra "mine call"; walk_say "MINE call")
  k_with "call builtin:list.insert" => (k_extra "mine insert"; walk_say "MINE insert")
  k_with "call builtin:len" => (k_here; (with_reducible show wpAny _ _ (call (Value.builtin "len") [Value.ref _]) _ _ _); k_dflt (refine' len_xs ?zzk1 ?zzk2 ?zzk3 ?_; (case zzk1 => k_asm); (case zzk2 => k_mem); (case zzk3 => omega); k_whole); intro _ _)
  k_with "subscriptTail" => (k_here; (with_reducible show wpAny _ _ (subscriptTail _ _ (Value.ref _) (Value.int _ _)) _ _ _); k_dflt (refine' item_xs ?zzk1 ?zzk2 ?zzk3 ?zzk4 ?zzk5 ?_ ?zzk6; (case zzk1 => k_asm); (case zzk2 => k_mem); (case zzk6 => with_unfolding_all rfl); (case zzk3 => omega); (case zzk4 => omega); (case zzk5 => omega); k_whole))
  k_with "mine while" =>
    rename Fr _ _ _ _ => lF
    rename News _ _ _ _ => lN
    with_unfolding_all refine' ksw_while (fun _ => news) (fun c : Int × Tok × Int × Tok => [(Str.ofString "lo", .int c.1 c.2.1), (Str.ofString "hi", .int c.2.2.1 c.2.2.2)]) (fun _ => True) [Str.ofString "mid"] (BisInv (bisRGo (xs.map (·.1)) x) xs.length (bisR (xs.map (·.1)) x)) (fun c => (c.2.2.1 - c.1).toNat) (0, _, (xs.length : Int), _) lF lN trivial ?kk ?kp ?_
    (case kk => kst_all)
    (case kp => exact ⟨0, xs.length, xs.length, rfl, rfl, Nat.le_refl _, Nat.le_refl _, by simp [bisR]⟩)
    clear lF lN
    intro ⟨lo, tlo, hi, thi⟩ u9 h9 tk9 _ hInv F9 N9
    obtain ⟨l, h, f, e1, e2, hle, hf, hgo⟩ := hInv
    dsimp only at e1 e2 F9
    have hfd : Int.fdiv (lo + hi) 2 = (((l + h) / 2 : Nat) : Int) := by rw [e1, e2, fdiv_two]
    dsimp only
    try k_fold
  k_steps
  · have hlt : lo < hi := by assumption
    have hb : ltL x (S (xs.getD (Int.fdiv (lo + hi) 2).toNat ([], 0)).1).cps.toList = true := by
      have hb0 : (S x).cps.toList < (S (xs.getD (Int.fdiv (lo + hi) 2).toNat ([], 0)).1).cps.toList := by assumption
      rw [ltL_iff]; exact decide_eq_true hb0
    refine ksw_end (_, _, _, _) (by assumption) (by assumption) (fun p hp => hp) trivial (by kst_all) (by
      intro z h2 h3
      simp only [List.forall_mem_cons, List.not_mem_nil, false_implies, implies_true, and_true, ne_eq] at h2
      simp only [List.contains_cons, List.contains_nil, Bool.or_false, beq_eq_false_iff_ne, ne_eq] at h3
      simp [kstB, h2, h3]) ?_ ?_
    · exact bisr_left e1 e2 hle hf hgo hfd hlt hb
    · dsimp only; omega
  · have hlt : lo < hi := by assumption
    have hb : ltL x (S (xs.getD (Int.fdiv (lo + hi) 2).toNat ([], 0)).1).cps.toList = false := by
      have hb0 : ¬ (S x).cps.toList < (S (xs.getD (Int.fdiv (lo + hi) 2).toNat ([], 0)).1).cps.toList := by assumption
      rw [ltL_iff]; exact decide_eq_false hb0
    refine ksw_end (_, _, _, _) (by assumption) (by assumption) (fun p hp => hp) trivial (by kst_all) (by
      intro z h2 h3
      simp only [List.forall_mem_cons, List.not_mem_nil, false_implies, implies_true, and_true, ne_eq] at h2
      simp only [List.contains_cons, List.contains_nil, Bool.or_false, beq_eq_false_iff_ne, ne_eq] at h3
      simp [kstB, h2, h3]) ?_ ?_
    · exact bisr_right e1 e2 hle hf hgo hfd hlt hb
    · dsimp only; omega
  · have hlt : ¬ lo < hi := by assumption
    have hx : lo = (bisR (xs.map (·.1)) x : Int) := by
      rw [← hgo, e1, bisRGo_stop (by omega)]
    subst hx
    exact hret _ _ _ (by assumption) (by assumption)

/-- a text set in where insort_right sets it -/
noncomputable def insR (xs : List (List Nat × Tok)) (p : List Nat × Tok) : List (List Nat × Tok) :=
  xs.take (bisR (xs.map (·.1)) p.1) ++ p :: xs.drop (bisR (xs.map (·.1)) p.1)
theorem bisRGo_le (xs : List (List Nat)) (x : List Nat) : ∀ f lo hi, lo ≤ hi → bisRGo xs x f lo hi ≤ hi
  | 0, _, _, h => h
  | f + 1, lo, hi, h => by
    rw [bisRGo]
    split
    · split
      · exact Nat.le_trans (bisRGo_le xs x f _ _ (by omega)) (by omega)
      · exact bisRGo_le xs x f _ _ (by omega)
    · exact h
theorem bisR_le (xs : List (List Nat)) (x : List Nat) : bisR xs x ≤ xs.length := bisRGo_le _ _ _ _ _ (Nat.zero_le _)
theorem bisLGo_le (xs : List (List Nat)) (x : List Nat) : ∀ f lo hi, lo ≤ hi → bisLGo xs x f lo hi ≤ hi
  | 0, _, _, h => h
  | f + 1, lo, hi, h => by
    rw [bisLGo]
    split
    · split
      · exact bisLGo_le xs x f _ _ (by omega)
      · exact Nat.le_trans (bisLGo_le xs x f _ _ (by omega)) (by omega)
    · exact h
theorem bisL_le (xs : List (List Nat)) (x : List Nat) : bisL xs x ≤ xs.length := bisLGo_le _ _ _ _ _ (Nat.zero_le _)
theorem ins_kl (xs : List (List Nat × Tok)) (x : List Nat) (tx : Tok) : kl_ins (xs.map sv).toArray.toList (bisR (xs.map (·.1)) x : Int) (.str (S x) tx) = (insR xs (x, tx)).map sv := by
  have h := bisR_le (xs.map (·.1)) x
  rw [List.length_map] at h
  have hm : min (bisR (xs.map (·.1)) x) (xs.map sv).length = bisR (xs.map (·.1)) x := by rw [List.length_map]; omega
  unfold kl_ins insR
  simp only [Int.toNat_natCast]
  rw [if_neg (by omega), hm, List.map_append, List.map_cons, List.map_take, List.map_drop]
  rfl
theorem ins_gives (w : World) (mean mg mb) (al : Addr) (xs : List (List Nat × Tok)) (n : Nat) (x : List Nat) (tx : Tok) (hlen : xs.length ≤ 1000) (news news' : List (Addr × Obj))
    (U : Upd al (listOf (xs.map sv).toArray n) (listOf ((insR xs (x, tx)).map sv).toArray (n + 1)) news news') :
    GivesN w mean mg mb 44 2 16 news news' [.ref al, .str (S x) tx] (fun _ => .none) := by
  unfold GivesN
  k_fill
  intro dp un gd cn cs a ccd cl outer A₀ base h₀ L m s Q E B F X N T hk hdp hu hret
  have hpre : (al, listOf (xs.map sv).toArray n) ∈ news := by
    obtain ⟨pre, post, e, _⟩ := U.split
    rw [e]; simp
  refine wpAny_call ?_
  refine' code_def (binds := [(Str.ofString "a", .ref al), (Str.ofString "x", .str (S x) tx), (Str.ofString "lo", .int 0 223), (Str.ofString "hi", .none), (Str.ofString "key", .none)]) B F X N T rfl rfl hk ?k6 ?k7 ?k8 ?k9 ?kB ?_ ?c2 ?c3 ?c4 ?c5
  (case k6 => k_is)
  (case k7 => k_is)
  (case k8 => ktr_room)
  (case k9 => (refine' kp_binds ?kx ?ke; (case kx => k_in); (case ke => exact fun _ => rfl)))
  (case c5 => decide)
  (case kB => exact locs rfl)
  (case c2 => exact rfl)
  (case c3 => exact rfl)
  (case c4 => exact rfl)
  intro g' L' h' FG' F' N' B' X' T'
  (try dsimp only)
  (try k_lift B')
  (try k_fold)
  k_with_none
  k_with "exec While Compare cons nil" => (k_extra "mine while"; walk_say "MINE while")
  k_with "call ref" => (k_extra "mine call"; walk_say "MINE call")
  k_with "call builtin:list.insert" => (k_extra "mine insert"; walk_say "MINE insert")
  k_with "call builtin:len" => (k_here; (with_reducible show wpAny _ _ (call (Value.builtin "len") [Value.ref _]) _ _ _); k_dflt (refine' len_xs ?zzk1 ?zzk2 ?zzk3 ?_; (case zzk1 => k_asm); (case zzk2 => k_mem); (case zzk3 => omega); k_whole); intro _ _)
  k_with "subscriptTail" => (k_here; (with_reducible show wpAny _ _ (subscriptTail _ _ (Value.ref _) (Value.int _ _)) _ _ _); k_dflt (refine' item_xs ?zzk1 ?zzk2 ?zzk3 ?zzk4 ?zzk5 ?_ ?zzk6; (case zzk1 => k_asm); (case zzk2 => k_mem); (case zzk6 => with_unfolding_all rfl); (case zzk3 => omega); (case zzk4 => omega); (case zzk5 => omega); k_whole))
  k_with "mine call" =>
    (with_reducible show wpAny _ _ (call (Value.ref 53) _) _ _ _)
    k_dflt (refine' use_gives (bisr_gives w mean mg mb al xs n x tx _ hlen) ?k1 ?k2 ?k3 ?k4 ?k5 rfl hpre ?k7 ?k8 ?_)
    (case k1 => k_asm)
    (case k2 => k_asm)
    (case k3 => k_asm)
    (case k4 => k_asm)
    (case k5 => k_asm)
    (case k7 => ktr_room)
    (case k8 => ktr_units)
    intro t9 h9 tk9 F9 N9
    dsimp only
    try k_fold
  k_with "mine insert" =>
    have hle := bisR_le (xs.map (·.1)) x
    rw [List.length_map] at hle
    k_dflt (refine' kl_insert ?F ?N ?f (ins_kl xs x tx) U ?z ?_)
    (case F => k_asm)
    (case N => k_asm)
    (case f => (simp only [Builtin.List.listFitsIndex]; simp; omega))
    (case z => (rw [List.length_map, sizeLine_eq]; omega))
    intro h9 F9 N9
    dsimp only
    try k_fold
  k_steps
  exact hret 0 _ _ (by assumption) (by assumption)
end

section
/-- a short text of plain signs -/
noncomputable def OkT (l : List Nat) : Prop := (∀ c ∈ l, c < 128) ∧ l.length ≤ 400
theorem OkT.str {l : List Nat} (h : OkT l) : PyData.strOk (S l) = true := by
  unfold PyData.strOk S
  rw [Array.all_eq_true]
  intro i hi
  have := h.1 l[i] (List.getElem_mem _)
  simp; omega
theorem OkT.nil : OkT [] := ⟨(by intro c h; cases h), by simp⟩
theorem OkT.getD {xs : List (List Nat × Tok)} (h : ∀ p ∈ xs, OkT p.1) (k : Nat) : OkT (xs.getD k ([], 0)).1 := by
  rw [List.getD_eq_getElem?_getD]
  cases e : xs[k]? with
  | none => exact OkT.nil
  | some p => exact h p (List.mem_of_getElem? e)
theorem shaped_none : SeqAt.shaped (.list []) = true := by rfl
theorem shaped_one {x : List Nat} (h : OkT x) : SeqAt.shaped (.list [.str (S x)]) = true := by
  simp [SeqAt.shaped, PyData.canLay0, PyData.canLayAll0, PyData.depth, PyData.depthAll, h.str]
section
variable {prog : Program} {w : World} {A : Around} {E : Value → Shared → Prop} {s : Shared} {h₀ : Heap} {L l : Addr} {m : Str → Option Value} {news : List (Addr × Obj)} {value slice : PySem.Expr} {vs zs : List Value} {n a b : Nat} {x y : Int} {tx ty : Tok} {Q : Value → Shared → Prop}
theorem slice_nat (F : Fr h₀ L s.heap m) (N : News h₀ L s.heap news) (hm : (l, listOf vs.toArray n) ∈ news) (ex : x = (a : Int)) (ey : y = (b : Int))
    (h : ∀ D h', Fr h₀ L h' m → News h₀ L h' ((D, listOf ((vs.drop a).take (b - a)).toArray 0) :: news) → (∀ p ∈ news, p.1 < D) → Q (.ref D) { s with heap := h' })
    (hs : subscripted slice false (.ref l) (.ref s.heap.objs.size) = operate [.ref s.heap.objs.size, .ref l] (getItem (.ref l) (.ref s.heap.objs.size))) (ht : ∀ r, letTemporaryGo value (.ref l) r = pure ()) (hz : vs.length ≤ sizeLine) :
    wpAny (model prog w) A (subscriptTail value slice (.ref l) (.ref s.heap.objs.size)) Q E { s with heap := s.heap.push { cls := .type "slice", data := .fields #[.int x tx, .int y ty, .none] } } := by
  have hl : s.heap.IsList l vs.toArray := ⟨_, (N _ hm).1, rfl, n, rfl⟩
  subst ex ey
  refine kmk_slice F N hl (IsPart.int _ _) (IsPart.int _ _) (fun D h' F' N' l1 => h D h' F' ?_ l1) hs ht (by simpa using hz)
  have e : sliceBounds (some (a : Int)) (some (b : Int)) none vs.toArray.size = (((min a vs.length : Nat) : Int), ((min b vs.length : Nat) : Int), 1) := by
    simp only [sliceBounds, Option.getD_none, show (1 : Int) > 0 by decide, if_true, if_neg (show ¬ ((a : Int) < 0) by omega), if_neg (show ¬ ((b : Int) < 0) by omega), List.size_toArray]
    congr 1
    · omega
    · congr 1
      omega
  rw [kmk_pick_nat _ e] at N'
  have e2 : ((vs.toArray.toList.drop (min a vs.length)).take (min b vs.length - min a vs.length)) = (vs.drop a).take (b - a) := by
    simp only []
    rw [kmk_drop_min]
    by_cases h1 : a ≤ vs.length
    · rw [Nat.min_eq_left h1]
      by_cases h2 : b ≤ vs.length
      · rw [Nat.min_eq_left h2]
      · rw [Nat.min_eq_right (by omega), List.take_of_length_le (by rw [List.length_drop]; omega), List.take_of_length_le (by rw [List.length_drop]; omega)]
    · rw [List.drop_of_length_le (by omega)]; simp
  rw [e2] at N'
  exact N'
theorem slice_one {xs : List (List Nat × Tok)} (F : Fr h₀ L s.heap m) (N : News h₀ L s.heap news) (hm : (l, listOf (xs.map sv).toArray n) ∈ news) (ex : x = (a : Int)) (ey : y = ((a + 1 : Nat) : Int)) (hz : xs.length ≤ 1000)
    (hs : subscripted slice false (.ref l) (.ref s.heap.objs.size) = operate [.ref s.heap.objs.size, .ref l] (getItem (.ref l) (.ref s.heap.objs.size))) (ht : ∀ r, letTemporaryGo value (.ref l) r = pure ())
    (h1 : ∀ D h', a < xs.length → Fr h₀ L h' m → News h₀ L h' ((D, listOf [.str (S (xs.getD a ([], 0)).1) (xs.getD a ([], 0)).2].toArray 0) :: news) → (∀ p ∈ news, p.1 < D) → Q (.ref D) { s with heap := h' })
    (h2 : ∀ D h', ¬ a < xs.length → Fr h₀ L h' m → News h₀ L h' ((D, listOf [].toArray 0) :: news) → (∀ p ∈ news, p.1 < D) → Q (.ref D) { s with heap := h' }) :
    wpAny (model prog w) A (subscriptTail value slice (.ref l) (.ref s.heap.objs.size)) Q E { s with heap := s.heap.push { cls := .type "slice", data := .fields #[.int x tx, .int y ty, .none] } } := by
  refine slice_nat F N hm ex ey ?_ hs ht (by rw [List.length_map, sizeLine_eq]; omega)
  intro D h' F' N' l1
  by_cases hlt : a < xs.length
  · have e9 : ((xs.map sv).drop a).take (a + 1 - a) = [.str (S (xs.getD a ([], 0)).1) (xs.getD a ([], 0)).2] := by
      rw [List.drop_eq_getElem_cons (by simpa using hlt)]
      simp [sv, List.getD_eq_getElem?_getD, hlt]
    rw [e9] at N'
    exact h1 D h' hlt F' N' l1
  · have e9 : ((xs.map sv).drop a).take (a + 1 - a) = [] := by
      rw [List.drop_of_length_le (by simp; omega)]; simp
    rw [e9] at N'
    exact h2 D h' hlt F' N' l1
end
theorem S_inj {x y : List Nat} : S x = S y ↔ x = y := by
  constructor
  · intro h
    have := congrArg (fun z => z.cps.toList) h
    simpa [S] using this
  · intro h; rw [h]
theorem eqv_one (x y : List Nat) : (PyData.list [PyData.str (S x)]).eqv (PyData.list [PyData.str (S y)]) = decide (x = y) := by
  simp only [PyData.eqv, PyData.eqvAll, Bool.and_true]
  by_cases h : x = y
  · rw [h]; simp
  · rw [decide_eq_false h]
    exact beq_eq_false_iff_ne.mpr fun e => h (S_inj.mp e)
theorem found_gives (w : World) (mean mg mb) (al : Addr) (xs : List (List Nat × Tok)) (n : Nat) (x : List Nat) (tx : Tok) (hlen : xs.length ≤ 1000) (hxs : ∀ p ∈ xs, OkT p.1) (hx : OkT x) :
    Gives w mean mg mb 90 3 120 (fun news => (al, listOf (xs.map sv).toArray n) ∈ news) [.ref al, .str (S x) tx] (fun _ => .bool (decide ((xs.map (·.1))[bisL (xs.map (·.1)) x]? = some x))) := by
  unfold Gives
  k_with_none
  k_with "call ref" => (k_extra "mine call"; walk_say "MINE call")
  k_with "subscriptTail Name Slice ref ref" => (k_extra "mine slice"; walk_say "MINE slice")
  k_with "compareOp Eq ref ref" => (k_here; (with_reducible show wpAny _ _ (compareOp CmpOp.Eq (Value.ref _) (Value.ref _)) _ _ _); k_dflt (refine eq_dataH (by ke_read) (by ke_read) (by first | exact shaped_none | exact shaped_one (OkT.getD (by assumption) _)) (by exact shaped_one (by assumption)) (by ktr_units) ?_))
  k_fill
  intro dp un gd cn cs a ccd cl outer A₀ base h₀ L m news s Q E B F X N T hk hpre hdp hu hret
  refine wpAny_call ?_
  refine' code_def (binds := [(Str.ofString "kept", .ref al), (Str.ofString "text", .str (S x) tx)]) B F X N T rfl rfl hk ?k6 ?k7 ?k8 ?k9 ?kB ?_ ?c2 ?c3 ?c4 ?c5
  (case k6 => k_is)
  (case k7 => k_is)
  (case k8 => ktr_room)
  (case k9 => (refine' kp_binds ?kx ?ke; (case kx => k_in); (case ke => exact fun _ => rfl)))
  (case c5 => decide)
  (case kB => exact locs rfl)
  (case c2 => exact rfl)
  (case c3 => exact rfl)
  (case c4 => exact rfl)
  intro g' L' h' FG' F' N' B' X' T'
  (try dsimp only)
  (try k_lift B')
  (try k_fold)
  k_with "mine call" =>
    (with_reducible show wpAny _ _ (call (Value.ref 62) _) _ _ _)
    k_dflt (refine' use_gives (bisl_gives w mean mg mb al xs n x tx hlen) ?k1 ?k2 ?k3 ?k4 ?k5 rfl hpre ?k7 ?k8 ?_)
    (case k1 => k_asm)
    (case k2 => k_asm)
    (case k3 => k_asm)
    (case k4 => k_asm)
    (case k5 => k_asm)
    (case k7 => ktr_room)
    (case k8 => ktr_units)
    intro t9 h9 tk9 F9 N9
    dsimp only
    try k_fold
  k_with "mine slice" =>
    k_here
    k_dflt (refine' slice_one (xs := xs) (n := n) (a := bisL (xs.map (·.1)) x) ?F ?N hpre ?e1 ?e2 hlen ?s ?t ?_ ?_)
    (case F => k_asm)
    (case N => k_asm)
    (case e1 => rfl)
    (case e2 => first | rfl | omega)
    (case s => with_unfolding_all rfl)
    (case t => kmk_pure)
    all_goals (intro D9 h9 hlt F9 N9 l9; (try k_lt l9); (try k_sweep); (try k_fold))
  k_steps
  · have e : (PyData.list [PyData.str (S (xs.getD (bisL (xs.map (·.1)) x) ([], 0)).1)]).eqv (PyData.list [PyData.str (S x)]) = decide ((xs.map (·.1))[bisL (xs.map (·.1)) x]? = some x) := by
      have hlt : bisL (xs.map (·.1)) x < xs.length := by assumption
      rw [eqv_one, getD_fst, List.getD_eq_getElem?_getD]
      have h2 : bisL (xs.map (·.1)) x < (xs.map (·.1)).length := by simpa using hlt
      rw [List.getElem?_eq_getElem h2]
      simp
    rw [e]
    exact hret 0 _ _ (by assumption) (fun p hp => (by assumption : News h₀ L _ _) p (by simp [hp]))
  · have e : (PyData.list []).eqv (PyData.list [PyData.str (S x)]) = decide ((xs.map (·.1))[bisL (xs.map (·.1)) x]? = some x) := by
      have hlt : ¬ bisL (xs.map (·.1)) x < xs.length := by assumption
      rw [List.getElem?_eq_none (by simp; omega)]
      simp [PyData.eqv, PyData.eqvAll]
    rw [e]
    exact hret 0 _ _ (by assumption) (fun p hp => (by assumption : News h₀ L _ _) p (by simp [hp]))
end

section
/-- a goal held back from the walk -/
noncomputable def Hold (P : Prop) : Prop := P
theorem Hold.out {P : Prop} (h : Hold P) : P := h
theorem Hold.mk {P : Prop} (h : P) : Hold P := h

theorem drop_ne {x : List Nat} {i : Int} (h : x.drop i.toNat ≠ []) (h0 : 0 ≤ i) : i < (x.length : Int) := by
  by_cases hl : i.toNat < x.length
  · omega
  · exact absurd (List.drop_of_length_le (by omega)) h
theorem S_len (x : List Nat) : (S x).length = x.length := by simp [S, Str.length]
theorem S_list (x : List Nat) : (S x).cps.toList = x := by simp [S]
theorem S_app (x y : List Nat) : S x ++ S y = S (x ++ y) := by
  apply Str.ext'
  show (S x).cps ++ (S y).cps = _
  simp [S]
theorem lit_e : Str.ofString "" = S [] := by decide +kernel
theorem lit_o : Str.ofString "(" = S [40] := by decide +kernel
theorem lit_c : Str.ofString ")" = S [41] := by decide +kernel
theorem lit_q : Str.ofString "\"" = S [34] := by decide +kernel
theorem lit_b : Str.ofString "\\" = S [92] := by decide +kernel
theorem lit_zy : Str.ofString "zy" = S [122, 121] := by decide +kernel
theorem lit_Zx : Str.ofString "Zx" = S [90, 120] := by decide +kernel
theorem lit_cc : Str.ofString "))" = S [41, 41] := by decide +kernel

noncomputable def clipN (i : Int) (n : Nat) : Nat := (max 0 (min (if i < 0 then i + n else i) (n : Int))).toNat
noncomputable def loN (l : Option Int) (n : Nat) : Nat := match l with | none => 0 | some i => clipN i n
noncomputable def hiN (l : Option Int) (n : Nat) : Nat := match l with | none => n | some i => clipN i n
theorem clipN_le (i : Int) (n : Nat) : clipN i n ≤ n := by unfold clipN; omega
theorem hiN_le (l : Option Int) (n : Nat) : hiN l n ≤ n := by cases l with | none => exact Nat.le_refl _ | some i => exact clipN_le i n
theorem loN_le (l : Option Int) (n : Nat) : loN l n ≤ n := by cases l with | none => exact Nat.zero_le _ | some i => exact clipN_le i n
theorem clip_pos (i : Int) (n : Nat) (h : 0 ≤ i) : clipN i n = min i.toNat n := by
  obtain ⟨k, rfl⟩ := Int.eq_ofNat_of_zero_le h
  unfold clipN
  rw [if_neg (Int.not_lt.mpr h)]
  show (max 0 (min (k : Int) (n : Int))).toNat = min k n
  rcases Nat.le_total k n with h1 | h1
  · rw [Int.min_eq_left (Int.ofNat_le.mpr h1), Int.max_eq_right (Int.natCast_nonneg k), Nat.min_eq_left h1, Int.toNat_natCast]
  · rw [Int.min_eq_right (Int.ofNat_le.mpr h1), Int.max_eq_right (Int.natCast_nonneg n), Nat.min_eq_right h1, Int.toNat_natCast]
theorem clip_neg (i : Int) (n : Nat) (h : i < 0) : clipN i n = n - (-i).toNat := by
  unfold clipN
  rw [if_pos h, Int.min_eq_left (by omega)]
  rcases Int.le_total 0 (i + n) with h1 | h1
  · rw [Int.max_eq_right h1]; omega
  · rw [Int.max_eq_left h1]; omega
theorem clip_same (i : Int) (n : Nat) : max 0 (min (if i < 0 then i + n else i) (n : Int)) = max 0 (min (clipN i n : Int) (n : Int)) := by
  have h : (clipN i n : Int) = max 0 (min (if i < 0 then i + n else i) (n : Int)) := Int.toNat_of_nonneg (Int.le_max_left ..)
  have h1 : (clipN i n : Int) ≤ n := by have := clipN_le i n; omega
  rw [← h]; omega
theorem idx_nat (l u : Option Int) (n : Nat) : Builtin.Str.strSliceIndices l u 1 n = Builtin.Str.strSliceIndices (some (loN l n : Int)) (some (hiN u n : Int)) 1 n := by
  have h1 := loN_le l n
  have h2 := hiN_le u n
  unfold Builtin.Str.strSliceIndices
  simp only [show (1 : Int) > 0 by decide, if_true, if_neg (show ¬ ((loN l n : Int) < 0) by omega), if_neg (show ¬ ((hiN u n : Int) < 0) by omega)]
  congr 1
  · cases l with
    | none => (simp [loN]; omega)
    | some i => exact clip_same i n
  · cases u with
    | none => simp [hiN]
    | some i => exact clip_same i n
theorem tslice (x : List Nat) (l u : Option Int) : Txt.slice (S x) l u = S ((x.drop (loN l x.length)).take (hiN u x.length - loN l x.length)) := by
  show StrLaws.sliceText (S x) l u = _
  have e : StrLaws.sliceText (S x) l u = StrLaws.sliceText (S x) (some (loN l x.length : Int)) (some (hiN u x.length : Int)) := by
    unfold StrLaws.sliceText
    rw [S_len, idx_nat l u x.length]
  rw [e]
  by_cases hab : loN l x.length ≤ hiN u x.length
  · rw [StrLaws.sliceText_nat (S x) hab (by rw [S_len]; exact hiN_le _ _), S_list]
    rfl
  · have h1 := loN_le l x.length
    have h0 : Builtin.Str.strSliceIndices (some (loN l x.length : Int)) (some (hiN u x.length : Int)) 1 (S x).length = [] := by
      rw [S_len]
      unfold Builtin.Str.strSliceIndices
      have e1 : max (0 : Int) (min (loN l x.length : Int) (x.length : Int)) = (loN l x.length : Int) := by omega
      have e2 : max (0 : Int) (min (hiN u x.length : Int) (x.length : Int)) = (hiN u x.length : Int) := by have := hiN_le u x.length; omega
      simp only [show (1 : Int) > 0 by decide, if_true, if_neg (show ¬ ((loN l x.length : Int) < 0) by omega), if_neg (show ¬ ((hiN u x.length : Int) < 0) by omega), e1, e2]
      rw [sliceRange_one, show hiN u x.length - loN l x.length = 0 by omega]
      rfl
    unfold StrLaws.sliceText
    rw [h0, S_len, show hiN u x.length - loN l x.length = 0 by omega, List.take_zero]
    have : ¬ ((1 : Int) == 1 && ([] : List Nat).length == x.length) = true := by
      simp; omega
    rw [if_neg this]
    rfl
theorem tslice_from (x : List Nat) (i : Int) (h : 0 ≤ i) : Txt.slice (S x) (some i) none = S (x.drop i.toNat) := by
  rw [tslice]
  congr 1
  have e : loN (some i) x.length = min i.toNat x.length := clip_pos _ _ (by assumption)
  rw [e]
  show (x.drop (min i.toNat x.length)).take (x.length - min i.toNat x.length) = _
  rw [kmk_drop_min, List.take_of_length_le (by rw [List.length_drop]; omega)]
theorem tslice_to (x : List Nat) (i : Int) (h : 0 ≤ i) : Txt.slice (S x) none (some i) = S (x.take i.toNat) := by
  rw [tslice]
  congr 1
  have e : hiN (some i) x.length = min i.toNat x.length := clip_pos _ _ (by assumption)
  rw [e]
  show (x.drop 0).take (min i.toNat x.length - 0) = _
  rw [List.drop_zero, Nat.sub_zero, kmk_take_min]
theorem tslice_toNeg (x : List Nat) (i : Int) (h : i < 0) : Txt.slice (S x) none (some i) = S (x.take (x.length - (-i).toNat)) := by
  rw [tslice]
  congr 1
  have e : hiN (some i) x.length = x.length - (-i).toNat := clip_neg _ _ h
  rw [e]
  show (x.drop 0).take (x.length - (-i).toNat - 0) = _
  rw [List.drop_zero, Nat.sub_zero]
theorem tslice_fromNeg (x : List Nat) (i : Int) (h : i < 0) : Txt.slice (S x) (some i) none = S (x.drop (x.length - (-i).toNat)) := by
  rw [tslice]
  congr 1
  have e : loN (some i) x.length = x.length - (-i).toNat := clip_neg _ _ h
  rw [e]
  show (x.drop (x.length - (-i).toNat)).take (x.length - (x.length - (-i).toNat)) = _
  rw [List.take_of_length_le (by rw [List.length_drop]; omega)]
theorem tslice_run (x : List Nat) (i j : Int) (h : 0 ≤ i) (h2 : 0 ≤ j) : Txt.slice (S x) (some i) (some j) = S ((x.drop i.toNat).take (j.toNat - i.toNat)) := by
  rw [tslice]
  congr 1
  have e : loN (some i) x.length = min i.toNat x.length := clip_pos _ _ (by assumption)
  have e2 : hiN (some j) x.length = min j.toNat x.length := clip_pos _ _ (by assumption)
  rw [e, e2, kmk_drop_min]
  by_cases h1 : i.toNat ≤ x.length
  · rw [Nat.min_eq_left h1]
    by_cases h3 : j.toNat ≤ x.length
    · rw [Nat.min_eq_left h3]
    · rw [Nat.min_eq_right (by omega), List.take_of_length_le (by rw [List.length_drop]; omega), List.take_of_length_le (by rw [List.length_drop]; omega)]
  · rw [List.drop_of_length_le (by omega)]; simp
theorem tslice_all (x : List Nat) : Txt.slice (S x) none none = S x := by
  rw [tslice]
  congr 1
  show (x.drop 0).take (x.length - 0) = _
  rw [List.drop_zero, Nat.sub_zero, List.take_length]
theorem titem (x : List Nat) (i : Int) (h0 : 0 ≤ i) (h : i < x.length) : Txt.item (S x) i = S [x.getD i.toNat 0] := by
  have hlt : i.toNat < x.length := by omega
  unfold Txt.item Txt.charAt
  rw [StrLaws.at_nonneg (x := S x) (n := x.getD i.toNat 0) h0 (by simp [S, List.getD_eq_getElem?_getD, hlt])]
  rfl
theorem titem_neg (x : List Nat) (i : Int) (h0 : i < 0) (h : -(x.length : Int) ≤ i) : Txt.item (S x) i = S [x.getD (i + x.length).toNat 0] := by
  unfold Txt.item Txt.charAt
  rw [S_len, StrLaws.seqIndex_neg h0 h]
  have hlt : (i + x.length).toNat < x.length := by omega
  simp [S, List.getD_eq_getElem?_getD, hlt]
theorem tmul (c : Nat) (n : Int) (k : Nat) (h : n = (k : Int)) : Txt.mul (S [c]) n = S (List.replicate k c) := by
  subst h
  unfold Txt.mul
  split
  · have : k = 0 := by omega
    subst this; rfl
  · split
    · rename_i h1 h2
      have : k = 1 := by
        have h3 : (k : Int) = 1 := by simpa [S, Str.length] using h2
        omega
      subst this; rfl
    · apply Str.ext'
      show List.foldl (· ++ ·) #[] (List.replicate (k : Int).toNat (S [c]).cps) = (List.replicate k c).toArray
      rw [Int.toNat_natCast]
      have aux : ∀ (m : Nat) (a : Array Nat), List.foldl (· ++ ·) a (List.replicate m (S [c]).cps) = a ++ (List.replicate m c).toArray := by
        intro m
        induction m with
        | zero => intro a; simp
        | succ m ih =>
          intro a
          rw [List.replicate_succ, List.foldl_cons, ih, List.replicate_succ]
          apply Array.ext'
          simp [S]
      rw [aux]; simp

section
variable {prog : Program} {w : World} {A : Around} {E : Value → Shared → Prop} {s : Shared} {h₀ : Heap} {L l : Addr} {m : Str → Option Value} {news : List (Addr × Obj)} {value slice : PySem.Expr} {X Y : Str} {x y : List Nat} {t u tx ty : Tok} {Q : Value → Shared → Prop}
theorem addS (hx : X = S x) (hy : Y = S y) (hsz : x.length + y.length ≤ 100000) (h : ∀ t' k, Q (.str (S (x ++ y)) t') { s with toks := k }) : wpAny (model prog w) A (binaryOp .Add (.str X t) (.str Y u)) Q E s := by
  subst hx hy
  refine SB.add (fun t' k => ?_) (by rw [S_len, S_len, sizeLine_eq]; omega)
  rw [S_app]; exact h t' k
theorem iaddS (hx : X = S x) (hy : Y = S y) (hsz : x.length + y.length ≤ 100000) (h : ∀ t' k, Q (.str (S (x ++ y)) t') { s with toks := k }) : wpAny (model prog w) A (inplaceOp .Add (.str X t) (.str Y u)) Q E s := by
  subst hx hy
  refine SB.iadd (fun t' k => ?_) (by rw [S_len, S_len, sizeLine_eq]; omega)
  rw [S_app]; exact h t' k
theorem mulS {c : Nat} {n : Int} (hx : X = S [c]) (h0 : 0 ≤ n) (h1 : n ≤ 100000) (h : ∀ t' k, Q (.str (S (List.replicate n.toNat c)) t') { s with toks := k }) : wpAny (model prog w) A (binaryOp .Mult (.str X t) (.int n u)) Q E s := by
  subst hx
  refine SB.mul (mulOk_of 1 100000 (by rw [S_len]; simp) h1 (by omega) (by decide) (by decide)) fun t' k => ?_
  rw [tmul c n n.toNat (by omega)]
  exact h t' k
theorem eqS (hx : X = S x) (hy : Y = S y) (h : Q (.bool (decide (x = y))) s) : wpAny (model prog w) A (compareOp .Eq (.str X t) (.str Y u)) Q E s := by
  subst hx hy
  refine PyProof.Rows.eq_str ?_
  have e : (S x == S y) = decide (x = y) := by
    by_cases h : x = y
    · rw [h]; simp
    · rw [decide_eq_false h]; exact beq_eq_false_iff_ne.mpr fun e => h (S_inj.mp e)
  rw [e]; exact h
theorem neS (hx : X = S x) (hy : Y = S y) (h : Q (.bool (!decide (x = y))) s) : wpAny (model prog w) A (compareOp .NotEq (.str X t) (.str Y u)) Q E s := by
  subst hx hy
  refine PyProof.Rows.ne_str ?_
  have e : (S x != S y) = !decide (x = y) := by
    by_cases h : x = y
    · rw [h]; simp
    · rw [decide_eq_false h]; simpa using fun e => h (S_inj.mp e)
  rw [e]; exact h
theorem lenS (hx : X = S x) (hsz : x.length ≤ 100000) (h : ∀ t' k, Q (.int (x.length : Int) t') { s with toks := k }) : wpAny (model prog w) A (call (.builtin "len") [.str X t]) Q E s := by
  subst hx
  refine P.len_str (by rw [S_len]; omega) ?_
  rw [S_len]; exact h _ _
theorem truthS {Q : Bool → Shared → Prop} (hx : X = S x) (hsz : x.length ≤ 100000) (h : ∀ k, Q (decide (x ≠ [])) { s with toks := k }) : wpAny (model prog w) A (truthy (.str X t)) Q E s := by
  subst hx
  refine P.truthy_str (by rw [S_len]; omega) ?_
  have e : (((S x).length : Int) != 0) = decide (x ≠ []) := by
    rw [S_len]; cases x with
    | nil => rfl
    | cons a r => simp; omega
  rw [e]; exact h _
theorem itemS {i : Int} (hx : X = S x) (hsz : x.length ≤ 100000) (h0 : 0 ≤ i) (h1 : i < x.length) (h : ∀ t' k, Q (.str (S [x.getD i.toNat 0]) t') { s with toks := k })
    (hs : subscripted slice false (.str X t) (.int i u) = operate [.str X t, .int i u] (getItem (.str X t) (.int i u)))
    (ht : ∀ r, letTemporaryGo value (.str X t) r = pure ()) :
    wpAny (model prog w) A (subscriptTail value slice (.str X t) (.int i u)) Q E s := by
  subst hx
  refine item_str (fitsSsize_of (N := 9223372036854775808) (by omega) (by omega) (Int.le_refl _)) (by rw [S_len]; omega) (by rw [S_len]; omega) (fun _ => ?_) hs ht
  rw [titem x i h0 h1]; exact h _ _
theorem itemSn {i : Int} (hx : X = S x) (hsz : x.length ≤ 100000) (h0 : i < 0) (h1 : -(x.length : Int) ≤ i) (h : ∀ t' k, Q (.str (S [x.getD (i + x.length).toNat 0]) t') { s with toks := k })
    (hs : subscripted slice false (.str X t) (.int i u) = operate [.str X t, .int i u] (getItem (.str X t) (.int i u)))
    (ht : ∀ r, letTemporaryGo value (.str X t) r = pure ()) :
    wpAny (model prog w) A (subscriptTail value slice (.str X t) (.int i u)) Q E s := by
  subst hx
  refine item_str (fitsSsize_of (N := 9223372036854775808) (by omega) (by omega) (Int.le_refl _)) (by rw [S_len]; omega) (by rw [S_len]; omega) (fun _ => ?_) hs ht
  rw [titem_neg x i h0 h1]; exact h _ _
theorem sliceS_nn (hF : Fr h₀ L s.heap m) (hN : News h₀ L s.heap news) (hx : X = S x) (hsz : x.length ≤ 100000) (h : ∀ h' t' k, Fr h₀ L h' m → News h₀ L h' news → Q (.str (S x) t') { s with heap := h', toks := k })
    (hs : subscripted slice false (.str X t) (.ref s.heap.objs.size) = operate [.ref s.heap.objs.size, .str X t] (getItem (.str X t) (.ref s.heap.objs.size)))
    (ht : ∀ r, letTemporaryGo value (.str X t) r = pure ()) :
    wpAny (model prog w) A (subscriptTail value slice (.str X t) (.ref s.heap.objs.size)) Q E { s with heap := s.heap.push { cls := .type "slice", data := .fields #[.none, .none, .none] } } := by
  subst hx
  refine slice_strN_nn hF hN (fun h' t' k a b => ?_) hs ht (by rw [S_len, sizeLine_eq]; omega)
  rw [tslice_all]; exact h h' t' k a b
theorem sliceS_from {i : Int} (hF : Fr h₀ L s.heap m) (hN : News h₀ L s.heap news) (hx : X = S x) (hsz : x.length ≤ 100000) (h0 : 0 ≤ i) (h : ∀ h' t' k, Fr h₀ L h' m → News h₀ L h' news → Q (.str (S (x.drop i.toNat)) t') { s with heap := h', toks := k })
    (hs : subscripted slice false (.str X t) (.ref s.heap.objs.size) = operate [.ref s.heap.objs.size, .str X t] (getItem (.str X t) (.ref s.heap.objs.size)))
    (ht : ∀ r, letTemporaryGo value (.str X t) r = pure ()) :
    wpAny (model prog w) A (subscriptTail value slice (.str X t) (.ref s.heap.objs.size)) Q E { s with heap := s.heap.push { cls := .type "slice", data := .fields #[.int i tx, .none, .none] } } := by
  subst hx
  refine slice_strN_sn hF hN (fun h' t' k a b => ?_) hs ht (by rw [S_len, sizeLine_eq]; omega)
  rw [tslice_from x i h0]; exact h h' t' k a b
theorem sliceS_fromNeg {i : Int} (hF : Fr h₀ L s.heap m) (hN : News h₀ L s.heap news) (hx : X = S x) (hsz : x.length ≤ 100000) (h0 : i < 0) (h : ∀ h' t' k, Fr h₀ L h' m → News h₀ L h' news → Q (.str (S (x.drop (x.length - (-i).toNat))) t') { s with heap := h', toks := k })
    (hs : subscripted slice false (.str X t) (.ref s.heap.objs.size) = operate [.ref s.heap.objs.size, .str X t] (getItem (.str X t) (.ref s.heap.objs.size)))
    (ht : ∀ r, letTemporaryGo value (.str X t) r = pure ()) :
    wpAny (model prog w) A (subscriptTail value slice (.str X t) (.ref s.heap.objs.size)) Q E { s with heap := s.heap.push { cls := .type "slice", data := .fields #[.int i tx, .none, .none] } } := by
  subst hx
  refine slice_strN_sn hF hN (fun h' t' k a b => ?_) hs ht (by rw [S_len, sizeLine_eq]; omega)
  rw [tslice_fromNeg x i h0]; exact h h' t' k a b
theorem sliceS_to {i : Int} (hF : Fr h₀ L s.heap m) (hN : News h₀ L s.heap news) (hx : X = S x) (hsz : x.length ≤ 100000) (h0 : 0 ≤ i) (h : ∀ h' t' k, Fr h₀ L h' m → News h₀ L h' news → Q (.str (S (x.take i.toNat)) t') { s with heap := h', toks := k })
    (hs : subscripted slice false (.str X t) (.ref s.heap.objs.size) = operate [.ref s.heap.objs.size, .str X t] (getItem (.str X t) (.ref s.heap.objs.size)))
    (ht : ∀ r, letTemporaryGo value (.str X t) r = pure ()) :
    wpAny (model prog w) A (subscriptTail value slice (.str X t) (.ref s.heap.objs.size)) Q E { s with heap := s.heap.push { cls := .type "slice", data := .fields #[.none, .int i tx, .none] } } := by
  subst hx
  refine slice_strN_ns hF hN (fun h' t' k a b => ?_) hs ht (by rw [S_len, sizeLine_eq]; omega)
  rw [tslice_to x i h0]; exact h h' t' k a b
theorem sliceS_toNeg {i : Int} (hF : Fr h₀ L s.heap m) (hN : News h₀ L s.heap news) (hx : X = S x) (hsz : x.length ≤ 100000) (h0 : i < 0) (h : ∀ h' t' k, Fr h₀ L h' m → News h₀ L h' news → Q (.str (S (x.take (x.length - (-i).toNat))) t') { s with heap := h', toks := k })
    (hs : subscripted slice false (.str X t) (.ref s.heap.objs.size) = operate [.ref s.heap.objs.size, .str X t] (getItem (.str X t) (.ref s.heap.objs.size)))
    (ht : ∀ r, letTemporaryGo value (.str X t) r = pure ()) :
    wpAny (model prog w) A (subscriptTail value slice (.str X t) (.ref s.heap.objs.size)) Q E { s with heap := s.heap.push { cls := .type "slice", data := .fields #[.none, .int i tx, .none] } } := by
  subst hx
  refine slice_strN_ns hF hN (fun h' t' k a b => ?_) hs ht (by rw [S_len, sizeLine_eq]; omega)
  rw [tslice_toNeg x i h0]; exact h h' t' k a b
theorem sliceS_run {i j : Int} (hF : Fr h₀ L s.heap m) (hN : News h₀ L s.heap news) (hx : X = S x) (hsz : x.length ≤ 100000) (h0 : 0 ≤ i) (h1 : 0 ≤ j) (h : ∀ h' t' k, Fr h₀ L h' m → News h₀ L h' news → Q (.str (S ((x.drop i.toNat).take (j.toNat - i.toNat))) t') { s with heap := h', toks := k })
    (hs : subscripted slice false (.str X t) (.ref s.heap.objs.size) = operate [.ref s.heap.objs.size, .str X t] (getItem (.str X t) (.ref s.heap.objs.size)))
    (ht : ∀ r, letTemporaryGo value (.str X t) r = pure ()) :
    wpAny (model prog w) A (subscriptTail value slice (.str X t) (.ref s.heap.objs.size)) Q E { s with heap := s.heap.push { cls := .type "slice", data := .fields #[.int i tx, .int j ty, .none] } } := by
  subst hx
  refine slice_strN_ss hF hN (fun h' t' k a b => ?_) hs ht (by rw [S_len, sizeLine_eq]; omega)
  rw [tslice_run x i j h0 h1]; exact h h' t' k a b
end
end

section
/-- what _iter_escaped_chars yields -/
noncomputable def itGo : List Nat → Nat → Bool → List (Nat × List Nat)
  | [], i, esc => if esc = true then [(i - 1, [92])] else []
  | c :: r, i, esc => if esc = true then (i, [92, c]) :: itGo r (i + 1) false else if c = 92 then itGo r (i + 1) true else (i, [c]) :: itGo r (i + 1) false
noncomputable def itOut (x : List Nat) : List (Nat × List Nat) := itGo x 0 false

noncomputable def Since (own : List Addr) (s₀ s : Shared) : Prop :=
  ∃ h' tk, s = { s₀ with heap := h', toks := tk } ∧ ∀ b o, b ∉ own → s₀.heap.get? b = some o → h'.get? b = some o
theorem Since.refl (own : List Addr) (s : Shared) : Since own s s := ⟨s.heap, s.toks, rfl, fun _ _ _ e => e⟩
theorem Since.step {own : List Addr} {s₀ s : Shared} (x : Since own s₀ s) {h' : Heap} {tk : Nat} (hk : ∀ b o, b ∉ own → s.heap.get? b = some o → h'.get? b = some o) : Since own s₀ { s with heap := h', toks := tk } := by
  obtain ⟨h₁, tk₁, rfl, hk₁⟩ := x
  exact ⟨h', tk, rfl, fun b o hb e => hk b o hb (hk₁ b o hb e)⟩

/-- the tuple of a place and a text at T -/
noncomputable def PairAt (h : Heap) (T : Addr) (p : Nat × List Nat) : Prop := ∃ t1 t2, h.get? T = some { cls := .type "tuple", data := .seq #[.int (p.1 : Int) t1, .str (S p.2) t2] }

noncomputable def GY (h₀ : Heap) (own : List Addr) (outs : List (Nat × List Nat)) : Protocol := fun m s₀ v s kap =>
  (∃ T p, outs[outs.length - 1 - m]? = some p ∧ v = .ref T ∧ PairAt s.heap T p ∧ T ∉ own ∧ ∀ b o, b ∉ own → s₀.heap.get? b = some o → b ≠ T) ∧ Since own s₀ s ∧
    ∀ s'' : Shared, (∀ b o, h₀.get? b = some o → s''.heap.get? b = some o) → (∀ b ∈ own, ∀ o, s.heap.get? b = some o → s''.heap.get? b = some o) → kap (.send .none) s''
noncomputable def GR (own : List Addr) : GenEnd := fun n s₀ r s₁ => r = .ok (.ret .none) ∧ (n = 0 ∧ Since own s₀ s₁)

/-- the generator at a, number g, j pieces given out -/
noncomputable def GAt (prog : Program) (w : World) (A : Around) (h₀ : Heap) (a : Addr) (g : Nat) (own : List Addr) (outs : List (Nat × List Nat)) (start j : Nat) (s : Shared) : Prop :=
  s.heap.IsGen a g ∧ s.heap.NoLimit ∧ ∃ gs, s.gens[g]? = some gs ∧ ∀ s'' : Shared, (j = 0 → s''.heap.objs.size = start) → (∀ b o, h₀.get? b = some o → s''.heap.get? b = some o) → (∀ b ∈ own, ∀ o, s.heap.get? b = some o → s''.heap.get? b = some o) →
    gs.Goes (model prog w) A.in1 (GR own) (GY h₀ own outs) (outs.length - j) (.send .none) s''

section
variable {M : Model} {A : Around} {R : GenEnd} {Y : Protocol} {n : Nat} {s₀ : Shared} {c : Code} {fs : List Frame} {s : Shared} {env : Env}
  {K : Flow → Sem Fin} {H : Value → Sem Fin} {gd : Bool → Bool} {lv : List Value → List Value}
abbrev NoE : Value → Shared → Prop := fun _ _ => False
noncomputable def kNext (rest : List Stmt) (env : Env) (K : Flow → Sem Fin) (H : Value → Sem Fin) (gd : Bool → Bool) (lv : List Value → List Value) (f : Flow) : Sem Fin :=
  match f with
  | .next => (execs rest env).wrap K H gd lv
  | f => K f
theorem seg_cons {st : Stmt} {rest : List Stmt} (h : Seg M A R Y n s₀ c ((exec st env).wrap (kNext rest env K H gd lv) H gd lv) fs s) :
    Seg M A R Y n s₀ c ((execs (st :: rest) env).wrap K H gd lv) fs s := by
  refine seg_execs_cons ?_
  exact h
theorem seg_one {st : Stmt} {rest : List Stmt} (h : wpAny M (A.over c fs) (exec st env) (fun f s' => f = .next ∧ Seg M A R Y n s₀ c ((execs rest env).wrap K H gd lv) fs s') NoE s) :
    Seg M A R Y n s₀ c ((execs (st :: rest) env).wrap K H gd lv) fs s := by
  refine seg_cons (seg_wrap (wpAny_mono h (fun f s' hf => ?_) fun _ _ e => e.elim))
  obtain ⟨rfl, hf⟩ := hf
  exact hf
theorem seg_if {test : Expr} {body orelse rest : List Stmt} {pos : Pos}
    (h : wpAny M (A.over c fs) (isTrue test env (eval test env)) (fun b s' => if b = true
        then Seg M A R Y n s₀ c ((execs body env).wrap (kNext rest env K H gd lv) H gd lv) fs s'
        else Seg M A R Y n s₀ c ((execs orelse env).wrap (kNext rest env K H gd lv) H gd lv) fs s') NoE s) :
    Seg M A R Y n s₀ c ((execs (.If test body orelse pos :: rest) env).wrap K H gd lv) fs s := by
  refine seg_cons ?_
  rw [exec_If]
  refine seg_bind_wrap (wpAny_standAt ?_)
  refine seg_bind_wrap (wpAny_mono h (fun b s' hb => ?_) fun _ _ e => e.elim)
  cases b with
  | true => exact hb
  | false => exact hb
theorem seg_yield1 {e : Expr} {rest : List Stmt} {ypos pos : Pos} (hfs : splitAtGen fs = none) (hgd : gd false = false) (hfg : fs.any Frame.guarded = false) (hco : env.scope.isCoroutine = false) (hi : interactive env = false)
    (h : wpAny M (A.over c fs) (eval e env) (fun v s' => ∀ kap : Resume → Shared → Prop,
        (∀ s'', Seg M A R Y n s'' c ((execs rest env).wrap K H gd lv) fs s'' → kap (.send .none) s'') → Y n s₀ v s' kap) NoE s) :
    Seg M A R Y (n + 1) s₀ c ((execs (.Expr (.Yield (some e) ypos) pos :: rest) env).wrap K H gd lv) fs s := by
  refine seg_execs_cons (seg_Expr_Yield hfs hgd hfg (wpAny_mono h (fun v s' hv kap hk => ?_) fun _ _ e => e.elim) hco hi)
  exact hv kap fun s'' hs => hk .none s'' hs
theorem seg_for {target iter : Expr} {body rest : List Stmt} {pos : Pos}
    (h : wpAny M (A.over c fs) (eval iter env) (fun xv s₁ => wpAny M (A.over c fs) (pyIter xv) (fun it s₂ =>
      ∀ k p, (∀ n' s₀' cc s', Seg M A R Y n' s₀' c ((execs rest env).wrap K H gd lv) fs s' → Seg M A R Y n' s₀' cc (leafOf (.ok .next)) (.ret k none (gd false) (lv []) c p [] :: fs) s') →
        Seg M A R Y n s₀ (.forLoop target it body [] env) (M.den (.forLoop target it body [] env)) (.ret k none (gd false) (lv []) c p [] :: fs) s₂) NoE s₁) NoE s)
    (hs : ∀ x, foldedSetIterable iter env x = pure x) :
    Seg M A R Y n s₀ c ((execs (.For target iter body [] pos :: rest) env).wrap K H gd lv) fs s := by
  refine seg_cons ?_
  rw [exec_For]
  refine seg_bind_wrap (wpAny_standAt ?_)
  refine seg_bind_wrap (wpAny_mono h (fun xv s₁ h₁ => ?_) fun _ _ e => e.elim)
  refine seg_bind_wrap (wpAny_of_eq (hs xv) ?_)
  refine seg_bind_wrap (wpAny_standAt ?_)
  refine seg_bind_wrap (wpAny_holding (wpAny_mono h₁ (fun it s₂ h₂ => ?_) fun _ _ e => e.elim))
  refine seg_call fun p => h₂ _ p fun n' s₀' cc s' hs' => ?_
  exact seg_leaf (.ok .next) hs'
end

section
variable {prog : Program} {w : World} {A : Around} {R : GenEnd} {Y : Protocol} {n : Nat} {s₀ : Shared} {fs : List Frame} {s : Shared} {env : Env} {target : Expr} {it : Value} {body : List Stmt}
noncomputable def kLoop (target : Expr) (it : Value) (body : List Stmt) (env : Env) (f : Flow) : Sem Fin :=
  match f with
  | .next | .cont => .pure (.again (.forLoop target it body [] env))
  | .brk => .pure (.done .next)
  | .ret v => .pure (.done (.ret v))
noncomputable def hLoop (env : Env) (e : Value) : Sem Fin := (do noteFrame e env; theTreesLotGoes e : Sem Unit).bind fun _ => .raise e
noncomputable def TurnR (prog : Program) (w : World) (A : Around) (R : GenEnd) (Y : Protocol) (n : Nat) (s₀ : Shared) (fs : List Frame) (target : Expr) (it : Value) (body : List Stmt) (env : Env) (r : Option Value) (s₁ : Shared) : Prop :=
  match r with
  | none => Seg (model prog w) A R Y n s₀ (.block [] env) (leafOf (.ok .next)) fs s₁
  | some v => wpAny (model prog w) (A.over (.forLoop target it body [] env) fs) (letOwnedTupleGo target it v) (fun _ s₂ =>
      wpAny (model prog w) (A.over (.forLoop target it body [] env) fs) (assign target env v) (fun _ s₃ =>
        Seg (model prog w) A R Y n s₀ (.forLoop target it body [] env) ((execs body env).wrap (kLoop target it body env) (hLoop env) id id) fs s₃) NoE s₂) NoE s₁
theorem seg_turn (h : wpAny (model prog w) (A.over (.forLoop target it body [] env) fs) (pyNext it) (TurnR prog w A R Y n s₀ fs target it body env) NoE s) :
    Seg (model prog w) A R Y n s₀ (.forLoop target it body [] env) ((model prog w).den (.forLoop target it body [] env)) fs s := by
  show Seg _ A R Y n s₀ _ ((forTurn target it body [] env).onRaise (fun x => do noteFrame x env; theTreesLotGoes x)) fs s
  unfold forTurn
  rw [Sem.onRaise_eq_wrap]
  refine seg_bind_wrap (wpAny_standAt ?_)
  refine seg_bind_wrap (wpAny_onRaise (wpAny_mono h (fun r s₁ h₁ => ?_) fun _ _ e => e.elim))
  cases r with
  | none => exact seg_again (c' := .block [] env) rfl h₁
  | some v =>
    refine seg_bind_wrap (wpAny_mono (h₁ : wpAny _ _ _ _ _ _) (fun _ s₂ h₂ => ?_) fun _ _ e => e.elim)
    refine seg_bind_wrap (wpAny_mono h₂ (fun _ s₃ h₃ => ?_) fun _ _ e => e.elim)
    rw [Sem.bind_eq_wrap', Sem.wrap_wrap]
    refine Eq.mp ?_ h₃
    congr 1
    refine Sem.wrap_congr _ _ _ (fun f => ?_) (fun e => rfl)
    cases f <;> rfl
end

section
variable {prog : Program} {w : World} {A : Around} {E : Value → Shared → Prop} {s : Shared} {K : Frag} {L : Addr} {h₀ : Heap} {m mg mb : Str → Option Value} {p : Program} {loose : List Str} {mean : ExcName → Option Value} {Q : Value → Shared → Prop}
/-- a call of a generator function -/
theorem gen_def {name qual : Str} {params : Arguments} {body : List Stmt} {scope : Scope} {dV kV doc pm cdv ct oc : Value} {an od : Option Addr} {osl : Array (Option Value)} {f : Addr} {vs : List Value} {binds : List (Str × Value)}
    (F : Fr h₀ L s.heap m) (X₀ : K.In h₀) (T : Top p loose mean mg mb h₀)
    (ho : K.lookup f = some ⟨oc, od, .func (fnOf name qual params body scope dV kV doc pm an cdv ct), osl⟩) (hcd : codeIn K cdv qual = true) (hroom : A.depth < recursionLimit)
    (hbind : BindsTo s (fnOf name qual params body scope dV kV doc pm an cdv ct) ⟨vs, []⟩ binds) (hloc : ∀ y ∈ binds, scope.names.lookup y.1 = some .local)
    (hco : scope.isCoroutine = false) (hgen : scope.isGenerator = true) (hk : scope.kind = .function) (hcell : ∀ x ∈ scope.names, x.2 ≠ .cell)
    (h : ∀ (h' : Heap) (tk : Nat) (nm qn : Value), h'.Ns s.heap.objs.size (fun y => binds.reverse.lookup y) → (∀ b o, s.heap.get? b = some o → h'.get? b = some o) → h'.objs.size = s.heap.objs.size + 1 →
      Q (.ref (s.heap.objs.size + 1)) { s with gens := s.gens.push (.fresh (.func body (envOf qual scope s.heap.objs.size f cdv))), toks := tk, heap := h'.push { cls := .type "generator", data := .fields #[.int s.gens.size 0, nm, qn] } }) :
    wpAny (model prog w) A (call (.ref f) vs) Q E s := by
  have X := X₀.keeps F.keep
  refine wpAny_call (codeAny_call_generator (fd := fnOf name qual params body scope dV kV doc pm an cdv ct) (body := body) hroom (X _ _ ho) rfl hco hgen rfl (codeRec_of X hcd) ?_)
  refine hbind _ _ _ _ ?_
  refine wpAny_newFunctionEnv hcell hloc (fun h' hn hs => ?_) hk
  have hz : h'.objs.size = s.heap.objs.size + 1 := by rw [hs.1, Heap.size_push]
  refine ⟨(T.nolimit.keeps F.keep).fresh _ hs, ?_⟩
  have hq := h h' (s.toks + binds.length + 1 + 1) (.str name (s.toks + binds.length)) (.str qual (s.toks + binds.length + 1)) hn (fun b o e => hs.extBut b o (Nat.ne_of_lt (Heap.lt_size e)) (Heap.get?_push_of_some _ e)) hz
  rw [← hz] at hq
  exact hq
end

theorem seg_induct {M : Model} {A : Around} {R : GenEnd} {Y : Protocol} {c : Code} {t : Sem Fin} {fs : List Frame} (I : Nat → Nat → Shared → Shared → Prop)
    (step : ∀ k, (∀ k', k' < k → ∀ n s₀ s, I k' n s₀ s → Seg M A R Y n s₀ c t fs s) → ∀ n s₀ s, I k n s₀ s → Seg M A R Y n s₀ c t fs s)
    {k n : Nat} {s₀ s : Shared} (h : I k n s₀ s) : Seg M A R Y n s₀ c t fs s := by
  induction k using Nat.strongRecOn generalizing n s₀ s with
  | ind k ih => exact step k (fun k' hk' n s₀ s hI => ih k' hk' hI) n s₀ s h

noncomputable def SignP (x : List Nat) (i : Nat) (v : Value) : Prop := ∃ c u, x[i]? = some c ∧ v = .str (S [c]) u
noncomputable def StrSt (it : Addr) (x : List Nat) (tx : Tok) (i : Nat) (h : Heap) : Prop := h.IsStrIter it (strIterType (S x)) (S x) tx i
theorem draws_str {prog : Program} {w : World} {A : Around} (hh : A.handled = none) (it : Addr) (x : List Nat) (tx : Tok) : Draws prog w A it [it] x.length (SignP x) (StrSt it x tx) := by
  have hs : (S x).cps.size = x.length := by simp [S]
  have hp : (fun (i : Nat) (v : Value) => ∃ c u, (S x).cps[i]? = some c ∧ v = .str ⟨#[c]⟩ u) = SignP x := by
    funext i v
    simp [SignP, S]
  cases ha : (S x).cps.all (· < 128) with
  | true =>
    have D := Draws.strAscii (prog := prog) (w := w) hh it (S x) tx
    rw [hs, hp] at D
    have e : StrSt it x tx = fun i h => h.IsStrIter it "str_ascii_iterator" (S x) tx i := by funext i h; simp [StrSt, strIterType, ha]
    rw [e]; exact D
  | false =>
    have D := Draws.strWide (prog := prog) (w := w) hh it (S x) tx
    rw [hs, hp] at D
    have e : StrSt it x tx = fun i h => h.IsStrIter it "str_iterator" (S x) tx i := by funext i h; simp [StrSt, strIterType, ha]
    rw [e]; exact D
noncomputable def EnSt (e it : Addr) (x : List Nat) (tx : Tok) (i : Nat) (h : Heap) : Prop := (∃ old, IsEnum h e it i old) ∧ StrSt it x tx i h
noncomputable def EnMid (e it : Addr) (x : List Nat) (tx : Tok) (i : Nat) (T : Addr) (h : Heap) : Prop := (∃ v, IsEnumOut h e it ((i : Int) + 1) v T) ∧ StrSt it x tx (i + 1) h ∧ T ≠ e ∧ T ≠ it
theorem walks_en {prog : Program} {w : World} {A : Around} (hh : A.handled = none) (e it : Addr) (hne : e ≠ it) (x : List Nat) (tx : Tok) :
    WalksT prog w A e [e, it] [e, it] x.length (fun i vals => ∃ t v, SignP x i v ∧ vals = #[.int i t, v]) (EnSt e it x tx) (EnMid e it x tx) :=
  WalksT.enumerateD (A := A) (draws_str (A := A.in1) hh it x tx) e hne (by simpa using hne) (by simp)

/-- the pair of places is stored -/
theorem assign_pair {prog : Program} {w : World} {A : Around} {E : Value → Shared → Prop} {s : Shared} {env : Env} {xi xv : Str} {pi pv pt : Pos} {x1 : Nat} {T : Addr} {v1 v2 : Value} {mm : Str → Option Value} {Q : Unit → Shared → Prop}
    (hh : A.handled = none) (hxi : env.kindOf xi = some .local) (hxv : env.kindOf xv = some .local) (hp : (env.scope.kind == .class || (env.scope.kind == .module && env.locals != env.globals)) = false)
    (hT : s.heap.IsTuple T #[v1, v2]) (hn : s.heap.Ns env.locals mm)
    (h : ∀ h' tk, h'.Ns env.locals (fun y => if y = xv then some v2 else if y = xi then some v1 else mm y) → (∀ b o, b ≠ env.locals → s.heap.get? b = some o → h'.get? b = some o) → Q () { s with heap := h', toks := tk }) :
    wpAny (model prog w) A (assign (.Tuple [.Name xi pi, .Name xv pv] x1 pt) env (.ref T)) Q E s := by
  refine wpAny_assign_Tuple hh hT rfl rfl fun h3 hx3 => ?_
  have k3 : ∀ b o, s.heap.get? b = some o → h3.get? b = some o := fun b o e => hx3 b o (Nat.ne_of_lt (Heap.lt_size e)) e
  have hn3 : h3.Ns env.locals mm := hn.at' fun o e => k3 _ _ e
  show wpAny _ A (do holding [v2] (assign (.Name xi pi) env v1); do holding [] (assign (.Name xv pv) env v2); pure ()) _ _ _
  refine wpAny_bind (wpAny_holding (wpAny_assign_Name (wpAny_storeName_local hxi hn3 (fun h4 hn4 hs4 => ?_) hp)))
  refine wpAny_bind (wpAny_holding (wpAny_assign_Name (wpAny_storeName_local hxv hn4 (fun h5 hn5 hs5 => wpAny_pure ?_) hp)))
  exact h h5 _ hn5 fun b o hb e => (hs5.2 b hb).trans ((hs4.2 b hb).trans (k3 b o e))

theorem gy_pair {h₀ : Heap} {own : List Addr} {outs pre rest : List (Nat × List Nat)} {p : Nat × List Nat} {m : Nat} {s₀ s1 : Shared} {h6 : Heap} {tk0 tk : Nat} {t1 t2 : Tok} {X : Str} {kap : Resume → Shared → Prop} (hX : X = S p.2)
    (hpre : outs = pre ++ p :: rest) (hm : m = rest.length) (hsince : Since own s₀ { s1 with heap := h6, toks := tk0 }) (hlive : ∀ b ∈ own, b < h6.objs.size)
    (hk : ∀ s'' : Shared, (∀ b o, h₀.get? b = some o → s''.heap.get? b = some o) → (∀ b ∈ own, ∀ o, h6.get? b = some o → s''.heap.get? b = some o) → kap (.send .none) s'') :
    GY h₀ own outs m s₀ (.ref h6.objs.size) { s1 with heap := h6.push { cls := .type "tuple", data := .seq #[.int (p.1 : Int) t1, .str X t2] }, toks := tk } kap := by
  subst hX
  refine ⟨⟨h6.objs.size, p, ?_, rfl, ⟨t1, t2, Heap.get?_push_size _ rfl⟩, ?_, ?_⟩, ?_, ?_⟩
  · subst hpre hm
    rw [List.length_append, List.length_cons, show pre.length + (rest.length + 1) - 1 - rest.length = pre.length by omega]
    simp
  · intro hT
    exact absurd (hlive _ hT) (Nat.lt_irrefl _)
  · intro b o hb e
    obtain ⟨h', tk', e', hk'⟩ := hsince
    have e2 : h6 = h' := congrArg Shared.heap e'
    exact Nat.ne_of_lt (Heap.lt_size (by rw [e2]; exact hk' b o hb e))
  · exact hsince.step (tk := tk) fun b o _ e => Heap.get?_push_of_some _ e
  · intro s'' h0 ho
    exact hk s'' h0 fun b hb o e => ho b hb o (Heap.get?_push_of_some _ e)

theorem seg_back {prog : Program} {w : World} {A : Around} {R : GenEnd} {Y : Protocol} {n : Nat} {s₀ : Shared} {fs : List Frame} {s : Shared} {env : Env} {target : Expr} {it : Value} {body : List Stmt} {H : Value → Sem Fin}
    (h : Seg (model prog w) A R Y n s₀ (.forLoop target it body [] env) ((model prog w).den (.forLoop target it body [] env)) fs s) :
    Seg (model prog w) A R Y n s₀ (.forLoop target it body [] env) ((execs [] env).wrap (kNext [] env (kLoop target it body env) H id id) H id id) fs s := by
  refine seg_execs_nil ?_
  show Seg _ A R Y n s₀ _ (.pure (.again (.forLoop target it body [] env))) fs s
  exact seg_again rfl h
theorem seg_back2 {prog : Program} {w : World} {A : Around} {R : GenEnd} {Y : Protocol} {n : Nat} {s₀ : Shared} {fs : List Frame} {s : Shared} {env : Env} {target : Expr} {it : Value} {body : List Stmt} {H : Value → Sem Fin}
    (h : Seg (model prog w) A R Y n s₀ (.forLoop target it body [] env) ((model prog w).den (.forLoop target it body [] env)) fs s) :
    Seg (model prog w) A R Y n s₀ (.forLoop target it body [] env) ((execs [] env).wrap (kNext [] env (kNext [] env (kLoop target it body env) H id id) H id id) H id id) fs s := by
  refine seg_execs_nil ?_
  show Seg _ A R Y n s₀ _ (.pure (.again (.forLoop target it body [] env))) fs s
  exact seg_again rfl h
end

section
/-- what one waking of a generator may have done -/
noncomputable def Woke (own : List Addr) (s s' : Shared) : Prop :=
  ∃ h' tk gs, s' = { s with heap := h', toks := tk, gens := gs } ∧ (AllBare s.gens → AllBare gs) ∧ ∀ b o, b ∉ own → s.heap.get? b = some o → h'.get? b = some o

theorem setGen_bare {s : Shared} {g : Nat} {x : GenState} (hx : x.bare = true) (h : AllBare s.gens) : AllBare (s.setGen g x).gens := by
  intro y hy
  simp only [Shared.setGen] at hy
  rcases Array.mem_or_eq_of_mem_setIfInBounds hy with h1 | h1
  · exact h y h1
  · rw [h1]; exact hx

section
variable {prog : Program} {w : World} {A : Around} {E : Value → Shared → Prop} {s : Shared} {h₀ : Heap} {a : Addr} {g : Nat} {own : List Addr} {outs : List (Nat × List Nat)} {start j : Nat}
theorem gat_next {Q : Option Value → Shared → Prop} (hh : A.handled = none) (hroom : A.depth < recursionLimit) (hlim : h₀.NoLimit) (hown0 : ∀ b ∈ own, h₀.get? b = none) (ha : a ∉ own)
    (hst : GAt prog w A h₀ a g own outs start j s) (hsz : j = 0 → s.heap.objs.size = start) (hk0 : ∀ b o, h₀.get? b = some o → s.heap.get? b = some o) (hj : j ≤ outs.length)
    (hitem : ∀ T p s', outs[j]? = some p → PairAt s'.heap T p → T ∉ own → (∀ b o, b ∉ own → s.heap.get? b = some o → b ≠ T) → Woke own s s' → GAt prog w A h₀ a g own outs start (j + 1) s' → Q (some (.ref T)) s')
    (hdone : ∀ s', j = outs.length → Woke own s s' → Q none s') :
    wpAny (model prog w) A (pyNext (.ref a)) Q E s := by
  obtain ⟨hg, hl, gs, hgs, hgo⟩ := hst
  have hgo' := hgo (s.setGen g .running) hsz hk0 (fun _ _ _ e => e)
  unfold pyNext
  refine wpAny_bind (wpAny_attempt (wpAny_callSpecial?_slot (name := Str.ofString "__next__") hg.typeIs slot_gen_next (wpAny_call_entry slot_gen_next hg.typeIs entry_gen_next ?_ (args_gen_next _))))
  show wpAny _ A.in1 (Builtin.Generator.genWake (.ref a) (.send .none)) _ _ s
  unfold Builtin.Generator.genWake
  refine wpAny_bind (wpAny_holding (wpAny_genNumber hg (wpAny_bind (wpAny_genState hgs ?_))))
  have hfin : ∀ s₁, outs.length - j = 0 → Since own (s.setGen g .running) s₁ → ∀ h', (∀ b o, s₁.heap.get? b = some o → h'.get? b = some o) → Q none { s₁.setGen g .finished with heap := h' } := by
    intro s₁ h0 hs h' hk
    obtain ⟨h1, tk1, rfl, hk1⟩ := hs
    refine hdone _ (by omega) ⟨h', tk1, _, rfl, fun hb => setGen_bare (s := (s.setGen g .running)) rfl (setGen_bare rfl hb), fun b o hb e => hk b o (hk1 b o hb e)⟩
  have hyld : ∀ v s₁ gs', gs'.bare = true → GY h₀ own outs (outs.length - j - 1) (s.setGen g .running) v s₁ (fun r' s'' => match outs.length - j with
        | 0 => False
        | m + 1 => gs'.Goes (model prog w) A.in1 (GR own) (GY h₀ own outs) m r' s'') → Q (some v) (s₁.setGen g gs') := by
    intro v s₁ gs' hb hv
    obtain ⟨⟨T, p, hp, rfl, hT, hTo, hTn⟩, ⟨h1, tk1, rfl, hk1⟩, hkap⟩ := hv
    by_cases hjl : j = outs.length
    · have h0 : outs.length - j = 0 := by omega
      rw [h0] at hkap
      exact (hkap { (s.setGen g .running) with heap := h1, toks := tk1 } (fun b o e => hk1 b o (fun hm => by rw [hown0 b hm] at e; cases e) (hk0 b o e)) (fun _ _ _ e => e)).elim
    · have hm : outs.length - j = outs.length - (j + 1) + 1 := by omega
      rw [hm] at hkap
      have hidx : outs.length - 1 - (outs.length - j - 1) = j := by omega
      rw [hidx] at hp
      have keep1 : ∀ b o, h₀.get? b = some o → h1.get? b = some o := fun b o e => hk1 b o (fun hm => by rw [hown0 b hm] at e; cases e) (hk0 b o e)
      refine hitem T p _ hp hT hTo hTn ⟨h1, tk1, _, rfl, fun hb' => setGen_bare (s := { (s.setGen g .running) with heap := h1, toks := tk1 }) hb (setGen_bare (s := s) rfl hb'), hk1⟩ ?_
      refine ⟨let ⟨o, nm, qn, ho, r⟩ := hg; ⟨o, nm, qn, hk1 a o ha ho, r⟩, hlim.keeps keep1, gs', setGen_self (s := { (s.setGen g .running) with heap := h1, toks := tk1 }) (gs := .running) (setGen_self (s := s) hgs), ?_⟩
      intro s'' _ h0 ho
      exact hkap s'' h0 ho
  cases gs with
  | running => exact hgo'.elim
  | finished => exact hgo'.elim
  | _ =>
    refine wpAny_bind (wpAny_roomToWake hl hroom ?_)
    show wpAny _ A.in1 (.resume g (.send .none) [] _) _ _ s
    refine wpAny_resumeQ hgs hgo' (fun x s₁ hx => ?_) (fun v s₁ gs' hb hv => ?_)
    · obtain ⟨rfl, h0, hp⟩ := hx
      show wpAny _ A.in1 (newExc (.type "StopIteration") [] >>= _) _ _ _
      refine wpAny_bind ?_
      simp only [newExc, newTuple]
      refine wpAny_bind (wpAny_newObj_type ?_ (by size_fits))
      refine wpAny_bind (m := firstArgMember _ _) (wpAny_of_eq (a := Value.none) (by first | rfl | (simp only [firstArgMember]; rfl)) ?_)
      refine wpAny_newObj_type ?_ (by size_fits)
      simp only [raiseNew]
      refine wpAny_bind (wpAny_bind (wpAny_handled ?_))
      first | rw [show A.in1.handled = none from hh] | rw [hh]
      refine wpAny_throw ?_
      refine wpAny_bind (wpAny_isInstance (T := "StopIteration") (b := true) ⟨_, Heap.get?_push_size _ rfl, rfl⟩ isSubtype_stop ?_)
      exact wpAny_pure (hfin s₁ h0 hp _ fun b o hb => Heap.get?_push_of_some _ (Heap.get?_push_of_some _ hb))
    · exact wpAny_pure ⟨v, rfl, wpAny_pure (hyld v s₁ gs' hb hv)⟩

theorem go_gen {elts : List Expr} {x1 : Nat} {pos : Pos} {T : Addr} {Q : Unit → Shared → Prop} (hg : s.heap.IsGen a g) (h : Q () s) :
    wpAny (model prog w) A (letOwnedTupleGo (.Tuple elts x1 pos) (.ref a) (.ref T)) Q E s := by
  obtain ⟨o, nm, qn, ho, hc, hd, _⟩ := hg
  unfold letOwnedTupleGo
  refine wpAny_bind (wpAny_load ho ?_)
  rw [hc, hd]
  show wpAny _ A (if (["enumerate", "zip", "dict_itemiterator", "dict_reverseitemiterator", "odict_iterator", "itertools.zip_longest", "itertools.pairwise"].contains "generator" && _) = true then _ else _) Q E s
  rw [if_neg (by simp)]
  exact wpAny_pure h

theorem GAt.frame (hst : GAt prog w A h₀ a g own outs start (j + 1) s) {h' : Heap} {tk : Nat} (hk : ∀ b ∈ a :: own, ∀ o, s.heap.get? b = some o → h'.get? b = some o) (hlim : h'.NoLimit) :
    GAt prog w A h₀ a g own outs start (j + 1) { s with heap := h', toks := tk } := by
  obtain ⟨⟨o, nm, qn, ho, r⟩, _, gs, hgs, hgo⟩ := hst
  refine ⟨⟨o, nm, qn, hk a (List.mem_cons_self ..) o ho, r⟩, hlim, gs, hgs, fun s'' hz h0 hown => ?_⟩
  exact hgo s'' (fun e => absurd e (Nat.succ_ne_zero j)) h0 fun b hb o e => hown b hb o (hk b (List.mem_cons_of_mem _ hb) o e)

noncomputable def Alive (h : Heap) (bs : List Addr) : List (Addr × Obj) := bs.filterMap fun b => (h.get? b).map fun o => (b, o)
theorem mem_alive {h : Heap} {bs : List Addr} {p : Addr × Obj} : p ∈ Alive h bs ↔ p.1 ∈ bs ∧ h.get? p.1 = some p.2 := by
  unfold Alive
  rw [List.mem_filterMap]
  constructor
  · rintro ⟨b, hb, e⟩
    cases hq : h.get? b with
    | none => rw [hq] at e; cases e
    | some o => rw [hq] at e; cases e; exact ⟨hb, hq⟩
  · rintro ⟨hb, e⟩
    exact ⟨p.1, hb, by rw [e]; rfl⟩

theorem gen_loop {env : Env} {xi xv : Str} {pi pv pt : Pos} {x1 : Nat} {body : List Stmt} {m₀ : Str → Option Value} {news : List (Addr × Obj)} {Q : Flow → Shared → Prop} (J : Nat → (Str → Option Value) → List (Addr × Obj) → Prop)
    (hh : A.handled = none) (hroom : A.depth < recursionLimit) (hlim : h₀.NoLimit) (hown0 : ∀ b ∈ a :: own, h₀.get? b = none) (ha : a ∉ own) (hL : env.locals ∉ a :: own)
    (hxi : env.kindOf xi = some .local) (hxv : env.kindOf xv = some .local) (hp : (env.scope.kind == .class || (env.scope.kind == .module && env.locals != env.globals)) = false)
    (hst : GAt prog w A h₀ a g own outs start 0 s) (hsz : s.heap.objs.size = start) (hb : AllBare s.gens) (F : Fr h₀ env.locals s.heap m₀) (N : News h₀ env.locals s.heap news) (hn : ∀ p ∈ news, p.1 ∉ a :: own) (hj : J 0 m₀ news)
    (turn : ∀ j p t1 t2 m₁ nx h tk gs own9, outs[j]? = some p → nx.map (·.1) = news.map (·.1) → OwnOff own9 (news.map (·.1)) → J j m₁ nx → AllBare gs →
      Fr h₀ env.locals h (fun y => if y = xv then some (.str (S p.2) t2) else if y = xi then some (.int (p.1 : Int) t1) else m₁ y) → News h₀ env.locals h (nx ++ own9) →
      wpAny (model prog w) A (execs body env) (InvPostN h₀ env.locals (J (j + 1)) own9 (news.map (·.1)) { s with heap := h, toks := tk, gens := gs } Q) E { s with heap := h, toks := tk, gens := gs })
    (done : ∀ m₁ nx h tk gs, J outs.length m₁ nx → AllBare gs → Fr h₀ env.locals h m₁ → News h₀ env.locals h nx → Q .next { s with heap := h, toks := tk, gens := gs })
    (hE : PassesOwn (model prog w) A env E := by passes_own) :
    codeAny (model prog w) A (.forLoop (.Tuple [.Name xi pi, .Name xv pv] x1 pt) (.ref a) body [] env) (fun r s' => match r with | .ok f => Q f s' | .error e => cameBackBy (model prog w) A env E e s') s := by
  have hownO : ∀ b ∈ own, h₀.get? b = none := fun b hb => hown0 b (List.mem_cons_of_mem _ hb)
  refine codeAny_forLoop_any (fun k s' => ∃ j h tk gs m₁ nx, s' = { s with heap := h, toks := tk, gens := gs } ∧ k = outs.length - j ∧ j ≤ outs.length ∧ GAt prog w A h₀ a g own outs start j s' ∧ (j = 0 → h.objs.size = start) ∧
      Fr h₀ env.locals h m₁ ∧ News h₀ env.locals h nx ∧ J j m₁ nx ∧ nx.map (·.1) = news.map (·.1) ∧ AllBare gs) ?_ outs.length ⟨0, s.heap, s.toks, s.gens, m₀, news, rfl, rfl, Nat.zero_le _, hst, fun _ => hsz, F, N, hj, rfl, hb⟩
  rintro k s' ⟨j, h, tk, gs, m₁, nx, rfl, rfl, hjl, hst1, hsz1, F1, N1, hJ, hadr, hb1⟩
  have hnx : ∀ p ∈ nx, p.1 ∉ a :: own := by
    intro p hp
    have h1 : p.1 ∈ nx.map (·.1) := List.mem_map_of_mem hp
    rw [hadr] at h1
    obtain ⟨q, hq, e⟩ := List.mem_map.mp h1
    rw [← e]; exact hn q hq
  refine gat_next hh hroom hlim hownO ha hst1 hsz1 F1.keep hjl ?_ ?_
  · rintro T p s2 hpj ⟨t1, t2, hT⟩ hTo hTn ⟨h2, tk2, gs2, rfl, hb2, hk2⟩ hst2
    have hb2' := hb2 hb1
    refine go_gen hst2.1 ?_
    have hLo : env.locals ∉ own := fun hm => hL (List.mem_cons_of_mem _ hm)
    have hn2 : h2.Ns env.locals m₁ := F1.ns.at' fun o e => hk2 _ _ hLo e
    refine assign_pair hh hxi hxv hp (T := T) (v1 := .int (p.1 : Int) t1) (v2 := .str (S p.2) t2) ⟨_, hT, rfl, _, rfl⟩ hn2 ?_
    intro h3 tk3 hn3 hk3
    have hLmem : ∀ b ∈ a :: own, b ≠ env.locals := fun b hb e => hL (e ▸ hb)
    have F3 : Fr h₀ env.locals h3 _ := ⟨hn3, fun b o e => hk3 b o (fun q => by rw [q] at e; exact absurd (Nat.lt_of_lt_of_le (Heap.lt_size e) F1.above) (Nat.lt_irrefl _)) (hk2 b o (fun hm => by rw [hownO b hm] at e; cases e) (F1.keep b o e)), F1.above⟩
    have N3 : News h₀ env.locals h3 (nx ++ Alive h3 (a :: own)) := by
      intro q hq
      rcases List.mem_append.mp hq with hq | hq
      · obtain ⟨g1, g2, g3⟩ := N1 q hq
        exact ⟨hk3 _ _ g2 (hk2 _ _ (fun hm => hnx q hq (List.mem_cons_of_mem _ hm)) g1), g2, g3⟩
      · obtain ⟨g1, g2⟩ := mem_alive.mp hq
        exact ⟨g2, hLmem _ g1, hown0 _ g1⟩
    have hst3 : GAt prog w A h₀ a g own outs start (j + 1) { s with heap := h3, toks := tk3, gens := gs2 } :=
      GAt.frame (s := { s with heap := h2, toks := tk2, gens := gs2 }) hst2 (fun b hb o e => hk3 b o (hLmem b hb) e) (hlim.keeps F3.keep)
    have hoff : OwnOff (Alive h3 (a :: own)) (news.map (·.1)) := by
      intro q hq b hb e
      obtain ⟨g1, _⟩ := mem_alive.mp hq
      rw [← hadr] at hb
      obtain ⟨r, hr, rfl⟩ := List.mem_map.mp hb
      exact hnx r hr (e ▸ g1)
    refine wpAny_passesOwn hE (wpAny_mono (turn j p t1 t2 m₁ nx h3 tk3 gs2 _ hpj hadr hoff hJ hb2' F3 N3) (fun f s4 hf => ?_) fun _ _ e => e)
    have fin : InvEndN h₀ env.locals (J (j + 1)) (Alive h3 (a :: own)) (news.map (·.1)) { s with heap := h3, toks := tk3, gens := gs2 } s4 → ∃ m, m < outs.length - j ∧ ∃ j' h tk gs m₁ nx, s4 = { s with heap := h, toks := tk, gens := gs } ∧ m = outs.length - j' ∧ j' ≤ outs.length ∧ GAt prog w A h₀ a g own outs start j' s4 ∧ (j' = 0 → h.objs.size = start) ∧
      Fr h₀ env.locals h m₁ ∧ News h₀ env.locals h nx ∧ J j' m₁ nx ∧ nx.map (·.1) = news.map (·.1) ∧ AllBare gs := by
      rintro ⟨h5, tk5, m5, news5, nx5, rfl, F5, N5, hn5, ho5, ha5, hJ5⟩
      have hlt : j < outs.length := (List.getElem?_eq_some_iff.mp hpj).1
      refine ⟨outs.length - (j + 1), by omega, j + 1, h5, tk5, gs2, m5, nx5, rfl, rfl, hlt, ?_, fun e => absurd e (Nat.succ_ne_zero j), F5, fun q hq => N5 q (hn5 q hq), hJ5, ha5, hb2'⟩
      exact GAt.frame (s := { s with heap := h3, toks := tk3, gens := gs2 }) hst3 (fun b hb o e => (N5 (b, o) (ho5 (b, o) (mem_alive.mpr ⟨hb, e⟩))).1) (hlim.keeps F5.keep)
    cases f with
    | ret v => exact hf
    | brk => exact hf
    | next => exact fin hf
    | cont => exact fin hf
  · rintro s2 rfl ⟨h2, tk2, gs2, rfl, hb2, hk2⟩
    have hLo : env.locals ∉ own := fun hm => hL (List.mem_cons_of_mem _ hm)
    refine wpAny_execs_nil (done m₁ nx h2 tk2 gs2 hJ (hb2 hb1) ⟨F1.ns.at' fun o e => hk2 _ _ hLo e, fun b o e => hk2 b o (fun hm => by rw [hownO b hm] at e; cases e) (F1.keep b o e), F1.above⟩ fun q hq => ?_)
    obtain ⟨g1, g2, g3⟩ := N1 q hq
    exact ⟨hk2 _ _ (fun hm => hnx q hq (List.mem_cons_of_mem _ hm)) g1, g2, g3⟩
end

theorem kst_fr2 {h₀ : Heap} {L : Addr} {h : Heap} {x xv : Str} {ps : List (Str × Value)} {stored : List Str} {m₀ m₁ : Str → Option Value} {v1 v2 : Value} (h1 : ∀ p ∈ ps, m₁ p.1 = some p.2) (h2 : ∀ z, z ≠ x → (∀ p ∈ ps, z ≠ p.1) → stored.contains z = false → m₁ z = m₀ z)
    (F : Fr h₀ L h (fun y => if y = xv then some v2 else if y = x then some v1 else m₁ y)) : Fr h₀ L h (fun y => if y = xv then some v2 else if y = x then some v1 else kstB (fun z => if stored.contains z then m₁ z else m₀ z) ps y) := by
  have em : (fun y => if y = xv then some v2 else if y = x then some v1 else kstB (fun z => if stored.contains z then m₁ z else m₀ z) ps y) = fun y => if y = xv then some v2 else if y = x then some v1 else m₁ y := by
    funext y
    by_cases hv : y = xv
    · rw [if_pos hv, if_pos hv]
    · rw [if_neg hv, if_neg hv]
      by_cases hy : y = x
      · rw [if_pos hy, if_pos hy]
      · rw [if_neg hy, if_neg hy]
        exact kst_off h1 h2 hy
  rw [em]; exact F

section
variable {prog : Program} {w : World} {A : Around} {E : Value → Shared → Prop} {s : Shared} {h₀ : Heap} {a : Addr} {g : Nat} {own : List Addr} {outs : List (Nat × List Nat)} {start : Nat}
theorem kst_gen {σ : Type} {env : Env} {xi xv : Str} {pi pv pt : Pos} {x1 : Nat} {body : List Stmt} {m₀ : Str → Option Value} {Q : Flow → Shared → Prop}
    (Led : σ → List (Addr × Obj)) (ps : σ → List (Str × Value)) (Facts : σ → Prop) (stored : List Str) (P : Nat → σ → Prop) (c₀ : σ)
    (hh : A.handled = none) (hroom : A.depth < recursionLimit) (hlim : h₀.NoLimit) (hown0 : ∀ b ∈ a :: own, h₀.get? b = none) (ha : a ∉ own) (hL : env.locals ∉ a :: own)
    (hxi : env.kindOf xi = some .local) (hxv : env.kindOf xv = some .local) (hp : (env.scope.kind == .class || (env.scope.kind == .module && env.locals != env.globals)) = false)
    (hst : GAt prog w A h₀ a g own outs start 0 s) (hsz : s.heap.objs.size = start) (hb : AllBare s.gens) (F : Fr h₀ env.locals s.heap m₀) (N : News h₀ env.locals s.heap (Led c₀)) (hn : ∀ p ∈ Led c₀, p.1 ∉ a :: own)
    (hf : Facts c₀) (hk : ∀ p ∈ ps c₀, m₀ p.1 = some p.2) (hp0 : P 0 c₀)
    (turn : ∀ (c : σ) j p t1 t2 (u : Str → Option Value) h tk gs own9, outs[j]? = some p → OwnOff own9 ((Led c₀).map (·.1)) → AllBare gs → Facts c → P j c →
      Fr h₀ env.locals h (fun y => if y = xv then some (.str (S p.2) t2) else if y = xi then some (.int (p.1 : Int) t1) else kstB (fun z => if stored.contains z then u z else m₀ z) (ps c) y) → News h₀ env.locals h (Led c ++ own9) →
      wpAny (model prog w) A (execs body env) (InvPostN h₀ env.locals (KstS Led ps Facts xi stored m₀ (fun pre c => P pre.length c) (rangeKs 0 (j + 1))) own9 ((Led c₀).map (·.1)) { s with heap := h, toks := tk, gens := gs } Q) E { s with heap := h, toks := tk, gens := gs })
    (done : ∀ (c : σ) (u : Str → Option Value) h tk gs, AllBare gs → Facts c → P outs.length c → Fr h₀ env.locals h (fun y => if y = xi then u y else kstB (fun z => if stored.contains z then u z else m₀ z) (ps c) y) → News h₀ env.locals h (Led c) → Q .next { s with heap := h, toks := tk, gens := gs })
    (hE : PassesOwn (model prog w) A env E := by passes_own) :
    codeAny (model prog w) A (.forLoop (.Tuple [.Name xi pi, .Name xv pv] x1 pt) (.ref a) body [] env) (fun r s' => match r with | .ok f => Q f s' | .error e => cameBackBy (model prog w) A env E e s') s := by
  refine gen_loop (m₀ := m₀) (news := Led c₀) (fun j m nx => KstS Led ps Facts xi stored m₀ (fun pre c => P pre.length c) (rangeKs 0 j) m nx) hh hroom hlim hown0 ha hL hxi hxv hp hst hsz hb F N hn
    ⟨c₀, rfl, hf, hk, fun _ _ _ _ => rfl, by simpa [rangeKs] using hp0⟩ ?_ ?_ hE
  · rintro j p t1 t2 m₁ nx h tk gs own9 hpj _ hoff ⟨c, rfl, hf', h1, h2, hp'⟩ hb' F1 N1
    simp only [rangeKs_length] at hp'
    exact turn c j p t1 t2 m₁ h tk gs own9 hpj hoff hb' hf' hp' (kst_fr2 h1 h2 F1) N1
  · rintro m₁ nx h tk gs ⟨c, rfl, hf', h1, h2, hp'⟩ hb' F1 N1
    simp only [rangeKs_length] at hp'
    exact done c m₁ h tk gs hb' hf' hp' (kst_frOut h1 h2 F1) N1
end
end

section
theorem glued_S (ls : List (List Nat)) : Builtin.Str.glued (S []) (ls.map S) = S ls.flatten := by
  unfold Builtin.Str.glued
  apply Str.ext'
  have aux : ∀ (r : List (List Nat)) (acc : Array Nat), (r.map S).foldl (fun acc p => acc ++ (S []).cps ++ p.cps) acc = acc ++ r.flatten.toArray := by
    intro r
    induction r with
    | nil => intro acc; simp
    | cons a r ih => intro acc; rw [List.map_cons, List.foldl_cons, ih]; simp [S]
  cases ls with
  | nil => rfl
  | cons a r =>
    show ((List.map S (a :: r)).drop 1).foldl _ _ = _
    rw [List.map_cons, List.drop_one, List.tail_cons, aux]
    simp [S]
noncomputable def av (p : Int × Tok) : Value := .int p.1 p.2
section
variable {prog : Program} {w : World} {A : Around} {E : Value → Shared → Prop} {s : Shared} {h₀ : Heap} {L l D : Addr} {m : Str → Option Value} {news news' : List (Addr × Obj)} {X Y : Str} {x y : List Nat} {t u tx ty : Tok} {Q : Value → Shared → Prop} {n : Nat}
theorem notInS {c : Nat} (hx : X = S x) (hy : Y = S [c]) (h : Q (.bool (!decide (c ∈ x))) s) : wpAny (model prog w) A (compareOp .NotIn (.str Y u) (.str X t)) Q E s := by
  subst hx hy
  refine P.notIn_str ?_
  have e := StrLaws.found_one (S x) c
  rw [S_list] at e
  have e2 : ({ cps := #[c] } : Str) = S [c] := rfl
  rw [e2] at e
  rw [e]; exact h
theorem appendS {xs : List (List Nat × Tok)} (F : Fr h₀ L s.heap m) (N : News h₀ L s.heap news) (U : Upd D (listOf (xs.map sv).toArray n) (listOf ((xs ++ [(x, t)]).map sv).toArray (n + 1)) news news') (hz : xs.length ≤ 100000)
    (h : ∀ h', Fr h₀ L h' m → News h₀ L h' news' → Q .none { s with heap := h' }) : wpAny (model prog w) A (call (.builtin "list.append") [.ref D, .str (S x) t]) Q E s := by
  refine append_K F N (its := (xs.map sv).toArray) (n := n) ?_ h (by simp [sizeLine_eq]; omega)
  have e : (xs.map sv).toArray.push (.str (S x) t) = ((xs ++ [(x, t)]).map sv).toArray := by simp [sv]
  rw [e]; exact U
theorem appendI {xs : List (Int × Tok)} {i : Int} (F : Fr h₀ L s.heap m) (N : News h₀ L s.heap news) (U : Upd D (listOf (xs.map av).toArray n) (listOf ((xs ++ [(i, t)]).map av).toArray (n + 1)) news news') (hz : xs.length ≤ 100000)
    (h : ∀ h', Fr h₀ L h' m → News h₀ L h' news' → Q .none { s with heap := h' }) : wpAny (model prog w) A (call (.builtin "list.append") [.ref D, .int i t]) Q E s := by
  refine append_K F N (its := (xs.map av).toArray) (n := n) ?_ h (by simp [sizeLine_eq]; omega)
  have e : (xs.map av).toArray.push (.int i t) = ((xs ++ [(i, t)]).map av).toArray := by simp [av]
  rw [e]; exact U
theorem newlistS {M : Model} {vs : List Value} (F : Fr h₀ L s.heap m) (N : News h₀ L s.heap news) (hz : vs.length ≤ 100000)
    (h : ∀ lR h', Fr h₀ L h' m → News h₀ L h' ((lR, listOf vs.toArray 0) :: news) → (∀ p ∈ news, p.1 < lR) → Q (.ref lR) { s with heap := h' }) : wpAny M A (newList vs) Q E s :=
  newList_N F N (fun h' F' N' => h _ h' F' N' fun p hp => Heap.lt_size (N p hp).1) (by rw [sizeLine_eq]; omega)
theorem joinS {xs : List (List Nat × Tok)} (N : News h₀ L s.heap news) (hm : (D, listOf (xs.map sv).toArray n) ∈ news) (hX : X = S []) (hz : (xs.map fun p => p.1.length).sum + xs.length ≤ 100000)
    (h : ∀ t' k, Q (.str (S (xs.map (·.1)).flatten) t') { s with toks := k }) : wpAny (model prog w) A (call (.builtin "str.join") [.str X t, .ref D]) Q E s := by
  subst hX
  have hl : s.heap.IsList D (strValues (xs.map fun p => (S p.1, p.2))).toArray := ⟨_, (N _ hm).1, rfl, n, by simp [strValues, sv]⟩
  refine SC.join hl rfl (joinOk_of_weight ?_ (by rw [S_len]; simp)) (fun t' k => ?_)
  · simp only [List.map_map, Function.comp_def, S_len, List.length_map]
    omega
  · have e : Txt.join (S []) (List.map (fun x => x.1) (xs.map fun p => (S p.1, p.2))) = S (xs.map (·.1)).flatten := by
      have := glued_S (xs.map (·.1))
      rw [List.map_map] at this
      rw [List.map_map]
      exact this
    rw [e]; exact h t' k
end

/-- what a call of f with vs gives: R, every object of the caller's as it was, generators made and left -/
abbrev GivesG (w : World) (mean : ExcName → Option Value) (mg mb : Str → Option Value) (f : Addr) (d u : Nat) (pre : List (Addr × Obj) → Prop) (vs : List Value) (R : Tok → Value) : Prop :=
  ∀ (dp un : Nat) (gd : Option (List Code)) (cn : Str) (cs : Scope) (a : Addr) (ccd : Value) (cl : List (Str × Addr)) (outer : List Env) (A₀ : Around) (base h₀ : Heap) (L : Addr) (m : Str → Option Value) (news : List (Addr × Obj)) (s : Shared) (Q E : Value → Shared → Prop),
    Below A₀ base outer h₀ → Fr h₀ L s.heap m → (hd.heap_39 w.params).In h₀ → News h₀ L s.heap news →
    Top hd.view_39 (looseW hd.view_39 [Str.ofString "insort_right", Str.ofString "bisect_right", Str.ofString "bisect_left"]) mean mg mb h₀ →
    cs.kind = .function → pre news → dp + d < recursionLimit → un + u < cLine → AllBare s.gens →
    (∀ (t : Tok) (h' : Heap) (tk' : Nat) (gs : Array GenState), AllBare gs → Fr h₀ L h' m → News h₀ L h' news → Q (R t) { s with heap := h', toks := tk', gens := gs }) →
    wpAny (model PySem.Challenge.rw_rw0075_01.row.prog w) (ktrTop dp un gd cn cs L a ccd cl outer) (call (.ref f) vs) Q E s
theorem use_givesG {w : World} {mean : ExcName → Option Value} {mg mb : Str → Option Value} {f : Addr} {d u : Nat} {pre : List (Addr × Obj) → Prop} {vs : List Value} {R : Tok → Value}
    (G : GivesG w mean mg mb f d u pre vs R) {dp un : Nat} {gd : Option (List Code)} {cn : Str} {cs : Scope} {a : Addr} {ccd : Value} {cl : List (Str × Addr)} {outer : List Env} {A₀ : Around} {base h₀ : Heap} {L : Addr} {m : Str → Option Value} {news : List (Addr × Obj)} {s : Shared} {Q E : Value → Shared → Prop}
    (B : Below A₀ base outer h₀) (F : Fr h₀ L s.heap m) (X : (hd.heap_39 w.params).In h₀) (N : News h₀ L s.heap news)
    (T : Top hd.view_39 (looseW hd.view_39 [Str.ofString "insort_right", Str.ofString "bisect_right", Str.ofString "bisect_left"]) mean mg mb h₀)
    (hk : cs.kind = .function) (hp : pre news) (hd : dp + d < recursionLimit) (hu : un + u < cLine) (hb : AllBare s.gens)
    (ret : ∀ (t : Tok) (h' : Heap) (tk' : Nat) (gs : Array GenState), AllBare gs → Fr h₀ L h' m → News h₀ L h' news → Q (R t) { s with heap := h', toks := tk', gens := gs }) :
    wpAny (model PySem.Challenge.rw_rw0075_01.row.prog w) (ktrTop dp un gd cn cs L a ccd cl outer) (call (.ref f) vs) Q E s := G _ _ _ _ _ _ _ _ _ _ _ _ _ _ _ _ _ _ B F X N T hk hp hd hu hb ret

section
variable {prog : Program} {w : World} {A : Around} {E : Value → Shared → Prop} {s : Shared} {env : Env} {h₀ : Heap} {L : Addr} {news : List (Addr × Obj)}
noncomputable def W1End (s : Shared) (h₀ : Heap) (L : Addr) (m₀ : Str → Option Value) (x : Str) (news : List (Addr × Obj)) (P : Int → Prop) (s₂ : Shared) : Prop :=
  ∃ i t h tk, s₂ = { s with heap := h, toks := tk } ∧ P i ∧ Fr h₀ L h (fun z => if z = x then some (.int i t) else m₀ z) ∧ News h₀ L h news
noncomputable def W1Post (s : Shared) (h₀ : Heap) (L : Addr) (m₀ : Str → Option Value) (x : Str) (news : List (Addr × Obj)) (P : Int → Prop) (f : Flow) (s₂ : Shared) : Prop :=
  match f with
  | .next => W1End s h₀ L m₀ x news P s₂
  | _ => False
theorem w1_end {m₀ m₁ : Str → Option Value} {x : Str} {P : Int → Prop} {i : Int} {t : Tok} {h : Heap} {tk : Nat} (F : Fr h₀ L h (fun z => if z = x then some (.int i t) else m₁ z)) (hm : ∀ z, z ≠ x → m₁ z = m₀ z) (N : News h₀ L h news) (hP : P i) : W1End s h₀ L m₀ x news P { s with heap := h, toks := tk } := by
  refine ⟨i, t, h, tk, rfl, hP, ?_, N⟩
  have e : (fun z => if z = x then some (Value.int i t) else m₀ z) = fun z => if z = x then some (.int i t) else m₁ z := by
    funext z
    by_cases hz : z = x
    · rw [if_pos hz, if_pos hz]
    · rw [if_neg hz, if_neg hz, hm z hz]
  rw [e]; exact F
/-- a while that turns one int -/
theorem while1 {test : Expr} {body : List Stmt} {pos : Pos} {x : Str} {P D : Int → Prop} {μ : Int → Nat} {i₀ : Int} {t₀ : Tok} {m₀ : Str → Option Value} {Q : Flow → Shared → Prop} (F : Fr h₀ L s.heap m₀) (N : News h₀ L s.heap news) (hx : m₀ x = some (.int i₀ t₀)) (hp : P i₀)
    (turn : ∀ i t h tk, P i → Fr h₀ L h (fun z => if z = x then some (.int i t) else m₀ z) → News h₀ L h news →
      wpAny (model prog w) A (isTrue test env (eval test env)) (fun b s₂ =>
        if b = true then wpAny (model prog w) A (execs body env) (W1Post s h₀ L m₀ x news (fun i' => P i' ∧ μ i' < μ i)) E s₂ else W1End s h₀ L m₀ x news D s₂) E { s with heap := h, toks := tk })
    (done : ∀ i t h tk, D i → Fr h₀ L h (fun z => if z = x then some (.int i t) else m₀ z) → News h₀ L h news → Q .next { s with heap := h, toks := tk })
    (hE : PassesOwn (model prog w) A env E := by passes_own) :
    wpAny (model prog w) A (exec (.While test body [] pos) env) Q E s := by
  have hmap : ∀ (u : Str → Option Value) (i : Int) (t : Tok), kstB (fun z => if ([] : List Str).contains z then u z else m₀ z) [(x, .int i t)] = fun z => if z = x then some (.int i t) else m₀ z := by
    intro u i t
    funext z
    simp [kstB]
  refine wpAny_mono (ksw_while (Q := fun f s₂ => f = .next ∧ W1End s h₀ L m₀ x news D s₂) (fun _ : Int × Tok => news) (fun c => [(x, .int c.1 c.2)]) (fun _ => True) [] (fun c => P c.1) (fun c => μ c.1) (i₀, t₀) F N trivial (by simpa using hx) hp ?_ (by
      intro e s' he
      exact hE e s' he)) (fun f s₂ hf => ?_) fun _ _ e => e
  · intro c u h tk _ hP F1 N1
    rw [hmap] at F1
    refine wpAny_mono (turn c.1 c.2 h tk hP F1 N1) (fun b s₂ hb => ?_) fun _ _ e => e
    cases b with
    | false =>
      rw [if_neg (by decide)] at hb
      rw [if_neg (by decide)]
      exact ⟨rfl, hb⟩
    | true =>
      rw [if_pos rfl] at hb
      rw [if_pos rfl]
      refine wpAny_mono hb (fun f s₃ hf => ?_) fun _ _ e => e
      cases f with
      | next =>
        obtain ⟨i, t, h', tk', rfl, ⟨hP', hm'⟩, F2, N2⟩ := hf
        refine ksw_end (i, t) F2 N2 (fun p hp => hp) trivial (by simp) ?_ hP' hm'
        intro z hz _
        simp only [List.forall_mem_cons, List.not_mem_nil, false_implies, implies_true, and_true, ne_eq] at hz
        simp [hz]
      | cont => exact hf.elim
      | brk => exact hf.elim
      | ret v => exact hf.elim
  · obtain ⟨rfl, i, t, h, tk, rfl, hD, F1, N1⟩ := hf
    exact done i t h tk hD F1 N1
end
end

section
/-- one turn of _law_row's loop: the number left, the row, how many are opened -/
noncomputable def rowStep (p : Nat) (c : Int × List Nat × Nat) (k : Nat) : Int × List Nat × Nat :=
  (Int.fdiv c.1 ((p + 1 - max c.2.2 k : Nat) : Int), c.2.1 ++ (List.replicate (max c.2.2 k + (Int.fmod c.1 ((p + 1 - max c.2.2 k : Nat) : Int)).toNat - c.2.2) 40 ++ [41]), max c.2.2 k + (Int.fmod c.1 ((p + 1 - max c.2.2 k : Nat) : Int)).toNat)
noncomputable def rowFold (p : Nat) (n : Int) (k : Nat) : Int × List Nat × Nat := (List.range k).foldl (fun c i => rowStep p c (i + 1)) (n, [], 0)
theorem rowFold_succ (p : Nat) (n : Int) (k : Nat) : rowFold p n (k + 1) = rowStep p (rowFold p n k) (k + 1) := by
  unfold rowFold; rw [List.range_succ, List.foldl_append]; rfl
noncomputable def rowOf (n : Int) (p : Nat) : List Nat := (rowFold p n p).2.1

theorem rowFold_le (p : Nat) (n : Int) : ∀ k, k ≤ p → (rowFold p n k).2.2 ≤ p ∧ (rowFold p n k).2.1.length = (rowFold p n k).2.2 + k := by
  intro k
  induction k with
  | zero => intro _; simp [rowFold]
  | succ k ih =>
    intro hk
    obtain ⟨h1, h2⟩ := ih (by omega)
    rw [rowFold_succ]
    generalize rowFold p n k = c at h1 h2
    have hm := Int.fmod_lt_of_pos c.1 (b := ((p + 1 - max c.2.2 (k + 1) : Nat) : Int)) (by omega)
    have hn := Int.fmod_nonneg_of_pos c.1 (b := ((p + 1 - max c.2.2 (k + 1) : Nat) : Int)) (by omega)
    simp only [rowStep, List.length_append, List.length_replicate, List.length_cons, List.length_nil]
    have hM1 : c.2.2 ≤ max c.2.2 (k + 1) := Nat.le_max_left ..
    have hM2 : max c.2.2 (k + 1) ≤ p := Nat.max_le.mpr ⟨h1, hk⟩
    generalize max c.2.2 (k + 1) = M at *
    generalize c.1.fmod ((p + 1 - M : Nat) : Int) = r at *
    clear ih
    omega
theorem row_gives (w : World) (mean mg mb) (n : Int) (tn : Tok) (p : Nat) (tp : Tok) (hp : p ≤ 8) :
    Gives w mean mg mb 83 1 20 (fun _ => True) [.int n tn, .int (p : Int) tp] (fun t => .str (S (rowOf n p)) t) := by
  unfold Gives
  k_fill
  intro dp un gd cn cs a ccd cl outer A₀ base h₀ L m news s Q E B F X N T hk hpre hdp hu hret
  refine wpAny_call ?_
  refine' code_def (binds := [(Str.ofString "number", .int n tn), (Str.ofString "pairs", .int (p : Int) tp)]) B F X N T rfl rfl hk ?k6 ?k7 ?k8 ?k9 ?kB ?_ ?c2 ?c3 ?c4 ?c5
  (case k6 => k_is)
  (case k7 => k_is)
  (case k8 => ktr_room)
  (case k9 => (refine' kp_binds ?kx ?ke; (case kx => k_in); (case ke => exact fun _ => rfl)))
  (case c5 => decide)
  (case kB => exact locs rfl)
  (case c2 => exact rfl)
  (case c3 => exact rfl)
  (case c4 => exact rfl)
  intro g' L' h' FG' F' N' B' X' T'
  (try dsimp only)
  (try k_lift B')
  (try k_fold)
  k_with_none
  k_with "mine lit" => (first | (with_reducible exact rfl) | exact lit_e | exact lit_o | exact lit_c | exact lit_b | exact lit_q | exact lit_zy | exact lit_Zx)
  k_with "mine size" => (first | omega | (simp only [List.length_append, List.length_cons, List.length_nil, List.length_replicate, List.length_take, List.length_drop]; omega))
  k_with "binaryOp Add str str" => (k_here; (with_reducible show wpAny _ _ (binaryOp Operator.Add (Value.str _ _) (Value.str _ _)) _ _ _); k_dflt (refine' addS ?zzhx ?zzhy ?zzhz ?_; (case zzhx => walk_at "mine lit"); (case zzhy => walk_at "mine lit"); (case zzhz => walk_at "mine size")); intro _ _)
  k_with "inplaceOp Add str str" => (k_here; (with_reducible show wpAny _ _ (inplaceOp Operator.Add (Value.str _ _) (Value.str _ _)) _ _ _); k_dflt (refine' iaddS ?zzhx ?zzhy ?zzhz ?_; (case zzhx => walk_at "mine lit"); (case zzhy => walk_at "mine lit"); (case zzhz => walk_at "mine size")); intro _ _)
  k_with "binaryOp Mult str int" => (k_here; (with_reducible show wpAny _ _ (binaryOp Operator.Mult (Value.str _ _) (Value.int _ _)) _ _ _); k_dflt (refine' mulS ?zzhx ?zzh0 ?zzh1 ?_; (case zzhx => first | (with_reducible exact rfl) | exact lit_o | exact lit_c); (case zzh0 => omega); (case zzh1 => omega)); intro _ _)
  k_with "compareOp Eq str str" => (k_here; (with_reducible show wpAny _ _ (compareOp CmpOp.Eq (Value.str _ _) (Value.str _ _)) _ _ _); k_dflt (refine' eqS ?zzhx ?zzhy ?_; (case zzhx => walk_at "mine lit"); (case zzhy => walk_at "mine lit")))
  k_with "compareOp NotEq str str" => (k_here; (with_reducible show wpAny _ _ (compareOp CmpOp.NotEq (Value.str _ _) (Value.str _ _)) _ _ _); k_dflt (refine' neS ?zzhx ?zzhy ?_; (case zzhx => walk_at "mine lit"); (case zzhy => walk_at "mine lit")))
  k_with "call builtin:len" => (k_here; (with_reducible show wpAny _ _ (call (Value.builtin "len") [Value.str _ _]) _ _ _); k_dflt (refine' lenS ?zzhx ?zzhz ?_; (case zzhx => first | (with_reducible exact rfl) | exact lit_e); (case zzhz => walk_at "mine size")); intro _ _)
  k_with "truthy str" => (k_here; (with_reducible show wpAny _ _ (PySem.truthy (Value.str _ _)) _ _ _); k_dflt (refine' truthS ?zzhx ?zzhz ?_; (case zzhx => first | (with_reducible exact rfl) | exact lit_e); (case zzhz => walk_at "mine size")); intro _)
  k_with "mine body 0" => (k_here; (with_reducible show wpAny _ _ (subscriptTail _ _ (Value.str _ _) (Value.int _ _)) _ _ _); first | (k_dflt (refine' itemS ?zzhx ?zzhz ?zzh0 ?zzh1 ?_ ?zzhs ?zzht; (case zzhx => with_reducible exact rfl); (case zzhs => with_unfolding_all rfl); (case zzht => kmk_pure); (case zzhz => walk_at "mine size"); (case zzh0 => first | omega | decide); (case zzh1 => first | omega | exact drop_ne (by assumption) (by omega) | (simp only [List.length_append, List.length_cons, List.length_nil, List.length_replicate, List.length_take, List.length_drop]; omega))); intro _ _) | (k_dflt (refine' itemSn ?zzhx ?zzhz ?zzh0 ?zzh1 ?_ ?zzhs ?zzht; (case zzhx => with_reducible exact rfl); (case zzhs => with_unfolding_all rfl); (case zzht => kmk_pure); (case zzhz => walk_at "mine size"); (case zzh0 => first | omega | decide); (case zzh1 => walk_at "mine size")); intro _ _))
  k_with "subscriptTail Name Name str int" => walk_at "mine body 0"
  k_with "subscriptTail Name BinOp str int" => walk_at "mine body 0"
  k_with "subscriptTail Name Constant str int" => walk_at "mine body 0"
  k_with "subscriptTail" => walk_at "mine body 0"
  k_with "mine body 1" => (k_here; (with_reducible show wpAny _ _ (subscriptTail _ (PySem.Expr.Slice _ _ none _) (Value.str _ _) (Value.ref _)) _ _ _); first | (k_dflt (refine' sliceS_run ?zzF ?zzN ?zzhx ?zzhz ?zzh0 ?zzh1 ?_ ?zzhs ?zzht; (case zzF => k_asm); (case zzN => k_asm); (case zzhx => with_reducible exact rfl); (case zzhs => with_unfolding_all rfl); (case zzht => kmk_pure); (case zzhz => walk_at "mine size"); (case zzh0 => omega); (case zzh1 => omega)); intro _ _ _ _ _) | (k_dflt (refine' sliceS_from ?zzF ?zzN ?zzhx ?zzhz ?zzh0 ?_ ?zzhs ?zzht; (case zzF => k_asm); (case zzN => k_asm); (case zzhx => with_reducible exact rfl); (case zzhs => with_unfolding_all rfl); (case zzht => kmk_pure); (case zzhz => walk_at "mine size"); (case zzh0 => omega)); intro _ _ _ _ _) | (k_dflt (refine' sliceS_to ?zzF ?zzN ?zzhx ?zzhz ?zzh0 ?_ ?zzhs ?zzht; (case zzF => k_asm); (case zzN => k_asm); (case zzhx => with_reducible exact rfl); (case zzhs => with_unfolding_all rfl); (case zzht => kmk_pure); (case zzhz => walk_at "mine size"); (case zzh0 => omega)); intro _ _ _ _ _) | (k_dflt (refine' sliceS_nn ?zzF ?zzN ?zzhx ?zzhz ?_ ?zzhs ?zzht; (case zzF => k_asm); (case zzN => k_asm); (case zzhx => with_reducible exact rfl); (case zzhs => with_unfolding_all rfl); (case zzht => kmk_pure); (case zzhz => walk_at "mine size")); intro _ _ _ _ _) | (k_dflt (refine' sliceS_toNeg ?zzF ?zzN ?zzhx ?zzhz ?zzh0 ?_ ?zzhs ?zzht; (case zzF => k_asm); (case zzN => k_asm); (case zzhx => with_reducible exact rfl); (case zzhs => with_unfolding_all rfl); (case zzht => kmk_pure); (case zzhz => walk_at "mine size"); (case zzh0 => omega)); intro _ _ _ _ _) | (k_dflt (refine' sliceS_fromNeg ?zzF ?zzN ?zzhx ?zzhz ?zzh0 ?_ ?zzhs ?zzht; (case zzF => k_asm); (case zzN => k_asm); (case zzhx => with_reducible exact rfl); (case zzhs => with_unfolding_all rfl); (case zzht => kmk_pure); (case zzhz => walk_at "mine size"); (case zzh0 => omega)); intro _ _ _ _ _))
  k_with "subscriptTail Name Slice str ref" => walk_at "mine body 1"
  k_with "subscriptTail" => walk_at "mine body 1"
  k_with "compareOp NotIn str str" => (k_here; (with_reducible show wpAny _ _ (compareOp CmpOp.NotIn (Value.str _ _) (Value.str _ _)) _ _ _); k_dflt (refine' notInS ?zzhx ?zzhy ?_; (case zzhx => with_reducible exact rfl); (case zzhy => first | exact lit_q | exact lit_b)))
  k_with "exec For Tuple Call cons nil" => (k_extra "mine for"; walk_say "MINE for")
  k_with "pyIter ref" => (k_extra "mine iter"; walk_say "MINE iter")
  k_with "call ref" => (k_extra "mine call"; walk_say "MINE call")
  k_with "call builtin:list.append" => (k_extra "mine append"; walk_say "MINE append")
  k_with "call builtin:str.join" => (k_extra "mine join"; walk_say "MINE join")
  k_with "InvEndN" => (refine Hold.out ?_; walk_say "MINE end")
  k_with "pyIter ref" => (k_extra "mine iter"; walk_say "MINE iter")
  k_with "pyIter ref" => fail "none"
  k_with "mine iter" => refine Hold.out ?_
  k_steps
  refine Hold.mk ?_
  k_here
  rename Fr _ _ _ _ => lF
  rename News _ _ _ _ => lN
  rename IsRange _ _ _ _ _ _ _ _ => rgX
  with_unfolding_all refine' kst_range (n := p) (fun _ => news) (fun c : (Int × Tok) × (List Nat × Tok) × (Int × Tok) => [(Str.ofString "number", .int c.1.1 c.1.2), (Str.ofString "row", .str (S c.2.1.1) c.2.1.2), (Str.ofString "opened", .int c.2.2.1 c.2.2.2)]) (fun _ => True) [Str.ofString "least", Str.ofString "ahead"] (fun pre c => c.1.1 = (rowFold p n pre.length).1 ∧ c.2.1.1 = (rowFold p n pre.length).2.1 ∧ c.2.2.1 = ((rowFold p n pre.length).2.2 : Int)) ((n, _), ([], _), (0, _)) (by rfl) rgX ?ks ?kr lF ?kn trivial ?kk ?kp ?_ ?_
  (case kn => (with_unfolding_all exact lN))
  (case kk => kst_all)
  (case kp => exact ⟨rfl, rfl, rfl⟩)
  (case ks => exact small_one (by omega) (by omega) (by omega) (by omega))
  (case kr => exact (rangeSize_nat _ _).trans (by omega))
  · clear lF lN
    intro ⟨⟨nu, tnu⟩, ⟨ro, tro⟩, ⟨op', top⟩⟩ pre k t9 u9 h9 tk9 own hk9 hlt hoff _ hInv F9 N9
    dsimp only at hInv F9
    obtain ⟨hop, hle⟩ := rowFold_le p n pre.length (by omega)
    have hsucc := rowFold_succ p n pre.length
    generalize rowFold p n pre.length = c0 at hInv hop hle hsucc
    obtain ⟨c1, c2, op⟩ := c0
    dsimp only at hInv hop hle hsucc
    obtain ⟨e1, e2, e3⟩ := hInv
    subst e1 e2 e3 hk9
    have hite : (if 1 + (pre.length : Int) > (op : Int) then 1 + (pre.length : Int) else (op : Int)) = ((max op (pre.length + 1) : Nat) : Int) := by split <;> omega
    have hdiv : (p : Int) + 1 - (if 1 + (pre.length : Int) > (op : Int) then 1 + (pre.length : Int) else (op : Int)) = ((p + 1 - max op (pre.length + 1) : Nat) : Int) := by rw [hite]; omega
    have hm0 := Int.fmod_nonneg_of_pos nu (b := (p : Int) + 1 - (if 1 + (pre.length : Int) > (op : Int) then 1 + (pre.length : Int) else (op : Int))) (by rw [hdiv]; omega)
    have hm1 := Int.fmod_lt_of_pos nu (b := (p : Int) + 1 - (if 1 + (pre.length : Int) > (op : Int) then 1 + (pre.length : Int) else (op : Int))) (by rw [hdiv]; omega)
    try k_fold
    k_steps
    rename News _ _ _ _ => nE
    refine kst_end ((_, _), (_, _), (_, _)) (by assumption) nE (by first | kst_in | kst_inAny) (by first | (intro p hp; kst_mem) | kst_anyIn) (by rfl) trivial (by kst_all) (by intro z h1 h2 h3; simp only [List.forall_mem_cons, List.not_mem_nil, false_implies, implies_true, and_true, ne_eq] at h2; simp only [List.contains_cons, List.contains_nil, Bool.or_false, Bool.or_eq_false_iff, beq_eq_false_iff_ne, ne_eq] at h3; simp [kstB, h1, h2, h3]) ?_
    have hl : (pre ++ [(1 : Int) + (pre.length : Int)]).length = pre.length + 1 := by simp
    rw [hl, hsucc]
    simp only [rowStep]
    rw [hdiv, hite] at *
    refine ⟨rfl, ?_, ?_⟩
    · congr 4; omega
    · omega
  · clear lF lN
    intro ⟨⟨nu, tnu⟩, ⟨ro, tro⟩, ⟨op, top⟩⟩ u9 h9 tk9 _ hInv F9 N9
    dsimp only at hInv F9
    rw [rangeKs_length] at hInv
    obtain ⟨e1, e2, e3⟩ := hInv
    subst e1 e2 e3
    try k_fold
    k_steps
    exact hret _ _ _ (by assumption) (by assumption)
end

section
theorem iter_gives (w : World) (mean mg mb) (x : List Nat) (tx : Tok) : ∀
    (dp un : Nat) (gd : Option (List Code)) (cn : Str) (cs : Scope) (a : Addr) (ccd : Value) (cl : List (Str × Addr)) (outer : List Env) (A₀ : Around) (base h₀ : Heap) (L : Addr) (m : Str → Option Value) (news : List (Addr × Obj)) (s : Shared) (Q E : Value → Shared → Prop),
    Below A₀ base outer h₀ → Fr h₀ L s.heap m → (hd.heap_39 w.params).In h₀ → News h₀ L s.heap news →
    Top hd.view_39 (looseW hd.view_39 [Str.ofString "insort_right", Str.ofString "bisect_right", Str.ofString "bisect_left"]) mean mg mb h₀ →
    cs.kind = .function → dp + 3 < recursionLimit → un + 120 < cLine →
    (∀ (C : Addr) (h' : Heap) (tk : Nat) (gs : GenState), C = s.heap.objs.size → Fr h₀ L h' m → News h₀ L h' news → gs.bare = true →
      (∀ b o, s.heap.get? b = some o → h'.get? b = some o) → h'.objs.size = C + 2 →
      (∀ (dp' : Nat) (fr' : Option (List Env)) (gd' : Option (List Code)) (un' : Nat), GAt PySem.Challenge.rw_rw0075_01.row.prog w ⟨none, dp', fr', gd', un'⟩ h₀ (C + 1) s.gens.size [C, C + 3, C + 2] (itOut x) (C + 2) 0 { s with heap := h', toks := tk, gens := s.gens.push gs }) →
      Q (.ref (C + 1)) { s with heap := h', toks := tk, gens := s.gens.push gs }) →
    wpAny (model PySem.Challenge.rw_rw0075_01.row.prog w) (ktrTop dp un gd cn cs L a ccd cl outer) (call (.ref 21) [.str (S x) tx]) Q E s := by
  k_fill
  intro dp un gd cn cs a ccd cl outer A₀ base h₀ L m news s Q E B F X N T hk hdp hu ret
  refine' gen_def (binds := [(Str.ofString "addr", .str (S x) tx)]) F X T ?k6 ?k7 ?k8 ?k9 ?kB ?c2 ?c3 ?c4 ?c5 ?_
  (case k6 => k_is)
  (case k7 => k_is)
  (case k8 => ktr_room)
  (case k9 => (refine' kp_binds ?kx ?ke; (case kx => k_in); (case ke => exact fun _ => rfl)))
  (case kB => exact locs rfl)
  (case c2 => exact rfl)
  (case c3 => exact rfl)
  (case c4 => exact rfl)
  (case c5 => decide)
  intro h' tk nm qn hns hkp hz
  have hh0 : ∀ b o, h₀.get? b = some o → (h'.push { cls := .type "generator", data := .fields #[.int s.gens.size 0, nm, qn] }).get? b = some o := fun b o e => Heap.get?_push_of_some _ (hkp b o (F.keep b o e))
  have hgen : (h'.push { cls := .type "generator", data := .fields #[.int s.gens.size 0, nm, qn] }).get? (s.heap.objs.size + 1) = some { cls := .type "generator", data := .fields #[.int s.gens.size 0, nm, qn] } := by
    rw [← hz]; exact Heap.get?_push_size _ rfl
  have hkp2 : ∀ b o, s.heap.get? b = some o → (h'.push { cls := .type "generator", data := .fields #[.int s.gens.size 0, nm, qn] }).get? b = some o := fun b o e => Heap.get?_push_of_some _ (hkp b o e)
  refine ret _ _ _ _ rfl ?_ ?_ rfl hkp2 (by rw [Heap.size_push, hz]) ?_
  · exact ⟨F.ns.at' fun o e => hkp2 _ _ e, fun b o e => hkp2 b o (F.keep b o e), F.above⟩
  · exact fun p hp => ⟨hkp2 _ _ (N p hp).1, (N p hp).2⟩
  intro dp' fr' gd' un'
  refine ⟨⟨_, nm, qn, hgen, rfl, rfl, rfl⟩, (T.nolimit.keeps F.keep).keeps hkp2, _, Array.getElem?_push_size .., ?_⟩
  intro s'' hsz hk0 hown
  refine ⟨rfl, seg_func ?_⟩
  have hlC : h₀.objs.size ≤ s.heap.objs.size := Nat.le_trans F.above (Nat.le_of_lt F.ns.lt)
  have hn0 : s''.heap.Ns s.heap.objs.size (fun y => List.lookup y [(Str.ofString "addr", .str (S x) tx)].reverse) := (hns.push _).at' fun o e => hown _ (by simp) o e
  replace hsz := hsz rfl
  clear hns hkp hh0 hgen hkp2 ret hown B F N
  k_with_none
  k_with "mine lit" => (first | (with_reducible exact rfl) | exact lit_e | exact lit_o | exact lit_c | exact lit_b | exact lit_q | exact lit_zy | exact lit_Zx)
  k_with "mine size" => (first | omega | (simp only [List.length_append, List.length_cons, List.length_nil, List.length_replicate, List.length_take, List.length_drop]; omega))
  k_with "binaryOp Add str str" => (k_here; (with_reducible show wpAny _ _ (binaryOp Operator.Add (Value.str _ _) (Value.str _ _)) _ _ _); k_dflt (refine' addS ?zzhx ?zzhy ?zzhz ?_; (case zzhx => walk_at "mine lit"); (case zzhy => walk_at "mine lit"); (case zzhz => walk_at "mine size")); intro _ _)
  k_with "inplaceOp Add str str" => (k_here; (with_reducible show wpAny _ _ (inplaceOp Operator.Add (Value.str _ _) (Value.str _ _)) _ _ _); k_dflt (refine' iaddS ?zzhx ?zzhy ?zzhz ?_; (case zzhx => walk_at "mine lit"); (case zzhy => walk_at "mine lit"); (case zzhz => walk_at "mine size")); intro _ _)
  k_with "binaryOp Mult str int" => (k_here; (with_reducible show wpAny _ _ (binaryOp Operator.Mult (Value.str _ _) (Value.int _ _)) _ _ _); k_dflt (refine' mulS ?zzhx ?zzh0 ?zzh1 ?_; (case zzhx => first | (with_reducible exact rfl) | exact lit_o | exact lit_c); (case zzh0 => omega); (case zzh1 => omega)); intro _ _)
  k_with "compareOp Eq str str" => (k_here; (with_reducible show wpAny _ _ (compareOp CmpOp.Eq (Value.str _ _) (Value.str _ _)) _ _ _); k_dflt (refine' eqS ?zzhx ?zzhy ?_; (case zzhx => walk_at "mine lit"); (case zzhy => walk_at "mine lit")))
  k_with "compareOp NotEq str str" => (k_here; (with_reducible show wpAny _ _ (compareOp CmpOp.NotEq (Value.str _ _) (Value.str _ _)) _ _ _); k_dflt (refine' neS ?zzhx ?zzhy ?_; (case zzhx => walk_at "mine lit"); (case zzhy => walk_at "mine lit")))
  k_with "call builtin:len" => (k_here; (with_reducible show wpAny _ _ (call (Value.builtin "len") [Value.str _ _]) _ _ _); k_dflt (refine' lenS ?zzhx ?zzhz ?_; (case zzhx => first | (with_reducible exact rfl) | exact lit_e); (case zzhz => walk_at "mine size")); intro _ _)
  k_with "truthy str" => (k_here; (with_reducible show wpAny _ _ (PySem.truthy (Value.str _ _)) _ _ _); k_dflt (refine' truthS ?zzhx ?zzhz ?_; (case zzhx => first | (with_reducible exact rfl) | exact lit_e); (case zzhz => walk_at "mine size")); intro _)
  k_with "mine body 0" => (k_here; (with_reducible show wpAny _ _ (subscriptTail _ _ (Value.str _ _) (Value.int _ _)) _ _ _); first | (k_dflt (refine' itemS ?zzhx ?zzhz ?zzh0 ?zzh1 ?_ ?zzhs ?zzht; (case zzhx => with_reducible exact rfl); (case zzhs => with_unfolding_all rfl); (case zzht => kmk_pure); (case zzhz => walk_at "mine size"); (case zzh0 => first | omega | decide); (case zzh1 => first | omega | exact drop_ne (by assumption) (by omega) | (simp only [List.length_append, List.length_cons, List.length_nil, List.length_replicate, List.length_take, List.length_drop]; omega))); intro _ _) | (k_dflt (refine' itemSn ?zzhx ?zzhz ?zzh0 ?zzh1 ?_ ?zzhs ?zzht; (case zzhx => with_reducible exact rfl); (case zzhs => with_unfolding_all rfl); (case zzht => kmk_pure); (case zzhz => walk_at "mine size"); (case zzh0 => first | omega | decide); (case zzh1 => walk_at "mine size")); intro _ _))
  k_with "subscriptTail Name Name str int" => walk_at "mine body 0"
  k_with "subscriptTail Name BinOp str int" => walk_at "mine body 0"
  k_with "subscriptTail Name Constant str int" => walk_at "mine body 0"
  k_with "subscriptTail" => walk_at "mine body 0"
  k_with "mine body 1" => (k_here; (with_reducible show wpAny _ _ (subscriptTail _ (PySem.Expr.Slice _ _ none _) (Value.str _ _) (Value.ref _)) _ _ _); first | (k_dflt (refine' sliceS_run ?zzF ?zzN ?zzhx ?zzhz ?zzh0 ?zzh1 ?_ ?zzhs ?zzht; (case zzF => k_asm); (case zzN => k_asm); (case zzhx => with_reducible exact rfl); (case zzhs => with_unfolding_all rfl); (case zzht => kmk_pure); (case zzhz => walk_at "mine size"); (case zzh0 => omega); (case zzh1 => omega)); intro _ _ _ _ _) | (k_dflt (refine' sliceS_from ?zzF ?zzN ?zzhx ?zzhz ?zzh0 ?_ ?zzhs ?zzht; (case zzF => k_asm); (case zzN => k_asm); (case zzhx => with_reducible exact rfl); (case zzhs => with_unfolding_all rfl); (case zzht => kmk_pure); (case zzhz => walk_at "mine size"); (case zzh0 => omega)); intro _ _ _ _ _) | (k_dflt (refine' sliceS_to ?zzF ?zzN ?zzhx ?zzhz ?zzh0 ?_ ?zzhs ?zzht; (case zzF => k_asm); (case zzN => k_asm); (case zzhx => with_reducible exact rfl); (case zzhs => with_unfolding_all rfl); (case zzht => kmk_pure); (case zzhz => walk_at "mine size"); (case zzh0 => omega)); intro _ _ _ _ _) | (k_dflt (refine' sliceS_nn ?zzF ?zzN ?zzhx ?zzhz ?_ ?zzhs ?zzht; (case zzF => k_asm); (case zzN => k_asm); (case zzhx => with_reducible exact rfl); (case zzhs => with_unfolding_all rfl); (case zzht => kmk_pure); (case zzhz => walk_at "mine size")); intro _ _ _ _ _) | (k_dflt (refine' sliceS_toNeg ?zzF ?zzN ?zzhx ?zzhz ?zzh0 ?_ ?zzhs ?zzht; (case zzF => k_asm); (case zzN => k_asm); (case zzhx => with_reducible exact rfl); (case zzhs => with_unfolding_all rfl); (case zzht => kmk_pure); (case zzhz => walk_at "mine size"); (case zzh0 => omega)); intro _ _ _ _ _) | (k_dflt (refine' sliceS_fromNeg ?zzF ?zzN ?zzhx ?zzhz ?zzh0 ?_ ?zzhs ?zzht; (case zzF => k_asm); (case zzN => k_asm); (case zzhx => with_reducible exact rfl); (case zzhs => with_unfolding_all rfl); (case zzht => kmk_pure); (case zzhz => walk_at "mine size"); (case zzh0 => omega)); intro _ _ _ _ _))
  k_with "subscriptTail Name Slice str ref" => walk_at "mine body 1"
  k_with "subscriptTail" => walk_at "mine body 1"
  k_with "compareOp NotIn str str" => (k_here; (with_reducible show wpAny _ _ (compareOp CmpOp.NotIn (Value.str _ _) (Value.str _ _)) _ _ _); k_dflt (refine' notInS ?zzhx ?zzhy ?_; (case zzhx => with_reducible exact rfl); (case zzhy => first | exact lit_q | exact lit_b)))
  k_with "exec For Tuple Call cons nil" => (k_extra "mine for"; walk_say "MINE for")
  k_with "pyIter ref" => (k_extra "mine iter"; walk_say "MINE iter")
  k_with "call ref" => (k_extra "mine call"; walk_say "MINE call")
  k_with "call builtin:list.append" => (k_extra "mine append"; walk_say "MINE append")
  k_with "call builtin:str.join" => (k_extra "mine join"; walk_say "MINE join")
  k_with "InvEndN" => (refine Hold.out ?_; walk_say "MINE end")
  k_with "pyIter ref" => (k_extra "mine iter"; walk_say "MINE iter")
  k_with "newTuple" => (k_extra "mine tuple"; walk_say "MINE tuple")
  k_with "call type:enumerate" => (k_extra "mine enum"; walk_say "MINE enum")
  refine seg_one (wpAny_Assign_Name (wpAny_Constant_int (wpAny_storeName_local (by rfl) hn0 fun h1 hn1 hs1 => ⟨rfl, ?_⟩)))
  refine seg_one (wpAny_Assign_Name (wpAny_Constant_bool (wpAny_storeName_local (by rfl) hn1 fun h2 hn2 hs2 => ⟨rfl, ?_⟩)))
  have hk2 : ∀ b o, b ≠ s.heap.objs.size → s''.heap.get? b = some o → h2.get? b = some o := fun b o hb e => (hs2.2 b hb).trans ((hs1.2 b hb).trans e)
  have hz2 : h2.objs.size = s.heap.objs.size + 2 := by
    have e1 : h1.objs.size = s''.heap.objs.size := hs1.1
    have e2 : h2.objs.size = h1.objs.size := hs2.1
    omega
  have FC : Fr h₀ s.heap.objs.size h2 _ := ⟨hn2, fun b o e => hk2 b o (Nat.ne_of_lt (Nat.lt_of_lt_of_le (Heap.lt_size e) hlC)) (hk0 b o e), hlC⟩
  have NC : News h₀ s.heap.objs.size h2 [] := News.nil
  clear hs1 hs2 hn1
  refine seg_for ?_ (by intro _; rfl)
  k_with "mine enum" => refine Hold.out ?_
  k_steps
  refine Hold.mk ?_
  k_here
  refine call_enumerate_str fun h3 he3 hi3 hz3 hk3 => ?_
  try dsimp only [qk]
  refine wpAny_pyIter_enum he3 ?_
  intro k p hend
  have hC3 : s.heap.objs.size + 3 = h2.objs.size + 1 := by omega
  have hC2 : s.heap.objs.size + 2 = h2.objs.size := by omega
  replace he3 : IsEnum h3 (s.heap.objs.size + 3) (s.heap.objs.size + 2) 0 .none := by rw [hC3, hC2]; exact he3
  replace hi3 : h3.IsStrIter (s.heap.objs.size + 2) (strIterType (S x)) (S x) tx 0 := by rw [hC2]; exact hi3
  replace hk3 : ∀ b o, h2.get? b = some o → h3.get? b = some o := hk3
  rw [show ({ heap := h2, gens := s''.gens, drawn := s''.drawn, toks := s''.toks + 1 + 1 + 1, os := s''.os } : Shared).heap.objs.size + 1 = s.heap.objs.size + 3 from hC3.symm]
  have hn3 := hn2.at' fun o e => hk3 _ _ e
  have hsince : Since [s.heap.objs.size, s.heap.objs.size + 3, s.heap.objs.size + 2] s'' { heap := h3, gens := s''.gens, drawn := s''.drawn, toks := s''.toks + 1 + 1 + 1, os := s''.os } :=
    ⟨h3, _, rfl, fun b o hb e => hk3 b o (hk2 b o (fun h => hb (by simp [h])) e)⟩
  refine seg_induct (I := fun k n s₀ s1 => ∃ (i : Nat) (esc : Bool) (t : Tok) (u : Str → Option Value) (pre : List (Nat × List Nat)), x.length - i = k ∧ i ≤ x.length ∧ n = (itGo (x.drop i) i esc).length ∧ itOut x = pre ++ itGo (x.drop i) i esc ∧
    Since [s.heap.objs.size, s.heap.objs.size + 3, s.heap.objs.size + 2] s₀ s1 ∧ EnSt (s.heap.objs.size + 3) (s.heap.objs.size + 2) x tx i s1.heap ∧ (∀ b o, h₀.get? b = some o → s1.heap.get? b = some o) ∧
    s1.heap.Ns s.heap.objs.size (fun y => if y = Str.ofString "escape" then some (.bool esc) else if y = Str.ofString "pos" then some (.int ((i - 1 : Nat) : Int) t) else u y)) ?_ (k := x.length)
    ⟨0, false, _, _, [], rfl, Nat.zero_le _, rfl, rfl, hsince, ⟨⟨_, he3⟩, hi3⟩, fun b o e => hk3 b o (FC.keep b o e), hn3⟩
  clear hsince he3 hi3 hk3 hn3 hk2 hz2 FC NC hn2 hz3 hk0 hn0 hsz hC2 hC3
  intro k1 ih n s₀ s1 hI
  obtain ⟨i, esc, t, u, pre, hki, hile, hn, hpre, hsince, hst, hkeep, hns⟩ := hI
  have hne : @Ne Nat (s.heap.objs.size + 3) (s.heap.objs.size + 2) := by omega
  refine seg_turn ?_
  by_cases hi : i < x.length
  · have hc : x[i]? = some x[i] := List.getElem?_eq_getElem hi
    have hdrop : x.drop i = x[i] :: x.drop (i + 1) := List.drop_eq_getElem_cons hi
    rw [hdrop] at hn hpre
    refine (walks_en (by rfl) _ _ hne x tx).item i s1 _ _ hi hst ?_
    intro T vals h4 tk4 hPt hTsz htup hmid hk4
    obtain ⟨t5, v5, ⟨c, u5, hc', rfl⟩, rfl⟩ := hPt
    rw [hc] at hc'
    obtain rfl := Option.some.inj hc'
    have hap := (walks_en (prog := PySem.Challenge.rw_rw0075_01.row.prog) (w := w) (A := ⟨none, dp', fr', gd', un'⟩) (by rfl) (s.heap.objs.size + 3) (s.heap.objs.size + 2) hne x tx).apart i T h4 hmid
    refine (walks_en (by rfl) _ _ hne x tx).go _ _ _ i T _ _ _ hmid ?_
    intro h5 hst5 hk5
    have htup5 : h5.IsTuple T _ := let ⟨o, ho, r⟩ := htup; ⟨o, hk5 _ _ hap ho, r⟩
    have hlt0 : s.heap.objs.size < s1.heap.objs.size := hns.lt
    have hCw : s.heap.objs.size ∉ [s.heap.objs.size + 3, s.heap.objs.size + 2] := by simp
    have hn5 := hns.at' fun o e => hk5 _ _ hCw (hk4 _ _ hCw e)
    refine assign_pair (by rfl) (by rfl) (by rfl) (by rfl) htup5 hn5 ?_
    intro h6 tk6 hn6 hk6
    have old6 : ∀ b o, b ∉ [s.heap.objs.size, s.heap.objs.size + 3, s.heap.objs.size + 2] → s1.heap.get? b = some o → h6.get? b = some o := by
      intro b o hb e
      have hb2 : b ∉ [s.heap.objs.size + 3, s.heap.objs.size + 2] := fun hm => hb (List.mem_cons_of_mem _ hm)
      exact hk6 b o (fun h => hb (by rw [h]; exact List.mem_cons_self ..)) (hk5 b o hb2 (hk4 b o hb2 e))
    have hst6 : EnSt (s.heap.objs.size + 3) (s.heap.objs.size + 2) x tx (i + 1) h6 :=
      (walks_en (prog := PySem.Challenge.rw_rw0075_01.row.prog) (w := w) (A := ⟨none, dp', fr', gd', un'⟩) (by rfl) (s.heap.objs.size + 3) (s.heap.objs.size + 2) hne x tx).frame _ _ _ hst5 fun b hb o e => hk6 b o (fun h => by have h' : b = s.heap.objs.size := h; rw [h'] at hb; exact hCw hb) e
    have hkeep6 : ∀ b o, h₀.get? b = some o → h6.get? b = some o := fun b o e => old6 b o (by
      have hlt : @LT.lt Nat _ b s.heap.objs.size := Nat.lt_of_lt_of_le (Heap.lt_size e) hlC
      intro hm
      simp only [List.mem_cons, List.not_mem_nil, or_false] at hm
      rcases hm with h | h | h <;> (have h' : @Eq Nat b _ := h; omega)) (hkeep b o e)
    have hsince6 := hsince.step (tk := tk6) old6
    clear hk4 hk5 hk6 hn5 htup5 htup hst5 hmid hTsz hap hst hc' hc hns hkeep
    have hn7 : h6.Ns s.heap.objs.size (fun y => if y = Str.ofString "escape" then some (.bool esc) else if y = Str.ofString "pos" then some (.int ((i + 1 - 1 : Nat) : Int) t5) else if y = Str.ofString "ch" then some (.str (S [x[i]]) u5) else u y) := by
      have e : (fun y => if y = Str.ofString "escape" then some (Value.bool esc) else if y = Str.ofString "pos" then some (.int ((i + 1 - 1 : Nat) : Int) t5) else if y = Str.ofString "ch" then some (.str (S [x[i]]) u5) else u y) =
          fun y => if y = Str.ofString "ch" then some (.str (S [x[i]]) u5) else if y = Str.ofString "pos" then some (.int (i : Int) t5) else if y = Str.ofString "escape" then some (.bool esc) else if y = Str.ofString "pos" then some (.int ((i - 1 : Nat) : Int) t) else u y := by
        have n1 : Str.ofString "ch" ≠ Str.ofString "pos" := by decide
        have n2 : Str.ofString "ch" ≠ Str.ofString "escape" := by decide
        have n3 : Str.ofString "pos" ≠ Str.ofString "escape" := by decide
        funext y
        by_cases e1 : y = Str.ofString "ch"
        · subst e1; simp [n1, n2]
        · by_cases e2 : y = Str.ofString "pos"
          · subst e2; simp [e1, n3]
          · simp [e1, e2]
      rw [e]; exact hn6
    clear hn6
    have hlive : ∀ b ∈ [s.heap.objs.size, s.heap.objs.size + 3, s.heap.objs.size + 2], ∃ o, h6.get? b = some o := by
      obtain ⟨⟨old, h1⟩, o2, h2, _⟩ := id hst6
      obtain ⟨o3, _, _, h3, _⟩ := id hn7
      intro b hb
      simp only [List.mem_cons, List.not_mem_nil, or_false] at hb
      rcases hb with rfl | rfl | rfl
      · exact ⟨_, h3⟩
      · exact ⟨_, h1⟩
      · exact ⟨_, h2⟩
    have FC : Fr h₀ s.heap.objs.size h6 _ := ⟨hn7, hkeep6, hlC⟩
    have NC : News h₀ s.heap.objs.size h6 [] := News.nil
    k_with "mine tuple" => refine Hold.out ?_
    refine seg_if ?_
    cases esc with
    | true =>
      simp only [itGo, if_true] at hn hpre
      rw [List.length_cons] at hn
      subst hn
      k_steps
      refine seg_yield1 rfl rfl rfl rfl rfl ?_
      k_steps
      refine Hold.mk ?_
      k_here
      refine wpAny_newTuple ?_
      try dsimp only [qk]
      intro kap hkap
      refine gy_pair (p := (i, [92, x[i]])) rfl hpre rfl hsince6 (fun b hb => let ⟨_, ho⟩ := hlive b hb; Heap.lt_size ho) ?_
      intro s7 hk07 hown7
      refine hkap s7 ?_
      have hn8 := hn7.at' fun o e => hown7 _ (by simp) o e
      refine seg_one (wpAny_Assign_Name (wpAny_Constant_bool (wpAny_storeName_local (by rfl) hn8 fun h8 hn9 hs8 => ⟨rfl, ?_⟩)))
      refine seg_back (ih (x.length - (i + 1)) (by omega) _ _ _ ⟨i + 1, false, t5, (fun z => if z = Str.ofString "ch" then some (.str (S [x[i]]) u5) else u z), pre ++ [(i, [92, x[i]])], rfl, hi, rfl, by rw [hpre]; simp, ?_, ?_, ?_, ?_⟩)
      · exact (Since.refl _ s7).step fun b o hb e => (hs8.2 b (fun h => hb (by rw [show b = s.heap.objs.size from h]; exact List.mem_cons_self ..))).trans e
      · refine (walks_en (prog := PySem.Challenge.rw_rw0075_01.row.prog) (w := w) (A := ⟨none, dp', fr', gd', un'⟩) (by rfl) (s.heap.objs.size + 3) (s.heap.objs.size + 2) hne x tx).frame _ _ _ hst6 fun b hb o e => ?_
        exact (hs8.2 b (fun h => by have h' : b = s.heap.objs.size := h; rw [h'] at hb; exact hCw hb)).trans (hown7 b (List.mem_cons_of_mem _ hb) o e)
      · intro b o e
        have hlt : @LT.lt Nat _ b s.heap.objs.size := Nat.lt_of_lt_of_le (Heap.lt_size e) hlC
        exact (hs8.2 b (fun h => by have h' : @Eq Nat b s.heap.objs.size := h; omega)).trans (hk07 b o e)
      · have e : (fun y => if y = Str.ofString "escape" then some (Value.bool false) else if y = Str.ofString "escape" then some (Value.bool true) else if y = Str.ofString "pos" then some (.int ((i + 1 - 1 : Nat) : Int) t5) else if y = Str.ofString "ch" then some (.str (S [x[i]]) u5) else u y) =
            fun y => if y = Str.ofString "escape" then some (.bool false) else if y = Str.ofString "pos" then some (.int ((i + 1 - 1 : Nat) : Int) t5) else (fun z => if z = Str.ofString "ch" then some (.str (S [x[i]]) u5) else u z) y := by
          funext y
          by_cases e1 : y = Str.ofString "escape" <;> simp [e1]
        rw [e] at hn9
        exact hn9
    | false =>
      simp only [itGo, Bool.false_eq_true, if_false] at hn hpre
      k_steps
      refine seg_if ?_
      k_steps
      · have h92 : x[i] = 92 := by
          have h : [x[i]] = [92] := by assumption
          simpa using h
        rw [if_pos h92] at hn hpre
        subst hn
        refine seg_one (wpAny_Assign_Name (wpAny_Constant_bool (wpAny_storeName_local (by rfl) hn7 fun h8 hn9 hs8 => ⟨rfl, ?_⟩)))
        refine seg_back2 (ih (x.length - (i + 1)) (by omega) _ _ _ ⟨i + 1, true, t5, (fun z => if z = Str.ofString "ch" then some (.str (S [x[i]]) u5) else u z), pre, rfl, hi, rfl, hpre, ?_, ?_, ?_, ?_⟩)
        · exact hsince6.step fun b o hb e => (hs8.2 b (fun h => hb (by rw [show b = s.heap.objs.size from h]; exact List.mem_cons_self ..))).trans e
        · refine (walks_en (prog := PySem.Challenge.rw_rw0075_01.row.prog) (w := w) (A := ⟨none, dp', fr', gd', un'⟩) (by rfl) (s.heap.objs.size + 3) (s.heap.objs.size + 2) hne x tx).frame _ _ _ hst6 fun b hb o e => ?_
          exact (hs8.2 b (fun h => by have h' : b = s.heap.objs.size := h; rw [h'] at hb; exact hCw hb)).trans e
        · intro b o e
          have hlt : @LT.lt Nat _ b s.heap.objs.size := Nat.lt_of_lt_of_le (Heap.lt_size e) hlC
          exact (hs8.2 b (fun h => by have h' : @Eq Nat b s.heap.objs.size := h; omega)).trans (hkeep6 b o e)
        · have e : (fun y => if y = Str.ofString "escape" then some (Value.bool true) else if y = Str.ofString "escape" then some (Value.bool false) else if y = Str.ofString "pos" then some (.int ((i + 1 - 1 : Nat) : Int) t5) else if y = Str.ofString "ch" then some (.str (S [x[i]]) u5) else u y) =
              fun y => if y = Str.ofString "escape" then some (.bool true) else if y = Str.ofString "pos" then some (.int ((i + 1 - 1 : Nat) : Int) t5) else (fun z => if z = Str.ofString "ch" then some (.str (S [x[i]]) u5) else u z) y := by
            funext y
            by_cases e1 : y = Str.ofString "escape" <;> simp [e1]
          rw [e] at hn9
          exact hn9
      · have h92 : ¬ x[i] = 92 := by
          have h : ¬ [x[i]] = [92] := by assumption
          simpa using h
        rw [if_neg h92] at hn hpre
        rw [List.length_cons] at hn
        subst hn
        refine seg_yield1 rfl rfl rfl rfl rfl ?_
        k_steps
        refine Hold.mk ?_
        k_here
        refine wpAny_newTuple ?_
        try dsimp only [qk]
        intro kap hkap
        refine gy_pair (p := (i, [x[i]])) rfl hpre rfl hsince6 (fun b hb => let ⟨_, ho⟩ := hlive b hb; Heap.lt_size ho) ?_
        intro s7 hk07 hown7
        refine hkap s7 ?_
        have hn8 := hn7.at' fun o e => hown7 _ (by simp) o e
        refine seg_back2 (ih (x.length - (i + 1)) (by omega) _ _ _ ⟨i + 1, false, t5, (fun z => if z = Str.ofString "ch" then some (.str (S [x[i]]) u5) else u z), pre ++ [(i, [x[i]])], rfl, hi, rfl, by rw [hpre]; simp, Since.refl _ _, ?_, hk07, hn8⟩)
        refine (walks_en (prog := PySem.Challenge.rw_rw0075_01.row.prog) (w := w) (A := ⟨none, dp', fr', gd', un'⟩) (by rfl) (s.heap.objs.size + 3) (s.heap.objs.size + 2) hne x tx).frame _ _ _ hst6 fun b hb o e => ?_
        exact hown7 b (List.mem_cons_of_mem _ hb) o e
  · obtain rfl : i = x.length := by omega
    have hdrop : x.drop x.length = [] := List.drop_of_length_le (Nat.le_refl _)
    rw [hdrop] at hn hpre
    obtain ⟨⟨old, he⟩, hstr⟩ := hst
    refine wpAny_pyNext_enum_endD (draws_str (by rfl) _ x tx) he hstr ?_
    intro h4 hx4
    have he4 := hx4 _ _ hne he
    have hk4 : ∀ b o, b ∉ [s.heap.objs.size + 3, s.heap.objs.size + 2] → s1.heap.get? b = some o → h4.get? b = some o := fun b o hb e => hx4 b o (fun h => hb (by rw [h]; exact List.mem_cons_of_mem _ (List.mem_cons_self ..))) e
    refine hend _ _ _ _ ?_
    have hCw : s.heap.objs.size ∉ [s.heap.objs.size + 3, s.heap.objs.size + 2] := by simp
    have hn5 := hns.at' fun o e => hk4 _ _ hCw e
    have old4 : ∀ b o, b ∉ [s.heap.objs.size, s.heap.objs.size + 3, s.heap.objs.size + 2] → s1.heap.get? b = some o → h4.get? b = some o :=
      fun b o hb e => hk4 b o (fun hm => hb (List.mem_cons_of_mem _ hm)) e
    have hkeep4 : ∀ b o, h₀.get? b = some o → h4.get? b = some o := fun b o e => old4 b o (by
      have hlt : @LT.lt Nat _ b s.heap.objs.size := Nat.lt_of_lt_of_le (Heap.lt_size e) hlC
      intro hm
      simp only [List.mem_cons, List.not_mem_nil, or_false] at hm
      rcases hm with h | h | h <;> (have h' : @Eq Nat b _ := h; omega)) (hkeep b o e)
    have hsince4 := hsince.step (tk := s1.toks) old4
    have FC : Fr h₀ s.heap.objs.size h4 _ := ⟨hn5, hkeep4, hlC⟩
    have NC : News h₀ s.heap.objs.size h4 [] := News.nil
    k_with "mine tuple" => refine Hold.out ?_
    refine seg_if ?_
    cases esc with
    | true =>
      simp only [itGo, if_true] at hn hpre
      subst hn
      k_steps
      refine seg_yield1 rfl rfl rfl rfl rfl ?_
      k_steps
      refine Hold.mk ?_
      k_here
      refine wpAny_newTuple ?_
      try dsimp only [qk]
      intro kap hkap
      have hle4 : ∀ b ∈ [s.heap.objs.size, s.heap.objs.size + 3, s.heap.objs.size + 2], b < h4.objs.size := by
        have h3 : @LT.lt Nat _ (s.heap.objs.size + 3) h4.objs.size := Heap.lt_size he4
        intro b hb
        simp only [List.mem_cons, List.not_mem_nil, or_false] at hb
        show @LT.lt Nat _ b h4.objs.size
        rcases hb with h | h | h <;> (have h' : @Eq Nat b _ := h; omega)
      refine gy_pair (p := (x.length - 1, [92])) (rest := []) lit_b hpre rfl hsince4 hle4 ?_
      intro s7 hk07 hown7
      refine hkap s7 ?_
      refine seg_execs_nil ?_
      show Seg _ _ _ _ _ _ _ (leafOf (.ok (.ret .none))) [] _
      exact seg_end _ ⟨rfl, rfl, Since.refl _ _⟩
    | false =>
      simp only [itGo, Bool.false_eq_true, if_false] at hn hpre
      subst hn
      k_steps
      refine seg_execs_nil ?_
      show Seg _ _ _ _ _ _ _ (leafOf (.ok (.ret .none))) [] _
      exact seg_end _ ⟨rfl, rfl, hsince.step old4⟩

theorem use_iter (w : World) (mean mg mb) (x : List Nat) (tx : Tok) {dp un : Nat} {gd : Option (List Code)} {cn : Str} {cs : Scope} {a : Addr} {ccd : Value} {cl : List (Str × Addr)} {outer : List Env} {A₀ : Around} {base h₀ : Heap} {L : Addr} {m : Str → Option Value} {news : List (Addr × Obj)} {s : Shared} {Q E : Value → Shared → Prop}
    (B : Below A₀ base outer h₀) (F : Fr h₀ L s.heap m) (X : (hd.heap_39 w.params).In h₀) (N : News h₀ L s.heap news)
    (T : Top hd.view_39 (looseW hd.view_39 [Str.ofString "insort_right", Str.ofString "bisect_right", Str.ofString "bisect_left"]) mean mg mb h₀)
    (hk : cs.kind = .function) (hdp : dp + 3 < recursionLimit) (hu : un + 120 < cLine) (hb : AllBare s.gens)
    (ret : ∀ (C : Addr) (h' : Heap) (tk : Nat) (g : Nat) (gs : Array GenState), Fr h₀ L h' m → News h₀ L h' news → AllBare gs → h'.objs.size = C + 2 →
      (∀ b ∈ (C + 1) :: [C, C + 3, C + 2], h₀.get? b = none) → (C + 1) ∉ [C, C + 3, C + 2] → L ∉ (C + 1) :: [C, C + 3, C + 2] → (∀ p ∈ news, p.1 ∉ (C + 1) :: [C, C + 3, C + 2]) → h₀.NoLimit →
      (∀ (dp' : Nat) (fr' : Option (List Env)) (gd' : Option (List Code)) (un' : Nat), GAt PySem.Challenge.rw_rw0075_01.row.prog w ⟨none, dp', fr', gd', un'⟩ h₀ (C + 1) g [C, C + 3, C + 2] (itOut x) (C + 2) 0 { s with heap := h', toks := tk, gens := gs }) →
      Q (.ref (C + 1)) { s with heap := h', toks := tk, gens := gs }) :
    wpAny (model PySem.Challenge.rw_rw0075_01.row.prog w) (ktrTop dp un gd cn cs L a ccd cl outer) (call (.ref 21) [.str (S x) tx]) Q E s := by
  refine iter_gives w mean mg mb x tx _ _ _ _ _ _ _ _ _ _ _ _ _ _ _ _ _ _ B F X N T hk hdp hu ?_
  intro C h' tk gs hC F' N' hgb _ hz hG
  have hlt : ∀ b ∈ (C + 1) :: [C, C + 3, C + 2], @LE.le Nat _ s.heap.objs.size b := by
    intro b hb
    have hC' : @Eq Nat C s.heap.objs.size := hC
    simp only [List.mem_cons, List.not_mem_nil, or_false] at hb
    show @LE.le Nat _ s.heap.objs.size b
    rcases hb with h | h | h | h <;> (have h' : @Eq Nat b _ := h; omega)
  refine ret C h' tk _ _ F' N' (hb.push hgb) hz ?_ ?_ ?_ ?_ T.nolimit hG
  · intro b hb
    cases q : h₀.get? b with
    | none => rfl
    | some o => exact absurd (Heap.lt_size (F.keep b o q)) (Nat.not_lt.mpr (hlt b hb))
  · intro hb
    simp only [List.mem_cons, List.not_mem_nil, or_false] at hb
    rcases hb with h | h | h <;> (have h' : @Eq Nat (C + 1) _ := h; omega)
  · intro hb
    exact absurd F.ns.lt (Nat.not_lt.mpr (hlt L hb))
  · intro p hp hb
    exact absurd (Heap.lt_size (N p hp).1) (Nat.not_lt.mpr (hlt p.1 hb))
end

section
/-- one turn of _strip_quoted_realnames's loop: start, open_pos, the parts kept -/
noncomputable def stStep (x : List Nat) (c : Nat × Option Nat × List (List Nat)) (p : Nat × List Nat) : Nat × Option Nat × List (List Nat) :=
  if p.2 = [34] then (match c.2.1 with
    | none => (c.1, some p.1, c.2.2)
    | some op => (p.1 + 1, none, if c.1 ≠ op then c.2.2 ++ [(x.drop c.1).take (op - c.1)] else c.2.2))
  else c
noncomputable def stFold (x : List Nat) (j : Nat) : Nat × Option Nat × List (List Nat) := ((itOut x).take j).foldl (stStep x) (0, none, [])
theorem stFold_succ (x : List Nat) (j : Nat) (p : Nat × List Nat) (h : (itOut x)[j]? = some p) : stFold x (j + 1) = stStep x (stFold x j) p := by
  unfold stFold
  rw [List.take_add_one, h, List.foldl_append]; rfl
noncomputable def strip (x : List Nat) : List Nat :=
  if 34 ∈ x then (if (stFold x (itOut x).length).1 < x.length then (stFold x (itOut x).length).2.2 ++ [x.drop (stFold x (itOut x).length).1] else (stFold x (itOut x).length).2.2).flatten else x
/-- open_pos as a value -/
noncomputable def ov (o : Option Nat) (t : Tok) : Value := match o with | none => .none | some p => .int (p : Int) t

theorem itGo_len (x : List Nat) : ∀ i e, (itGo x i e).length ≤ x.length + 1 := by
  induction x with
  | nil => intro i e; cases e <;> simp [itGo]
  | cons c r ih =>
    intro i e
    have h1 := ih (i + 1) false
    have h2 := ih (i + 1) true
    unfold itGo
    split
    · simp; omega
    · split
      · simp; omega
      · simp; omega
theorem itOut_len (x : List Nat) : (itOut x).length ≤ x.length + 1 := itGo_len x 0 false
theorem stFold_parts (x : List Nat) : ∀ j, (stFold x j).2.2.length ≤ j ∧ ∀ l ∈ (stFold x j).2.2, l.length ≤ x.length := by
  intro j
  induction j with
  | zero => simp [stFold]
  | succ j ih =>
    cases h : (itOut x)[j]? with
    | none =>
      have hl : (itOut x).length ≤ j := by simpa using h
      have e : stFold x (j + 1) = stFold x j := by
        unfold stFold
        rw [List.take_of_length_le hl, List.take_of_length_le (by omega)]
      rw [e]; exact ⟨by omega, ih.2⟩
    | some p =>
      rw [stFold_succ x j p h]
      generalize stFold x j = c at ih
      obtain ⟨s1, o1, p1⟩ := c
      dsimp only at ih
      unfold stStep
      split
      · cases o1 with
        | none => exact ⟨by dsimp only; omega, ih.2⟩
        | some op =>
          dsimp only
          split
          · refine ⟨by simp; omega, ?_⟩
            intro l hl
            rcases List.mem_append.mp hl with hl | hl
            · exact ih.2 l hl
            · rw [List.mem_singleton.mp hl, List.length_take, List.length_drop]; omega
          · exact ⟨by omega, ih.2⟩
      · exact ⟨by dsimp only; omega, ih.2⟩
theorem sum_le (c : Nat) : ∀ l : List (List Nat), (∀ x ∈ l, x.length ≤ c) → (l.map List.length).sum ≤ l.length * c
  | [], _ => by simp
  | a :: r, h => by
    have h1 := h a (List.mem_cons_self ..)
    have h2 := sum_le c r fun x hx => h x (List.mem_cons_of_mem _ hx)
    rw [List.map_cons, List.sum_cons, List.length_cons, Nat.succ_mul]; omega

theorem strip_gives (w : World) (mean mg mb) (x : List Nat) (tx : Tok) (hx : x.length ≤ 200) :
    GivesG w mean mg mb 28 6 240 (fun _ => True) [.str (S x) tx] (fun t => .str (S (strip x)) t) := by
  unfold GivesG
  k_fill
  intro dp un gd cn cs a ccd cl outer A₀ base h₀ L m news s Q E B F X N T hk hpre hdp hu hb hret
  refine wpAny_call ?_
  refine' code_def (binds := [(Str.ofString "addr", .str (S x) tx)]) B F X N T rfl rfl hk ?k6 ?k7 ?k8 ?k9 ?kB ?_ ?c2 ?c3 ?c4 ?c5
  (case k6 => k_is)
  (case k7 => k_is)
  (case k8 => ktr_room)
  (case k9 => (refine' kp_binds ?kx ?ke; (case kx => k_in); (case ke => exact fun _ => rfl)))
  (case c5 => decide)
  (case kB => exact locs rfl)
  (case c2 => exact rfl)
  (case c3 => exact rfl)
  (case c4 => exact rfl)
  intro g' L' h' FG' F' N' B' X' T'
  (try dsimp only)
  (try k_lift B')
  (try k_fold)
  k_with_none
  k_with "mine lit" => (first | (with_reducible exact rfl) | exact lit_e | exact lit_o | exact lit_c | exact lit_b | exact lit_q | exact lit_zy | exact lit_Zx)
  k_with "mine size" => (first | omega | (simp only [List.length_append, List.length_cons, List.length_nil, List.length_replicate, List.length_take, List.length_drop]; omega))
  k_with "binaryOp Add str str" => (k_here; (with_reducible show wpAny _ _ (binaryOp Operator.Add (Value.str _ _) (Value.str _ _)) _ _ _); k_dflt (refine' addS ?zzhx ?zzhy ?zzhz ?_; (case zzhx => walk_at "mine lit"); (case zzhy => walk_at "mine lit"); (case zzhz => walk_at "mine size")); intro _ _)
  k_with "inplaceOp Add str str" => (k_here; (with_reducible show wpAny _ _ (inplaceOp Operator.Add (Value.str _ _) (Value.str _ _)) _ _ _); k_dflt (refine' iaddS ?zzhx ?zzhy ?zzhz ?_; (case zzhx => walk_at "mine lit"); (case zzhy => walk_at "mine lit"); (case zzhz => walk_at "mine size")); intro _ _)
  k_with "binaryOp Mult str int" => (k_here; (with_reducible show wpAny _ _ (binaryOp Operator.Mult (Value.str _ _) (Value.int _ _)) _ _ _); k_dflt (refine' mulS ?zzhx ?zzh0 ?zzh1 ?_; (case zzhx => first | (with_reducible exact rfl) | exact lit_o | exact lit_c); (case zzh0 => omega); (case zzh1 => omega)); intro _ _)
  k_with "compareOp Eq str str" => (k_here; (with_reducible show wpAny _ _ (compareOp CmpOp.Eq (Value.str _ _) (Value.str _ _)) _ _ _); k_dflt (refine' eqS ?zzhx ?zzhy ?_; (case zzhx => walk_at "mine lit"); (case zzhy => walk_at "mine lit")))
  k_with "compareOp NotEq str str" => (k_here; (with_reducible show wpAny _ _ (compareOp CmpOp.NotEq (Value.str _ _) (Value.str _ _)) _ _ _); k_dflt (refine' neS ?zzhx ?zzhy ?_; (case zzhx => walk_at "mine lit"); (case zzhy => walk_at "mine lit")))
  k_with "call builtin:len" => (k_here; (with_reducible show wpAny _ _ (call (Value.builtin "len") [Value.str _ _]) _ _ _); k_dflt (refine' lenS ?zzhx ?zzhz ?_; (case zzhx => first | (with_reducible exact rfl) | exact lit_e); (case zzhz => walk_at "mine size")); intro _ _)
  k_with "truthy str" => (k_here; (with_reducible show wpAny _ _ (PySem.truthy (Value.str _ _)) _ _ _); k_dflt (refine' truthS ?zzhx ?zzhz ?_; (case zzhx => first | (with_reducible exact rfl) | exact lit_e); (case zzhz => walk_at "mine size")); intro _)
  k_with "mine body 0" => (k_here; (with_reducible show wpAny _ _ (subscriptTail _ _ (Value.str _ _) (Value.int _ _)) _ _ _); first | (k_dflt (refine' itemS ?zzhx ?zzhz ?zzh0 ?zzh1 ?_ ?zzhs ?zzht; (case zzhx => with_reducible exact rfl); (case zzhs => with_unfolding_all rfl); (case zzht => kmk_pure); (case zzhz => walk_at "mine size"); (case zzh0 => first | omega | decide); (case zzh1 => first | omega | exact drop_ne (by assumption) (by omega) | (simp only [List.length_append, List.length_cons, List.length_nil, List.length_replicate, List.length_take, List.length_drop]; omega))); intro _ _) | (k_dflt (refine' itemSn ?zzhx ?zzhz ?zzh0 ?zzh1 ?_ ?zzhs ?zzht; (case zzhx => with_reducible exact rfl); (case zzhs => with_unfolding_all rfl); (case zzht => kmk_pure); (case zzhz => walk_at "mine size"); (case zzh0 => first | omega | decide); (case zzh1 => walk_at "mine size")); intro _ _))
  k_with "subscriptTail Name Name str int" => walk_at "mine body 0"
  k_with "subscriptTail Name BinOp str int" => walk_at "mine body 0"
  k_with "subscriptTail Name Constant str int" => walk_at "mine body 0"
  k_with "subscriptTail" => walk_at "mine body 0"
  k_with "mine body 1" => (k_here; (with_reducible show wpAny _ _ (subscriptTail _ (PySem.Expr.Slice _ _ none _) (Value.str _ _) (Value.ref _)) _ _ _); first | (k_dflt (refine' sliceS_run ?zzF ?zzN ?zzhx ?zzhz ?zzh0 ?zzh1 ?_ ?zzhs ?zzht; (case zzF => k_asm); (case zzN => k_asm); (case zzhx => with_reducible exact rfl); (case zzhs => with_unfolding_all rfl); (case zzht => kmk_pure); (case zzhz => walk_at "mine size"); (case zzh0 => omega); (case zzh1 => omega)); intro _ _ _ _ _) | (k_dflt (refine' sliceS_from ?zzF ?zzN ?zzhx ?zzhz ?zzh0 ?_ ?zzhs ?zzht; (case zzF => k_asm); (case zzN => k_asm); (case zzhx => with_reducible exact rfl); (case zzhs => with_unfolding_all rfl); (case zzht => kmk_pure); (case zzhz => walk_at "mine size"); (case zzh0 => omega)); intro _ _ _ _ _) | (k_dflt (refine' sliceS_to ?zzF ?zzN ?zzhx ?zzhz ?zzh0 ?_ ?zzhs ?zzht; (case zzF => k_asm); (case zzN => k_asm); (case zzhx => with_reducible exact rfl); (case zzhs => with_unfolding_all rfl); (case zzht => kmk_pure); (case zzhz => walk_at "mine size"); (case zzh0 => omega)); intro _ _ _ _ _) | (k_dflt (refine' sliceS_nn ?zzF ?zzN ?zzhx ?zzhz ?_ ?zzhs ?zzht; (case zzF => k_asm); (case zzN => k_asm); (case zzhx => with_reducible exact rfl); (case zzhs => with_unfolding_all rfl); (case zzht => kmk_pure); (case zzhz => walk_at "mine size")); intro _ _ _ _ _) | (k_dflt (refine' sliceS_toNeg ?zzF ?zzN ?zzhx ?zzhz ?zzh0 ?_ ?zzhs ?zzht; (case zzF => k_asm); (case zzN => k_asm); (case zzhx => with_reducible exact rfl); (case zzhs => with_unfolding_all rfl); (case zzht => kmk_pure); (case zzhz => walk_at "mine size"); (case zzh0 => omega)); intro _ _ _ _ _) | (k_dflt (refine' sliceS_fromNeg ?zzF ?zzN ?zzhx ?zzhz ?zzh0 ?_ ?zzhs ?zzht; (case zzF => k_asm); (case zzN => k_asm); (case zzhx => with_reducible exact rfl); (case zzhs => with_unfolding_all rfl); (case zzht => kmk_pure); (case zzhz => walk_at "mine size"); (case zzh0 => omega)); intro _ _ _ _ _))
  k_with "subscriptTail Name Slice str ref" => walk_at "mine body 1"
  k_with "subscriptTail" => walk_at "mine body 1"
  k_with "compareOp NotIn str str" => (k_here; (with_reducible show wpAny _ _ (compareOp CmpOp.NotIn (Value.str _ _) (Value.str _ _)) _ _ _); k_dflt (refine' notInS ?zzhx ?zzhy ?_; (case zzhx => with_reducible exact rfl); (case zzhy => first | exact lit_q | exact lit_b)))
  k_with "exec For Tuple Call cons nil" => (k_extra "mine for"; walk_say "MINE for")
  k_with "pyIter ref" => (k_extra "mine iter"; walk_say "MINE iter")
  k_with "call ref" => (k_extra "mine call"; walk_say "MINE call")
  k_with "call builtin:list.append" => (k_extra "mine append"; walk_say "MINE append")
  k_with "call builtin:str.join" => (k_extra "mine join"; walk_say "MINE join")
  k_with "InvEndN" => (refine Hold.out ?_; walk_say "MINE end")
  k_with "newList" => (k_extra "mine newlist"; walk_say "MINE newlist")
  k_with "mine newlist" =>
    k_here
    k_dflt (refine' newlistS ?F ?N ?z ?_)
    (case F => k_asm)
    (case N => k_asm)
    (case z => decide)
    intro lR h9 F9 N9 l9
    try k_sweep
  k_with "mine for" => refine wpAny_For ?_ (by intro _; rfl)
  k_with "mine call" =>
    (with_reducible show wpAny _ _ (call (Value.ref 21) _) _ _ _)
    k_dflt (refine' use_iter w mean mg mb x _ ?k1 ?k2 ?k3 ?k4 ?k5 rfl ?k7 ?k8 hb ?_)
    (case k1 => k_asm)
    (case k2 => k_asm)
    (case k3 => k_asm)
    (case k4 => k_asm)
    (case k5 => k_asm)
    (case k7 => ktr_room)
    (case k8 => ktr_units)
    intro C h9 tk9 g9 gs9 F9 N9 hb9 hz9 hown0 hCo hLo hno hlim9 hG9
    dsimp only
    try k_fold
  k_with "mine iter" => refine Hold.out ?_
  k_steps
  · refine Hold.mk ?_
    refine wpAny_pyIter_gen (g := g9) (hG9 0 none none 0).1 ?_
    try dsimp only [qk]
    refine kst_gen (g := g9) (own := [C, C + 3, C + 2]) (outs := itOut x) (start := C + 2) (fun c : (Int × Tok) × (Option Nat × Tok) × (List (List Nat × Tok) × Nat) => (lR, listOf (c.2.2.1.map sv).toArray c.2.2.2) :: news)
      (fun c => [(Str.ofString "start", .int c.1.1 c.1.2), (Str.ofString "open_pos", ov c.2.1.1 c.2.1.2)]) (fun _ => True) [Str.ofString "ch"]
      (fun j c => c.1.1 = ((stFold x j).1 : Int) ∧ c.2.1.1 = (stFold x j).2.1 ∧ c.2.2.1.map (·.1) = (stFold x j).2.2) ((0, _), (none, 0), ([], 0))
      (by rfl) (by ktr_room) hlim9 hown0 hCo hLo (by rfl) (by rfl) (by rfl) (hG9 _ _ _ _) hz9 hb9 (by assumption) (by assumption) hno trivial (by kst_all) ⟨rfl, rfl, rfl⟩ ?_ ?_
    · intro ⟨⟨st, tst⟩, ⟨op, top⟩, ⟨xs, nn⟩⟩ j p t1 t2 u8 h8 tk8 gs8 own9 hpj hoff9 hb8 _ hP F8 N8
      obtain ⟨pp, pc⟩ := p
      dsimp only at hP F8 N8
      obtain ⟨e1, e2, e3⟩ := hP
      have hsucc := stFold_succ x j (pp, pc) hpj
      have hpart := stFold_parts x j
      have hjl : j < (itOut x).length := (List.getElem?_eq_some_iff.mp hpj).1
      have hol := itOut_len x
      have hxl : xs.length = (stFold x j).2.2.length := by rw [← e3, List.length_map]
      have hxl2 : xs.length ≤ 1000 := by omega
      clear hxl hpart hjl hol
      generalize stFold x j = c0 at e1 e2 e3 hsucc
      obtain ⟨s1, o1, p1⟩ := c0
      dsimp only at e1 e2 e3 hsucc
      subst e1 e2 e3
      have hne9 : ∀ p ∈ news ++ own9, p.1 ≠ lR := by
        intro p hp
        rcases List.mem_append.mp hp with hp | hp
        · exact Nat.ne_of_lt (l9 p hp)
        · exact hoff9 p hp lR (List.mem_cons_self ..)
      cases op with
      | none =>
        simp only [ov] at F8
        try k_fold
        k_steps
        · have hq : pc = [34] := by assumption
          rename News _ _ _ _ => nE
          refine kst_end ((_, _), (some pp, t1), (xs, nn)) (by assumption) nE (by first | kst_in | kst_inAny) (by first | (intro p hp; kst_mem) | kst_anyIn) (by rfl) trivial (by kst_all) (by intro z h1 h2 h3; simp only [List.forall_mem_cons, List.not_mem_nil, false_implies, implies_true, and_true, ne_eq] at h2; simp only [List.contains_cons, List.contains_nil, Bool.or_false, Bool.or_eq_false_iff, beq_eq_false_iff_ne, ne_eq] at h3; simp [kstB, h1, h2, h3]) ?_
          rw [rangeKs_length, hsucc]
          simp [stStep, hq]
        · have hq : ¬ pc = [34] := by assumption
          rename News _ _ _ _ => nE
          refine kst_end ((_, _), (none, 0), (xs, nn)) (by assumption) nE (by first | kst_in | kst_inAny) (by first | (intro p hp; kst_mem) | kst_anyIn) (by rfl) trivial (by kst_all) (by intro z h1 h2 h3; simp only [List.forall_mem_cons, List.not_mem_nil, false_implies, implies_true, and_true, ne_eq] at h2; simp only [List.contains_cons, List.contains_nil, Bool.or_false, Bool.or_eq_false_iff, beq_eq_false_iff_ne, ne_eq] at h3; simp [kstB, h1, h2, h3]) ?_
          rw [rangeKs_length, hsucc]
          simp [stStep, hq]
      | some op =>
        simp only [ov] at F8
        try k_fold
        k_with "mine append" => refine Hold.out ?_
        k_steps
        · refine Hold.mk ?_
          k_here
          k_dflt (refine' appendS ?F ?N ?U ?z ?_)
          (case F => k_asm)
          (case N => k_asm)
          (case U => exact Upd.head hne9)
          (case z => omega)
          intro h7 F7 N7
          try dsimp only [qk]
          try k_fold
          k_steps
          have hq : pc = [34] := by assumption
          rename News _ _ _ _ => nE
          refine kst_end ((_, _), (none, 0), (xs ++ [(_, _)], nn + 1)) (by assumption) nE (by first | kst_in | kst_inAny) (by first | (intro p hp; kst_mem) | kst_anyIn) (by rfl) trivial (by kst_all) (by intro z h1 h2 h3; simp only [List.forall_mem_cons, List.not_mem_nil, false_implies, implies_true, and_true, ne_eq] at h2; simp only [List.contains_cons, List.contains_nil, Bool.or_false, Bool.or_eq_false_iff, beq_eq_false_iff_ne, ne_eq] at h3; simp [kstB, h1, h2, h3]) ?_
          rw [rangeKs_length, hsucc]
          simp [stStep, hq]
          omega
        · have hq : pc = [34] := by assumption
          rename News _ _ _ _ => nE
          refine kst_end ((_, _), (none, 0), (xs, nn)) (by assumption) nE (by first | kst_in | kst_inAny) (by first | (intro p hp; kst_mem) | kst_anyIn) (by rfl) trivial (by kst_all) (by intro z h1 h2 h3; simp only [List.forall_mem_cons, List.not_mem_nil, false_implies, implies_true, and_true, ne_eq] at h2; simp only [List.contains_cons, List.contains_nil, Bool.or_false, Bool.or_eq_false_iff, beq_eq_false_iff_ne, ne_eq] at h3; simp [kstB, h1, h2, h3]) ?_
          rw [rangeKs_length, hsucc]
          simp [stStep, hq]
          omega
        · have hq : ¬ pc = [34] := by assumption
          rename News _ _ _ _ => nE
          refine kst_end ((_, _), (some op, top), (xs, nn)) (by assumption) nE (by first | kst_in | kst_inAny) (by first | (intro p hp; kst_mem) | kst_anyIn) (by rfl) trivial (by kst_all) (by intro z h1 h2 h3; simp only [List.forall_mem_cons, List.not_mem_nil, false_implies, implies_true, and_true, ne_eq] at h2; simp only [List.contains_cons, List.contains_nil, Bool.or_false, Bool.or_eq_false_iff, beq_eq_false_iff_ne, ne_eq] at h3; simp [kstB, h1, h2, h3]) ?_
          rw [rangeKs_length, hsucc]
          simp [stStep, hq]
    · intro ⟨⟨st, tst⟩, ⟨op, top⟩, ⟨xs, nn⟩⟩ u8 h8 tk8 gs8 hb8 _ hP F8 N8
      dsimp only at hP F8 N8
      obtain ⟨e1, e2, e3⟩ := hP
      have hpart := stFold_parts x (itOut x).length
      have hol := itOut_len x
      have hst : strip x = (if (stFold x (itOut x).length).1 < x.length then (stFold x (itOut x).length).2.2 ++ [x.drop (stFold x (itOut x).length).1] else (stFold x (itOut x).length).2.2).flatten := by
        unfold strip; rw [if_pos (by assumption)]
      rw [hst] at hret
      clear hst
      generalize stFold x (itOut x).length = c0 at e1 e2 e3 hpart hret
      obtain ⟨s1, o1, p1⟩ := c0
      dsimp only at e1 e2 e3 hpart hret
      subst e1 e2 e3
      obtain ⟨hp1, hp2⟩ := hpart
      rw [List.length_map] at hp1
      have hsum := sum_le x.length (xs.map (·.1)) hp2
      rw [List.map_map, List.length_map] at hsum
      replace hsum : (xs.map fun p => p.1.length).sum ≤ xs.length * x.length := hsum
      have hmul : xs.length * x.length ≤ 201 * 200 := Nat.mul_le_mul (by omega) hx
      try k_fold
      k_with "mine append" => refine Hold.out ?_
      k_with "mine join" => refine Hold.out ?_
      k_steps
      · refine Hold.mk ?_
        k_here
        k_dflt (refine' appendS ?F ?N ?U ?z ?_)
        (case F => k_asm)
        (case N => k_asm)
        (case U => exact Upd.head fun p hp => Nat.ne_of_lt (l9 p hp))
        (case z => omega)
        intro h7 F7 N7
        try dsimp only [qk]
        try k_fold
        k_steps
        refine Hold.mk ?_
        k_here
        k_dflt (refine' joinS (news := (lR, _) :: news) ?N (.head _) ?X ?z ?_)
        (case N => k_asm)
        (case X => exact lit_e)
        (case z => (simp only [List.map_append, List.sum_append, List.length_append, List.map_cons, List.map_nil, List.sum_cons, List.sum_nil, List.length_cons, List.length_nil, List.length_drop]; omega))
        intro t7 k7
        try dsimp only [qk]
        try k_fold
        k_steps
        have hlt : s1 < x.length := by
          have h : (s1 : Int) < (x.length : Int) := by assumption
          omega
        rw [if_pos hlt] at hret
        simp only [List.map_append, List.map_cons, List.map_nil, Int.toNat_natCast]
        rename News h₀ _ _ _ => nE
        exact hret _ _ _ _ hb8 (by assumption) fun p hp => nE p (.tail _ hp)
      · refine Hold.mk ?_
        k_here
        k_dflt (refine' joinS (news := (lR, _) :: news) ?N (.head _) ?X ?z ?_)
        (case N => k_asm)
        (case X => exact lit_e)
        (case z => omega)
        intro t7 k7
        try dsimp only [qk]
        try k_fold
        k_steps
        have hlt : ¬ s1 < x.length := by
          have h : ¬ (s1 : Int) < (x.length : Int) := by assumption
          omega
        rw [if_neg hlt] at hret
        rename News h₀ _ _ _ => nE
        exact hret _ _ _ _ hb8 (by assumption) fun p hp => nE p (.tail _ hp)
  · rw [strip, if_neg (by assumption)] at hret
    exact hret _ _ _ _ hb (by assumption) (by assumption)
end

section
/-- one turn of _check_parenthesis's loop; none: it has told False -/
noncomputable def chStep (o : Option Int) (p : Nat × List Nat) : Option Int :=
  match o with
  | none => none
  | some k => if p.2 = [40] then some (k + 1) else if p.2 = [41] then (if k - 1 < 0 then none else some (k - 1)) else some k
noncomputable def chFold (y : List Nat) (j : Nat) : Option Int := ((itOut y).take j).foldl chStep (some 0)
theorem chFold_succ (y : List Nat) (j : Nat) (p : Nat × List Nat) (h : (itOut y)[j]? = some p) : chFold y (j + 1) = chStep (chFold y j) p := by
  unfold chFold
  rw [List.take_add_one, h, List.foldl_append]; rfl
theorem chStep_none : ∀ l : List (Nat × List Nat), l.foldl chStep none = none
  | [] => rfl
  | _ :: r => by rw [List.foldl_cons]; exact chStep_none r
theorem chFold_none (y : List Nat) (j : Nat) (h : chFold y j = none) : (itOut y).foldl chStep (some 0) = none := by
  have e := List.take_append_drop j (itOut y)
  rw [← e, List.foldl_append]
  unfold chFold at h
  rw [h]; exact chStep_none _
noncomputable def chk (x : List Nat) : Bool := decide ((itOut (strip x)).foldl chStep (some 0) = some 0)

theorem check_gives (w : World) (mean mg mb) (x : List Nat) (tx : Tok) (hx : x.length ≤ 200) :
    GivesG w mean mg mb 35 10 400 (fun _ => True) [.str (S x) tx] (fun _ => .bool (chk x)) := by
  unfold GivesG
  k_fill
  intro dp un gd cn cs a ccd cl outer A₀ base h₀ L m news s Q E B F X N T hk hpre hdp hu hb hret
  refine wpAny_call ?_
  refine' code_def (binds := [(Str.ofString "addr", .str (S x) tx)]) B F X N T rfl rfl hk ?k6 ?k7 ?k8 ?k9 ?kB ?_ ?c2 ?c3 ?c4 ?c5
  (case k6 => k_is)
  (case k7 => k_is)
  (case k8 => ktr_room)
  (case k9 => (refine' kp_binds ?kx ?ke; (case kx => k_in); (case ke => exact fun _ => rfl)))
  (case c5 => decide)
  (case kB => exact locs rfl)
  (case c2 => exact rfl)
  (case c3 => exact rfl)
  (case c4 => exact rfl)
  intro g' L' h' FG' F' N' B' X' T'
  (try dsimp only)
  (try k_lift B')
  (try k_fold)
  k_with_none
  k_with "mine lit" => (first | (with_reducible exact rfl) | exact lit_e | exact lit_o | exact lit_c | exact lit_b | exact lit_q | exact lit_zy | exact lit_Zx)
  k_with "mine size" => (first | omega | (simp only [List.length_append, List.length_cons, List.length_nil, List.length_replicate, List.length_take, List.length_drop]; omega))
  k_with "binaryOp Add str str" => (k_here; (with_reducible show wpAny _ _ (binaryOp Operator.Add (Value.str _ _) (Value.str _ _)) _ _ _); k_dflt (refine' addS ?zzhx ?zzhy ?zzhz ?_; (case zzhx => walk_at "mine lit"); (case zzhy => walk_at "mine lit"); (case zzhz => walk_at "mine size")); intro _ _)
  k_with "inplaceOp Add str str" => (k_here; (with_reducible show wpAny _ _ (inplaceOp Operator.Add (Value.str _ _) (Value.str _ _)) _ _ _); k_dflt (refine' iaddS ?zzhx ?zzhy ?zzhz ?_; (case zzhx => walk_at "mine lit"); (case zzhy => walk_at "mine lit"); (case zzhz => walk_at "mine size")); intro _ _)
  k_with "binaryOp Mult str int" => (k_here; (with_reducible show wpAny _ _ (binaryOp Operator.Mult (Value.str _ _) (Value.int _ _)) _ _ _); k_dflt (refine' mulS ?zzhx ?zzh0 ?zzh1 ?_; (case zzhx => first | (with_reducible exact rfl) | exact lit_o | exact lit_c); (case zzh0 => omega); (case zzh1 => omega)); intro _ _)
  k_with "compareOp Eq str str" => (k_here; (with_reducible show wpAny _ _ (compareOp CmpOp.Eq (Value.str _ _) (Value.str _ _)) _ _ _); k_dflt (refine' eqS ?zzhx ?zzhy ?_; (case zzhx => walk_at "mine lit"); (case zzhy => walk_at "mine lit")))
  k_with "compareOp NotEq str str" => (k_here; (with_reducible show wpAny _ _ (compareOp CmpOp.NotEq (Value.str _ _) (Value.str _ _)) _ _ _); k_dflt (refine' neS ?zzhx ?zzhy ?_; (case zzhx => walk_at "mine lit"); (case zzhy => walk_at "mine lit")))
  k_with "call builtin:len" => (k_here; (with_reducible show wpAny _ _ (call (Value.builtin "len") [Value.str _ _]) _ _ _); k_dflt (refine' lenS ?zzhx ?zzhz ?_; (case zzhx => first | (with_reducible exact rfl) | exact lit_e); (case zzhz => walk_at "mine size")); intro _ _)
  k_with "truthy str" => (k_here; (with_reducible show wpAny _ _ (PySem.truthy (Value.str _ _)) _ _ _); k_dflt (refine' truthS ?zzhx ?zzhz ?_; (case zzhx => first | (with_reducible exact rfl) | exact lit_e); (case zzhz => walk_at "mine size")); intro _)
  k_with "mine body 0" => (k_here; (with_reducible show wpAny _ _ (subscriptTail _ _ (Value.str _ _) (Value.int _ _)) _ _ _); first | (k_dflt (refine' itemS ?zzhx ?zzhz ?zzh0 ?zzh1 ?_ ?zzhs ?zzht; (case zzhx => with_reducible exact rfl); (case zzhs => with_unfolding_all rfl); (case zzht => kmk_pure); (case zzhz => walk_at "mine size"); (case zzh0 => first | omega | decide); (case zzh1 => first | omega | exact drop_ne (by assumption) (by omega) | (simp only [List.length_append, List.length_cons, List.length_nil, List.length_replicate, List.length_take, List.length_drop]; omega))); intro _ _) | (k_dflt (refine' itemSn ?zzhx ?zzhz ?zzh0 ?zzh1 ?_ ?zzhs ?zzht; (case zzhx => with_reducible exact rfl); (case zzhs => with_unfolding_all rfl); (case zzht => kmk_pure); (case zzhz => walk_at "mine size"); (case zzh0 => first | omega | decide); (case zzh1 => walk_at "mine size")); intro _ _))
  k_with "subscriptTail Name Name str int" => walk_at "mine body 0"
  k_with "subscriptTail Name BinOp str int" => walk_at "mine body 0"
  k_with "subscriptTail Name Constant str int" => walk_at "mine body 0"
  k_with "subscriptTail" => walk_at "mine body 0"
  k_with "mine body 1" => (k_here; (with_reducible show wpAny _ _ (subscriptTail _ (PySem.Expr.Slice _ _ none _) (Value.str _ _) (Value.ref _)) _ _ _); first | (k_dflt (refine' sliceS_run ?zzF ?zzN ?zzhx ?zzhz ?zzh0 ?zzh1 ?_ ?zzhs ?zzht; (case zzF => k_asm); (case zzN => k_asm); (case zzhx => with_reducible exact rfl); (case zzhs => with_unfolding_all rfl); (case zzht => kmk_pure); (case zzhz => walk_at "mine size"); (case zzh0 => omega); (case zzh1 => omega)); intro _ _ _ _ _) | (k_dflt (refine' sliceS_from ?zzF ?zzN ?zzhx ?zzhz ?zzh0 ?_ ?zzhs ?zzht; (case zzF => k_asm); (case zzN => k_asm); (case zzhx => with_reducible exact rfl); (case zzhs => with_unfolding_all rfl); (case zzht => kmk_pure); (case zzhz => walk_at "mine size"); (case zzh0 => omega)); intro _ _ _ _ _) | (k_dflt (refine' sliceS_to ?zzF ?zzN ?zzhx ?zzhz ?zzh0 ?_ ?zzhs ?zzht; (case zzF => k_asm); (case zzN => k_asm); (case zzhx => with_reducible exact rfl); (case zzhs => with_unfolding_all rfl); (case zzht => kmk_pure); (case zzhz => walk_at "mine size"); (case zzh0 => omega)); intro _ _ _ _ _) | (k_dflt (refine' sliceS_nn ?zzF ?zzN ?zzhx ?zzhz ?_ ?zzhs ?zzht; (case zzF => k_asm); (case zzN => k_asm); (case zzhx => with_reducible exact rfl); (case zzhs => with_unfolding_all rfl); (case zzht => kmk_pure); (case zzhz => walk_at "mine size")); intro _ _ _ _ _) | (k_dflt (refine' sliceS_toNeg ?zzF ?zzN ?zzhx ?zzhz ?zzh0 ?_ ?zzhs ?zzht; (case zzF => k_asm); (case zzN => k_asm); (case zzhx => with_reducible exact rfl); (case zzhs => with_unfolding_all rfl); (case zzht => kmk_pure); (case zzhz => walk_at "mine size"); (case zzh0 => omega)); intro _ _ _ _ _) | (k_dflt (refine' sliceS_fromNeg ?zzF ?zzN ?zzhx ?zzhz ?zzh0 ?_ ?zzhs ?zzht; (case zzF => k_asm); (case zzN => k_asm); (case zzhx => with_reducible exact rfl); (case zzhs => with_unfolding_all rfl); (case zzht => kmk_pure); (case zzhz => walk_at "mine size"); (case zzh0 => omega)); intro _ _ _ _ _))
  k_with "subscriptTail Name Slice str ref" => walk_at "mine body 1"
  k_with "subscriptTail" => walk_at "mine body 1"
  k_with "compareOp NotIn str str" => (k_here; (with_reducible show wpAny _ _ (compareOp CmpOp.NotIn (Value.str _ _) (Value.str _ _)) _ _ _); k_dflt (refine' notInS ?zzhx ?zzhy ?_; (case zzhx => with_reducible exact rfl); (case zzhy => first | exact lit_q | exact lit_b)))
  k_with "exec For Tuple Call cons nil" => (k_extra "mine for"; walk_say "MINE for")
  k_with "pyIter ref" => (k_extra "mine iter"; walk_say "MINE iter")
  k_with "call ref" => (k_extra "mine call"; walk_say "MINE call")
  k_with "call builtin:list.append" => (k_extra "mine append"; walk_say "MINE append")
  k_with "call builtin:str.join" => (k_extra "mine join"; walk_say "MINE join")
  k_with "InvEndN" => (refine Hold.out ?_; walk_say "MINE end")
  k_with "mine for" => refine wpAny_For ?_ (by intro _; rfl)
  k_with "mine call" =>
    (with_reducible show wpAny _ _ (call (Value.ref 28) _) _ _ _)
    k_dflt (refine' use_givesG (strip_gives w mean mg mb x tx hx) ?k1 ?k2 ?k3 ?k4 ?k5 rfl trivial ?k7 ?k8 hb ?_)
    (case k1 => k_asm)
    (case k2 => k_asm)
    (case k3 => k_asm)
    (case k4 => k_asm)
    (case k5 => k_asm)
    (case k7 => ktr_room)
    (case k8 => ktr_units)
    intro t9 h9 tk9 gs9 hb9 F9 N9
    dsimp only
    try k_fold
  k_with "mine call" =>
    (with_reducible show wpAny _ _ (call (Value.ref 21) _) _ _ _)
    k_dflt (refine' use_iter w mean mg mb (strip x) _ ?k1 ?k2 ?k3 ?k4 ?k5 rfl ?k7 ?k8 hb9 ?_)
    (case k1 => k_asm)
    (case k2 => k_asm)
    (case k3 => k_asm)
    (case k4 => k_asm)
    (case k5 => k_asm)
    (case k7 => ktr_room)
    (case k8 => ktr_units)
    intro C h8 tk8 g8 gs8 F8 N8 hb8 hz8 hown0 hCo hLo hno hlim8 hG8
    dsimp only
    try k_fold
  k_with "mine iter" => refine Hold.out ?_
  k_steps
  refine Hold.mk ?_
  refine wpAny_pyIter_gen (g := g8) (hG8 0 none none 0).1 ?_
  try dsimp only [qk]
  refine kst_gen (g := g8) (own := [C, C + 3, C + 2]) (outs := itOut (strip x)) (start := C + 2) (fun _ : Int × Tok => news)
    (fun c => [(Str.ofString "opens", .int c.1 c.2)]) (fun _ => True) [Str.ofString "ch"]
    (fun j c => chFold (strip x) j = some c.1) (0, _)
    (by rfl) (by ktr_room) hlim8 hown0 hCo hLo (by rfl) (by rfl) (by rfl) (hG8 _ _ _ _) hz8 hb8 (by assumption) (by assumption) hno trivial (by kst_all) rfl ?_ ?_
  · intro ⟨op, top⟩ j p t1 t2 u7 h7 tk7 gs7 own9 hpj hoff9 hb7 _ hP F7 N7
    obtain ⟨pp, pc⟩ := p
    dsimp only at hP F7 N7
    have hsucc := chFold_succ (strip x) j (pp, pc) hpj
    rw [hP] at hsucc
    try k_fold
    k_steps
    · have hq : pc = [40] := by assumption
      rename News _ _ _ _ => nE
      refine kst_end (_, _) (by assumption) nE (by first | kst_in | kst_inAny) (by first | (intro p hp; kst_mem) | kst_anyIn) (by rfl) trivial (by kst_all) (by intro z h1 h2 h3; simp only [List.forall_mem_cons, List.not_mem_nil, false_implies, implies_true, and_true, ne_eq] at h2; simp only [List.contains_cons, List.contains_nil, Bool.or_false, beq_eq_false_iff_ne, ne_eq] at h3; simp [kstB, h1, h2, h3]) ?_
      rw [rangeKs_length, hsucc]
      simp [chStep, hq]
    · have hq : pc = [41] := by assumption
      have hlt : op - 1 < 0 := by assumption
      have hc : chk x = false := by
        unfold chk
        rw [chFold_none (strip x) (j + 1) (by rw [hsucc]; simp [chStep, hq, hlt])]
        rfl
      rw [hc] at hret
      rename News h₀ _ _ _ => nE
      exact hret 0 _ _ _ hb7 (by assumption) fun p hp => nE p (by simp [hp])
    · have hq : pc = [41] := by assumption
      have hlt : ¬ op - 1 < 0 := by assumption
      rename News _ _ _ _ => nE
      refine kst_end (_, _) (by assumption) nE (by first | kst_in | kst_inAny) (by first | (intro p hp; kst_mem) | kst_anyIn) (by rfl) trivial (by kst_all) (by intro z h1 h2 h3; simp only [List.forall_mem_cons, List.not_mem_nil, false_implies, implies_true, and_true, ne_eq] at h2; simp only [List.contains_cons, List.contains_nil, Bool.or_false, beq_eq_false_iff_ne, ne_eq] at h3; simp [kstB, h1, h2, h3]) ?_
      rw [rangeKs_length, hsucc]
      simp [chStep, hq, hlt]
    · have hq : ¬ pc = [40] := by assumption
      have hq2 : ¬ pc = [41] := by assumption
      rename News _ _ _ _ => nE
      refine kst_end (_, _) (by assumption) nE (by first | kst_in | kst_inAny) (by first | (intro p hp; kst_mem) | kst_anyIn) (by rfl) trivial (by kst_all) (by intro z h1 h2 h3; simp only [List.forall_mem_cons, List.not_mem_nil, false_implies, implies_true, and_true, ne_eq] at h2; simp only [List.contains_cons, List.contains_nil, Bool.or_false, beq_eq_false_iff_ne, ne_eq] at h3; simp [kstB, h1, h2, h3]) ?_
      rw [rangeKs_length, hsucc]
      simp [chStep, hq, hq2]
  · intro ⟨op, top⟩ u7 h7 tk7 gs7 hb7 _ hP F7 N7
    dsimp only at hP F7 N7
    try k_fold
    k_steps
    have hc : chk x = (op == 0) := by
      unfold chk
      unfold chFold at hP
      rw [List.take_length] at hP
      rw [hP]
      by_cases h0 : op = 0
      · subst h0; rfl
      · simp [h0]
    rw [hc] at hret
    exact hret 0 _ _ _ hb7 (by assumption) (by assumption)
end

section
noncomputable def insT (ks : List (List Nat)) (t : List Nat) : List (List Nat) := ks.take (bisR ks t) ++ t :: ks.drop (bisR ks t)
noncomputable def addT (ks : List (List Nat)) (t : List Nat) : List (List Nat) := if ks[bisL ks t]? = some t then ks else insT ks t
noncomputable def gIn (more : List Nat) (ks : List (List Nat)) (j : Nat) : List (List Nat) :=
  if (more.take j).drop ((more.take j).length - 1) = [41] then ks else addT ks (more.take j ++ [41] ++ more.drop j)
noncomputable def gInF (more : List Nat) (ks : List (List Nat)) (j : Nat) : List (List Nat) := (List.range j).foldl (gIn more) ks
noncomputable def moreOf (row : List Nat) (i : Nat) : List Nat := row.take i ++ [40] ++ row.drop i
noncomputable def gOut (row : List Nat) (ks : List (List Nat)) (i : Nat) : List (List Nat) :=
  if (row.drop i).take 1 = [40] then ks else gInF (moreOf row i) ks ((moreOf row i).length + 1)
noncomputable def gFold (row : List Nat) (i : Nat) : List (List Nat) := (List.range i).foldl (gOut row) []
/-- _law_grown -/
noncomputable def grown (row : List Nat) : List (List Nat) := gFold row (row.length + 1)
theorem gInF_succ (more ks j) : gInF more ks (j + 1) = gIn more (gInF more ks j) j := by
  unfold gInF; rw [List.range_succ, List.foldl_append]; rfl
theorem gFold_succ (row i) : gFold row (i + 1) = gOut row (gFold row i) i := by
  unfold gFold; rw [List.range_succ, List.foldl_append]; rfl
/-- short lists of good texts -/
noncomputable def GoodK (c : Nat) (ks : List (List Nat)) : Prop := ks.length ≤ c ∧ ∀ t ∈ ks, OkT t
theorem addT_good {c : Nat} {ks : List (List Nat)} {t : List Nat} (h : GoodK c ks) (ht : OkT t) : GoodK (c + 1) (addT ks t) := by
  unfold addT
  split
  · exact ⟨Nat.le_succ_of_le h.1, h.2⟩
  · unfold insT
    have hb := bisR_le ks t
    refine ⟨?_, ?_⟩
    · have := h.1
      simp only [List.length_append, List.length_take, List.length_cons, List.length_drop]; omega
    · intro x hx
      rcases List.mem_append.mp hx with hx | hx
      · exact h.2 x (List.mem_of_mem_take hx)
      · rcases List.mem_cons.mp hx with rfl | hx
        · exact ht
        · exact h.2 x (List.mem_of_mem_drop hx)
theorem GoodK.mono {c d : Nat} {ks : List (List Nat)} (h : GoodK c ks) (hd : c ≤ d) : GoodK d ks := ⟨Nat.le_trans h.1 hd, h.2⟩
noncomputable def Plain (x : List Nat) : Prop := ∀ c ∈ x, c < 128
theorem plain_put {x : List Nat} (h : Plain x) (i c : Nat) (hc : c < 128) : Plain (x.take i ++ [c] ++ x.drop i) := by
  intro d hd
  rcases List.mem_append.mp hd with hd | hd
  · rcases List.mem_append.mp hd with hd | hd
    · exact h d (List.mem_of_mem_take hd)
    · rw [List.mem_singleton.mp hd]; exact hc
  · exact h d (List.mem_of_mem_drop hd)
theorem put_len (x : List Nat) (i c : Nat) : (x.take i ++ [c] ++ x.drop i).length = x.length + 1 := by
  simp only [List.length_append, List.length_take, List.length_drop, List.length_cons, List.length_nil]; omega
theorem gIn_good {more : List Nat} {ks : List (List Nat)} {c : Nat} (hm : Plain more) (hl : more.length ≤ 300) (h : GoodK c ks) (j : Nat) : GoodK (c + 1) (gIn more ks j) := by
  unfold gIn
  split
  · exact h.mono (Nat.le_succ c)
  · exact addT_good h ⟨plain_put hm j 41 (by decide), by rw [put_len]; omega⟩
theorem gInF_good {more : List Nat} {ks : List (List Nat)} {c : Nat} (hm : Plain more) (hl : more.length ≤ 300) (h : GoodK c ks) : ∀ j, GoodK (c + j) (gInF more ks j)
  | 0 => h
  | j + 1 => by rw [gInF_succ]; exact gIn_good hm hl (gInF_good hm hl h j) j
theorem gOut_good {row : List Nat} {ks : List (List Nat)} {c : Nat} (hm : Plain row) (hl : row.length ≤ 200) (h : GoodK c ks) (i : Nat) : GoodK (c + (row.length + 2)) (gOut row ks i) := by
  unfold gOut
  split
  · exact h.mono (by omega)
  · have e : (moreOf row i).length = row.length + 1 := put_len row i 40
    have := gInF_good (more := moreOf row i) (plain_put hm i 40 (by decide)) (by rw [e]; omega) h ((moreOf row i).length + 1)
    rw [e] at this
    rw [e]; exact this
theorem gFold_good {row : List Nat} (hm : Plain row) (hl : row.length ≤ 200) : ∀ i, GoodK (i * (row.length + 2)) (gFold row i)
  | 0 => ⟨by simp [gFold], by simp [gFold]⟩
  | i + 1 => by
    rw [gFold_succ, Nat.succ_mul]
    exact gOut_good hm hl (gFold_good hm hl i) i

theorem insR_map (xs : List (List Nat × Tok)) (p : List Nat × Tok) : (insR xs p).map (·.1) = insT (xs.map (·.1)) p.1 := by
  unfold insR insT
  rw [List.map_append, List.map_cons, List.map_take, List.map_drop]
/-- what a call of f with vs gives: a new list of texts -/
abbrev GivesL (w : World) (mean : ExcName → Option Value) (mg mb : Str → Option Value) (f : Addr) (d u : Nat) (vs : List Value) (ks : List (List Nat)) : Prop :=
  ∀ (dp un : Nat) (gd : Option (List Code)) (cn : Str) (cs : Scope) (a : Addr) (ccd : Value) (cl : List (Str × Addr)) (outer : List Env) (A₀ : Around) (base h₀ : Heap) (L : Addr) (m : Str → Option Value) (news : List (Addr × Obj)) (s : Shared) (Q E : Value → Shared → Prop),
    Below A₀ base outer h₀ → Fr h₀ L s.heap m → (hd.heap_39 w.params).In h₀ → News h₀ L s.heap news →
    Top hd.view_39 (looseW hd.view_39 [Str.ofString "insort_right", Str.ofString "bisect_right", Str.ofString "bisect_left"]) mean mg mb h₀ →
    cs.kind = .function → dp + d < recursionLimit → un + u < cLine →
    (∀ (lR : Addr) (n : Nat) (xs : List (List Nat × Tok)) (h' : Heap) (tk' : Nat), xs.map (·.1) = ks → (∀ p ∈ news, p.1 < lR) → Fr h₀ L h' m → News h₀ L h' ((lR, listOf (xs.map sv).toArray n) :: news) → Q (.ref lR) { s with heap := h', toks := tk' }) →
    wpAny (model PySem.Challenge.rw_rw0075_01.row.prog w) (ktrTop dp un gd cn cs L a ccd cl outer) (call (.ref f) vs) Q E s

theorem grown_gives (w : World) (mean mg mb) (row : List Nat) (tx : Tok) (hrow : Plain row) (hlen : row.length ≤ 12) :
    GivesL w mean mg mb 97 8 300 [.str (S row) tx] (grown row) := by
  unfold GivesL
  k_fill
  intro dp un gd cn cs a ccd cl outer A₀ base h₀ L m news s Q E B F X N T hk hdp hu hret
  refine wpAny_call ?_
  refine' code_def (binds := [(Str.ofString "row", .str (S row) tx)]) B F X N T rfl rfl hk ?k6 ?k7 ?k8 ?k9 ?kB ?_ ?c2 ?c3 ?c4 ?c5
  (case k6 => k_is)
  (case k7 => k_is)
  (case k8 => ktr_room)
  (case k9 => (refine' kp_binds ?kx ?ke; (case kx => k_in); (case ke => exact fun _ => rfl)))
  (case c5 => decide)
  (case kB => exact locs rfl)
  (case c2 => exact rfl)
  (case c3 => exact rfl)
  (case c4 => exact rfl)
  intro g' L' h' FG' F' N' B' X' T'
  (try dsimp only)
  (try k_lift B')
  (try k_fold)
  k_with_none
  k_with "mine lit" => (first | (with_reducible exact rfl) | exact lit_e | exact lit_o | exact lit_c | exact lit_b | exact lit_q | exact lit_zy | exact lit_Zx)
  k_with "mine size" => (first | omega | (simp only [List.length_append, List.length_cons, List.length_nil, List.length_replicate, List.length_take, List.length_drop]; omega))
  k_with "binaryOp Add str str" => (k_here; (with_reducible show wpAny _ _ (binaryOp Operator.Add (Value.str _ _) (Value.str _ _)) _ _ _); k_dflt (refine' addS ?zzhx ?zzhy ?zzhz ?_; (case zzhx => walk_at "mine lit"); (case zzhy => walk_at "mine lit"); (case zzhz => walk_at "mine size")); intro _ _)
  k_with "inplaceOp Add str str" => (k_here; (with_reducible show wpAny _ _ (inplaceOp Operator.Add (Value.str _ _) (Value.str _ _)) _ _ _); k_dflt (refine' iaddS ?zzhx ?zzhy ?zzhz ?_; (case zzhx => walk_at "mine lit"); (case zzhy => walk_at "mine lit"); (case zzhz => walk_at "mine size")); intro _ _)
  k_with "binaryOp Mult str int" => (k_here; (with_reducible show wpAny _ _ (binaryOp Operator.Mult (Value.str _ _) (Value.int _ _)) _ _ _); k_dflt (refine' mulS ?zzhx ?zzh0 ?zzh1 ?_; (case zzhx => first | (with_reducible exact rfl) | exact lit_o | exact lit_c); (case zzh0 => omega); (case zzh1 => omega)); intro _ _)
  k_with "compareOp Eq str str" => (k_here; (with_reducible show wpAny _ _ (compareOp CmpOp.Eq (Value.str _ _) (Value.str _ _)) _ _ _); k_dflt (refine' eqS ?zzhx ?zzhy ?_; (case zzhx => walk_at "mine lit"); (case zzhy => walk_at "mine lit")))
  k_with "compareOp NotEq str str" => (k_here; (with_reducible show wpAny _ _ (compareOp CmpOp.NotEq (Value.str _ _) (Value.str _ _)) _ _ _); k_dflt (refine' neS ?zzhx ?zzhy ?_; (case zzhx => walk_at "mine lit"); (case zzhy => walk_at "mine lit")))
  k_with "call builtin:len" => (k_here; (with_reducible show wpAny _ _ (call (Value.builtin "len") [Value.str _ _]) _ _ _); k_dflt (refine' lenS ?zzhx ?zzhz ?_; (case zzhx => first | (with_reducible exact rfl) | exact lit_e); (case zzhz => walk_at "mine size")); intro _ _)
  k_with "truthy str" => (k_here; (with_reducible show wpAny _ _ (PySem.truthy (Value.str _ _)) _ _ _); k_dflt (refine' truthS ?zzhx ?zzhz ?_; (case zzhx => first | (with_reducible exact rfl) | exact lit_e); (case zzhz => walk_at "mine size")); intro _)
  k_with "mine body 0" => (k_here; (with_reducible show wpAny _ _ (subscriptTail _ _ (Value.str _ _) (Value.int _ _)) _ _ _); first | (k_dflt (refine' itemS ?zzhx ?zzhz ?zzh0 ?zzh1 ?_ ?zzhs ?zzht; (case zzhx => with_reducible exact rfl); (case zzhs => with_unfolding_all rfl); (case zzht => kmk_pure); (case zzhz => walk_at "mine size"); (case zzh0 => first | omega | decide); (case zzh1 => first | omega | exact drop_ne (by assumption) (by omega) | (simp only [List.length_append, List.length_cons, List.length_nil, List.length_replicate, List.length_take, List.length_drop]; omega))); intro _ _) | (k_dflt (refine' itemSn ?zzhx ?zzhz ?zzh0 ?zzh1 ?_ ?zzhs ?zzht; (case zzhx => with_reducible exact rfl); (case zzhs => with_unfolding_all rfl); (case zzht => kmk_pure); (case zzhz => walk_at "mine size"); (case zzh0 => first | omega | decide); (case zzh1 => walk_at "mine size")); intro _ _))
  k_with "subscriptTail Name Name str int" => walk_at "mine body 0"
  k_with "subscriptTail Name BinOp str int" => walk_at "mine body 0"
  k_with "subscriptTail Name Constant str int" => walk_at "mine body 0"
  k_with "subscriptTail" => walk_at "mine body 0"
  k_with "mine body 1" => (k_here; (with_reducible show wpAny _ _ (subscriptTail _ (PySem.Expr.Slice _ _ none _) (Value.str _ _) (Value.ref _)) _ _ _); first | (k_dflt (refine' sliceS_run ?zzF ?zzN ?zzhx ?zzhz ?zzh0 ?zzh1 ?_ ?zzhs ?zzht; (case zzF => k_asm); (case zzN => k_asm); (case zzhx => with_reducible exact rfl); (case zzhs => with_unfolding_all rfl); (case zzht => kmk_pure); (case zzhz => walk_at "mine size"); (case zzh0 => omega); (case zzh1 => omega)); intro _ _ _ _ _) | (k_dflt (refine' sliceS_from ?zzF ?zzN ?zzhx ?zzhz ?zzh0 ?_ ?zzhs ?zzht; (case zzF => k_asm); (case zzN => k_asm); (case zzhx => with_reducible exact rfl); (case zzhs => with_unfolding_all rfl); (case zzht => kmk_pure); (case zzhz => walk_at "mine size"); (case zzh0 => omega)); intro _ _ _ _ _) | (k_dflt (refine' sliceS_to ?zzF ?zzN ?zzhx ?zzhz ?zzh0 ?_ ?zzhs ?zzht; (case zzF => k_asm); (case zzN => k_asm); (case zzhx => with_reducible exact rfl); (case zzhs => with_unfolding_all rfl); (case zzht => kmk_pure); (case zzhz => walk_at "mine size"); (case zzh0 => omega)); intro _ _ _ _ _) | (k_dflt (refine' sliceS_nn ?zzF ?zzN ?zzhx ?zzhz ?_ ?zzhs ?zzht; (case zzF => k_asm); (case zzN => k_asm); (case zzhx => with_reducible exact rfl); (case zzhs => with_unfolding_all rfl); (case zzht => kmk_pure); (case zzhz => walk_at "mine size")); intro _ _ _ _ _) | (k_dflt (refine' sliceS_toNeg ?zzF ?zzN ?zzhx ?zzhz ?zzh0 ?_ ?zzhs ?zzht; (case zzF => k_asm); (case zzN => k_asm); (case zzhx => with_reducible exact rfl); (case zzhs => with_unfolding_all rfl); (case zzht => kmk_pure); (case zzhz => walk_at "mine size"); (case zzh0 => omega)); intro _ _ _ _ _) | (k_dflt (refine' sliceS_fromNeg ?zzF ?zzN ?zzhx ?zzhz ?zzh0 ?_ ?zzhs ?zzht; (case zzF => k_asm); (case zzN => k_asm); (case zzhx => with_reducible exact rfl); (case zzhs => with_unfolding_all rfl); (case zzht => kmk_pure); (case zzhz => walk_at "mine size"); (case zzh0 => omega)); intro _ _ _ _ _))
  k_with "subscriptTail Name Slice str ref" => walk_at "mine body 1"
  k_with "subscriptTail" => walk_at "mine body 1"
  k_with "compareOp NotIn str str" => (k_here; (with_reducible show wpAny _ _ (compareOp CmpOp.NotIn (Value.str _ _) (Value.str _ _)) _ _ _); k_dflt (refine' notInS ?zzhx ?zzhy ?_; (case zzhx => with_reducible exact rfl); (case zzhy => first | exact lit_q | exact lit_b)))
  k_with "exec For Tuple Call cons nil" => (k_extra "mine for"; walk_say "MINE for")
  k_with "pyIter ref" => (k_extra "mine iter"; walk_say "MINE iter")
  k_with "call ref" => (k_extra "mine call"; walk_say "MINE call")
  k_with "call builtin:list.append" => (k_extra "mine append"; walk_say "MINE append")
  k_with "call builtin:str.join" => (k_extra "mine join"; walk_say "MINE join")
  k_with "InvEndN" => (refine Hold.out ?_; walk_say "MINE end")
  k_with "newList" => (k_extra "mine newlist"; walk_say "MINE newlist")
  k_with "mine newlist" =>
    k_here
    k_dflt (refine' newlistS ?F ?N ?z ?_)
    (case F => k_asm)
    (case N => k_asm)
    (case z => decide)
    intro lR h9 F9 N9 l9
    try k_sweep
  k_with "mine iter" => refine Hold.out ?_
  k_steps
  refine Hold.mk ?_
  k_here
  rename Fr _ _ _ _ => lF
  rename News _ _ _ _ => lN
  rename IsRange _ _ _ _ _ _ _ _ => rgX
  with_unfolding_all refine' kst_range (n := row.length + 1) (fun c : List (List Nat × Tok) × Nat => (lR, listOf (c.1.map sv).toArray c.2) :: news) (fun _ => []) (fun _ => True) [Str.ofString "more", Str.ofString "j", Str.ofString "text"] (fun pre c => c.1.map (·.1) = gFold row pre.length) ([], 0) (by rfl) rgX ?kzs ?kzr lF ?kn trivial ?kk ?kp ?_ ?_
  (case kn => (with_unfolding_all exact lN))
  (case kk => kst_all)
  (case kp => rfl)
  (case kzs => exact small_one (by omega) (by omega) (by omega) (by omega))
  (case kzr => exact (rangeSize_nat _ _).trans (by omega))
  · clear lF lN
    intro ⟨xs, nn⟩ pre k t9 u9 h8 tk8 own hk9 hlt hoff _ hP F8 N8
    dsimp only at hP F8 N8
    generalize hpl9 : pre.length = i at hk9 hlt hP
    obtain rfl : k = (i : Int) := by omega
    try k_fold
    k_steps
    · have hq : List.take (((i : Int) + 1).toNat - ((i : Int)).toNat) (List.drop ((i : Int)).toNat row) = [40] := by assumption
      rw [show ((i : Int) + 1).toNat - ((i : Int)).toNat = 1 by omega, Int.toNat_natCast] at hq
      rename News _ _ _ _ => nE
      refine kst_end (xs, nn) (by assumption) nE (by first | kst_in | kst_inAny) (by first | (intro p hp; kst_mem) | kst_anyIn) (by rfl) trivial (by kst_all) (by intro z h1 h2 h3; simp only [List.contains_cons, List.contains_nil, Bool.or_false, Bool.or_eq_false_iff, beq_eq_false_iff_ne, ne_eq] at h3; simp [kstB, h1, h3]) ?_
      have hl : (pre ++ [(i : Int)]).length = i + 1 := by simp [hpl9]
      rw [hl, gFold_succ, gOut, if_pos hq, hP]
    · have hq : ¬ List.take (((i : Int) + 1).toNat - ((i : Int)).toNat) (List.drop ((i : Int)).toNat row) = [40] := by assumption
      rw [show ((i : Int) + 1).toNat - ((i : Int)).toNat = 1 by omega, Int.toNat_natCast] at hq
      refine Hold.mk ?_
      k_here
      have hM : row.take ((i : Int)).toNat ++ [40] ++ row.drop ((i : Int)).toNat = moreOf row i := by unfold moreOf; rw [Int.toNat_natCast]
      rename Fr _ _ _ _ => lF
      rename News _ _ _ _ => lN
      rename IsRange _ _ _ _ _ _ _ _ => rgX
      rw [hM] at lF rgX
      clear hM
      have hgoodO := gFold_good hrow (by omega) i
      have hmul : i * (row.length + 2) ≤ 12 * 14 := Nat.mul_le_mul (by omega) (by omega)
      have hML : (moreOf row i).length = row.length + 1 := put_len row i 40
      have hMP : Plain (moreOf row i) := plain_put hrow i 40 (by decide)
      have hrange : ∀ j, GoodK (i * (row.length + 2) + j) (gInF (moreOf row i) (gFold row i) j) := gInF_good hMP (by omega) hgoodO
      have hsuccO := gFold_succ row i
      unfold gOut at hsuccO
      rw [if_neg hq] at hsuccO
      have hne0 : ∀ p ∈ news ++ own, p.1 ≠ lR := by
        intro p hp
        rcases List.mem_append.mp hp with hp | hp
        · exact Nat.ne_of_lt (l9 p hp)
        · exact hoff p hp lR (List.mem_cons_self ..)
      generalize moreOf row i = more at hML hMP hrange hsuccO lF rgX
      with_unfolding_all refine' kst_range (n := more.length + 1) (fun c : List (List Nat × Tok) × Nat => (lR, listOf (c.1.map sv).toArray c.2) :: (news ++ own)) (fun _ => []) (fun _ => True) [Str.ofString "text"] (fun pre c => c.1.map (·.1) = gInF more (gFold row i) pre.length) (xs, nn) (by rfl) rgX ?kzs ?kzr lF ?kn trivial ?kk ?kp ?_ ?_
      (case kn => (with_unfolding_all exact lN))
      (case kk => kst_all)
      (case kp => exact hP)
      (case kzs => exact small_one (by omega) (by omega) (by omega) (by omega))
      (case kzr => exact (rangeSize_nat _ _).trans (by omega))
      · clear lF lN rgX hP
        intro ⟨xs, nn⟩ pre k t7 u7 h7 tk7 own7 hk7 hlt7 hoff7 _ hP F7 N7
        dsimp only at hP F7 N7
        have hg7 := hrange pre.length
        have hs7 := gInF_succ more (gFold row i) pre.length
        generalize hpl : pre.length = j at hk7 hlt7 hP hg7 hs7
        obtain rfl : k = (j : Int) := by omega
        rw [← hP] at hg7 hs7
        have hlen7 : xs.length ≤ 1000 := by have := hg7.1; rw [List.length_map] at this; omega
        have hxs7 : ∀ p ∈ xs, OkT p.1 := fun p hp => hg7.2 p.1 (List.mem_map_of_mem hp)
        have hj0 : ((j : Int)).toNat = j := Int.toNat_natCast j
        have hne7 : ∀ p ∈ (news ++ own) ++ own7, p.1 ≠ lR := by
          intro p hp
          rcases List.mem_append.mp hp with hp | hp
          · exact hne0 p hp
          · exact hoff7 p hp lR (List.mem_cons_self ..)
        have hokt : OkT (more.take ((j : Int)).toNat ++ [41] ++ more.drop ((j : Int)).toNat) := ⟨plain_put hMP _ 41 (by decide), by rw [put_len]; omega⟩
        try k_fold
        k_with "mine call" => refine Hold.out ?_
        k_steps
        · have hq7 : List.drop ((List.take ((j : Int)).toNat more).length - (-(-1 : Int)).toNat) (List.take ((j : Int)).toNat more) = [41] := by assumption
          rw [hj0] at hq7
          replace hq7 : (more.take j).drop ((more.take j).length - 1) = [41] := hq7
          rename News _ _ _ _ => nE
          refine kst_end (xs, nn) (by assumption) nE (by first | kst_in | kst_inAny) (by first | (intro p hp; kst_mem) | kst_anyIn) (by rfl) trivial (by kst_all) (by intro z h1 h2 h3; simp only [List.contains_cons, List.contains_nil, Bool.or_false, beq_eq_false_iff_ne, ne_eq] at h3; simp [kstB, h1, h3]) ?_
          have hl : (pre ++ [(j : Int)]).length = j + 1 := by simp [hpl]
          rw [hl, hs7, gIn, if_pos hq7]
        · have hq7 : ¬ List.drop ((List.take ((j : Int)).toNat more).length - (-(-1 : Int)).toNat) (List.take ((j : Int)).toNat more) = [41] := by assumption
          rw [hj0] at hq7
          replace hq7 : ¬ (more.take j).drop ((more.take j).length - 1) = [41] := hq7
          rw [gIn, if_neg hq7] at hs7
          refine Hold.mk ?_
          k_here
          k_dflt (refine' use_gives (found_gives w mean mg mb lR xs nn _ _ hlen7 hxs7 hokt) ?k1 ?k2 ?k3 ?k4 ?k5 rfl (.head _) ?k7 ?k8 ?_)
          (case k1 => k_asm)
          (case k2 => k_asm)
          (case k3 => k_asm)
          (case k4 => k_asm)
          (case k5 => k_asm)
          (case k7 => ktr_room)
          (case k8 => ktr_units)
          intro t6 h6 tk6 F6 N6
          try dsimp only [qk]
          try k_fold
          k_steps
          · have hf : (xs.map (·.1))[bisL (xs.map (·.1)) (more.take ((j : Int)).toNat ++ [41] ++ more.drop ((j : Int)).toNat)]? = some (more.take ((j : Int)).toNat ++ [41] ++ more.drop ((j : Int)).toNat) := by assumption
            rename News _ _ _ _ => nE
            refine kst_end (xs, nn) (by assumption) nE (by first | kst_in | kst_inAny) (by first | (intro p hp; kst_mem) | kst_anyIn) (by rfl) trivial (by kst_all) (by intro z h1 h2 h3; simp only [List.contains_cons, List.contains_nil, Bool.or_false, beq_eq_false_iff_ne, ne_eq] at h3; simp [kstB, h1, h3]) ?_
            have hl : (pre ++ [(j : Int)]).length = j + 1 := by simp [hpl]
            rw [hj0] at hf
            rw [hl, hs7, addT, if_pos hf]
          · have hf : ¬ (xs.map (·.1))[bisL (xs.map (·.1)) (more.take ((j : Int)).toNat ++ [41] ++ more.drop ((j : Int)).toNat)]? = some (more.take ((j : Int)).toNat ++ [41] ++ more.drop ((j : Int)).toNat) := by assumption
            refine Hold.mk ?_
            k_here
            k_dflt (refine' use_givesN (ins_gives w mean mg mb lR xs nn _ _ hlen7 _ _ (Upd.head hne7)) ?k1 ?k2 ?k3 ?k4 ?k5 rfl ?k7 ?k8 ?_)
            (case k1 => k_asm)
            (case k2 => k_asm)
            (case k3 => k_asm)
            (case k4 => k_asm)
            (case k5 => k_asm)
            (case k7 => ktr_room)
            (case k8 => ktr_units)
            intro t5 h5 tk5 F5 N5
            try dsimp only [qk]
            try k_fold
            k_steps
            rename News _ _ _ _ => nE
            refine kst_end (insR xs _, nn + 1) (by assumption) nE (by first | kst_in | kst_inAny) (by first | (intro p hp; kst_mem) | kst_anyIn) (by rfl) trivial (by kst_all) (by intro z h1 h2 h3; simp only [List.contains_cons, List.contains_nil, Bool.or_false, beq_eq_false_iff_ne, ne_eq] at h3; simp [kstB, h1, h3]) ?_
            have hl : (pre ++ [(j : Int)]).length = j + 1 := by simp [hpl]
            rw [hj0] at hf
            rw [hl, hs7, addT, if_neg hf, insR_map, hj0]
      · clear lF lN rgX hP
        intro ⟨xs, nn⟩ u7 h7 tk7 _ hP F7 N7
        dsimp only at hP F7 N7
        rw [rangeKs_length] at hP
        try k_fold
        k_steps
        rename News _ _ _ _ => nE
        refine kst_end (xs, nn) (by assumption) nE (by first | kst_in | kst_inAny) (by first | (intro p hp; kst_mem) | kst_anyIn) (by rfl) trivial (by kst_all) (by intro z h1 h2 h3; simp only [List.contains_cons, List.contains_nil, Bool.or_false, Bool.or_eq_false_iff, beq_eq_false_iff_ne, ne_eq] at h3; simp [kstB, h1, h3]) ?_
        have hl : (pre ++ [(i : Int)]).length = i + 1 := by simp [hpl9]
        rw [hl, hsuccO, hP]
  · clear lF lN
    intro ⟨xs, nn⟩ u9 h8 tk8 _ hP F8 N8
    dsimp only at hP F8 N8
    rw [rangeKs_length] at hP
    try k_fold
    k_steps
    exact hret lR nn xs _ _ hP l9 (by assumption) (by assumption)
end

section
noncomputable def lowC (c : Nat) : Nat := if c = 90 then 122 else c
/-- the signs met: brackets, zy, Zx -/
noncomputable def Sign6 (c : Nat) : Prop := c = 40 ∨ c = 41 ∨ c = 122 ∨ c = 121 ∨ c = 90 ∨ c = 120
theorem low_S {c : Nat} (h : Sign6 c) : Txt.lower (S [c]) = S [lowC c] := by
  rcases h with rfl | rfl | rfl | rfl | rfl | rfl <;> decide +kernel
/-- _substitution_cost -/
noncomputable def subC (c d : Nat) : Int := if c = d then 0 else if lowC c = lowC d then 1 else 2
section
variable {prog : Program} {w : World} {A : Around} {E : Value → Shared → Prop} {s : Shared} {X : Str} {t : Tok} {Q : Value → Shared → Prop}
theorem lowS {c : Nat} (hx : X = S [c]) (hc : Sign6 c) (h : ∀ t' k, Q (.str (S [lowC c]) t') { s with toks := k }) : wpAny (model prog w) A (call (.builtin "str.lower") [.str X t]) Q E s := by
  subst hx
  refine SCL.lower (by rw [S_len]; simp) fun _ => ?_
  rw [low_S hc]; exact h _ _
end
theorem subst_gives (w : World) (mean mg mb) (c d : Nat) (tc td : Tok) (hc : Sign6 c) (hd' : Sign6 d) :
    Gives w mean mg mb 69 1 20 (fun _ => True) [.str (S [c]) tc, .str (S [d]) td] (fun t => .int (subC c d) t) := by
  unfold Gives
  k_fill
  intro dp un gd cn cs a ccd cl outer A₀ base h₀ L m news s Q E B F X N T hk hpre hdp hu hret
  refine wpAny_call ?_
  refine' code_def (binds := [(Str.ofString "ch_a", .str (S [c]) tc), (Str.ofString "ch_b", .str (S [d]) td)]) B F X N T rfl rfl hk ?k6 ?k7 ?k8 ?k9 ?kB ?_ ?c2 ?c3 ?c4 ?c5
  (case k6 => k_is)
  (case k7 => k_is)
  (case k8 => ktr_room)
  (case k9 => (refine' kp_binds ?kx ?ke; (case kx => k_in); (case ke => exact fun _ => rfl)))
  (case c5 => decide)
  (case kB => exact locs rfl)
  (case c2 => exact rfl)
  (case c3 => exact rfl)
  (case c4 => exact rfl)
  intro g' L' h' FG' F' N' B' X' T'
  (try dsimp only)
  (try k_lift B')
  (try k_fold)
  k_with_none
  k_with "mine lit" => (first | (with_reducible exact rfl) | exact lit_e | exact lit_o | exact lit_c | exact lit_b | exact lit_q | exact lit_zy | exact lit_Zx)
  k_with "mine size" => (first | omega | (simp only [List.length_append, List.length_cons, List.length_nil, List.length_replicate, List.length_take, List.length_drop]; omega))
  k_with "binaryOp Add str str" => (k_here; (with_reducible show wpAny _ _ (binaryOp Operator.Add (Value.str _ _) (Value.str _ _)) _ _ _); k_dflt (refine' addS ?zzhx ?zzhy ?zzhz ?_; (case zzhx => walk_at "mine lit"); (case zzhy => walk_at "mine lit"); (case zzhz => walk_at "mine size")); intro _ _)
  k_with "inplaceOp Add str str" => (k_here; (with_reducible show wpAny _ _ (inplaceOp Operator.Add (Value.str _ _) (Value.str _ _)) _ _ _); k_dflt (refine' iaddS ?zzhx ?zzhy ?zzhz ?_; (case zzhx => walk_at "mine lit"); (case zzhy => walk_at "mine lit"); (case zzhz => walk_at "mine size")); intro _ _)
  k_with "binaryOp Mult str int" => (k_here; (with_reducible show wpAny _ _ (binaryOp Operator.Mult (Value.str _ _) (Value.int _ _)) _ _ _); k_dflt (refine' mulS ?zzhx ?zzh0 ?zzh1 ?_; (case zzhx => first | (with_reducible exact rfl) | exact lit_o | exact lit_c); (case zzh0 => omega); (case zzh1 => omega)); intro _ _)
  k_with "compareOp Eq str str" => (k_here; (with_reducible show wpAny _ _ (compareOp CmpOp.Eq (Value.str _ _) (Value.str _ _)) _ _ _); k_dflt (refine' eqS ?zzhx ?zzhy ?_; (case zzhx => walk_at "mine lit"); (case zzhy => walk_at "mine lit")))
  k_with "compareOp NotEq str str" => (k_here; (with_reducible show wpAny _ _ (compareOp CmpOp.NotEq (Value.str _ _) (Value.str _ _)) _ _ _); k_dflt (refine' neS ?zzhx ?zzhy ?_; (case zzhx => walk_at "mine lit"); (case zzhy => walk_at "mine lit")))
  k_with "call builtin:len" => (k_here; (with_reducible show wpAny _ _ (call (Value.builtin "len") [Value.str _ _]) _ _ _); k_dflt (refine' lenS ?zzhx ?zzhz ?_; (case zzhx => first | (with_reducible exact rfl) | exact lit_e); (case zzhz => walk_at "mine size")); intro _ _)
  k_with "truthy str" => (k_here; (with_reducible show wpAny _ _ (PySem.truthy (Value.str _ _)) _ _ _); k_dflt (refine' truthS ?zzhx ?zzhz ?_; (case zzhx => first | (with_reducible exact rfl) | exact lit_e); (case zzhz => walk_at "mine size")); intro _)
  k_with "mine body 0" => (k_here; (with_reducible show wpAny _ _ (subscriptTail _ _ (Value.str _ _) (Value.int _ _)) _ _ _); first | (k_dflt (refine' itemS ?zzhx ?zzhz ?zzh0 ?zzh1 ?_ ?zzhs ?zzht; (case zzhx => with_reducible exact rfl); (case zzhs => with_unfolding_all rfl); (case zzht => kmk_pure); (case zzhz => walk_at "mine size"); (case zzh0 => first | omega | decide); (case zzh1 => first | omega | exact drop_ne (by assumption) (by omega) | (simp only [List.length_append, List.length_cons, List.length_nil, List.length_replicate, List.length_take, List.length_drop]; omega))); intro _ _) | (k_dflt (refine' itemSn ?zzhx ?zzhz ?zzh0 ?zzh1 ?_ ?zzhs ?zzht; (case zzhx => with_reducible exact rfl); (case zzhs => with_unfolding_all rfl); (case zzht => kmk_pure); (case zzhz => walk_at "mine size"); (case zzh0 => first | omega | decide); (case zzh1 => walk_at "mine size")); intro _ _))
  k_with "subscriptTail Name Name str int" => walk_at "mine body 0"
  k_with "subscriptTail Name BinOp str int" => walk_at "mine body 0"
  k_with "subscriptTail Name Constant str int" => walk_at "mine body 0"
  k_with "subscriptTail" => walk_at "mine body 0"
  k_with "mine body 1" => (k_here; (with_reducible show wpAny _ _ (subscriptTail _ (PySem.Expr.Slice _ _ none _) (Value.str _ _) (Value.ref _)) _ _ _); first | (k_dflt (refine' sliceS_run ?zzF ?zzN ?zzhx ?zzhz ?zzh0 ?zzh1 ?_ ?zzhs ?zzht; (case zzF => k_asm); (case zzN => k_asm); (case zzhx => with_reducible exact rfl); (case zzhs => with_unfolding_all rfl); (case zzht => kmk_pure); (case zzhz => walk_at "mine size"); (case zzh0 => omega); (case zzh1 => omega)); intro _ _ _ _ _) | (k_dflt (refine' sliceS_from ?zzF ?zzN ?zzhx ?zzhz ?zzh0 ?_ ?zzhs ?zzht; (case zzF => k_asm); (case zzN => k_asm); (case zzhx => with_reducible exact rfl); (case zzhs => with_unfolding_all rfl); (case zzht => kmk_pure); (case zzhz => walk_at "mine size"); (case zzh0 => omega)); intro _ _ _ _ _) | (k_dflt (refine' sliceS_to ?zzF ?zzN ?zzhx ?zzhz ?zzh0 ?_ ?zzhs ?zzht; (case zzF => k_asm); (case zzN => k_asm); (case zzhx => with_reducible exact rfl); (case zzhs => with_unfolding_all rfl); (case zzht => kmk_pure); (case zzhz => walk_at "mine size"); (case zzh0 => omega)); intro _ _ _ _ _) | (k_dflt (refine' sliceS_nn ?zzF ?zzN ?zzhx ?zzhz ?_ ?zzhs ?zzht; (case zzF => k_asm); (case zzN => k_asm); (case zzhx => with_reducible exact rfl); (case zzhs => with_unfolding_all rfl); (case zzht => kmk_pure); (case zzhz => walk_at "mine size")); intro _ _ _ _ _) | (k_dflt (refine' sliceS_toNeg ?zzF ?zzN ?zzhx ?zzhz ?zzh0 ?_ ?zzhs ?zzht; (case zzF => k_asm); (case zzN => k_asm); (case zzhx => with_reducible exact rfl); (case zzhs => with_unfolding_all rfl); (case zzht => kmk_pure); (case zzhz => walk_at "mine size"); (case zzh0 => omega)); intro _ _ _ _ _) | (k_dflt (refine' sliceS_fromNeg ?zzF ?zzN ?zzhx ?zzhz ?zzh0 ?_ ?zzhs ?zzht; (case zzF => k_asm); (case zzN => k_asm); (case zzhx => with_reducible exact rfl); (case zzhs => with_unfolding_all rfl); (case zzht => kmk_pure); (case zzhz => walk_at "mine size"); (case zzh0 => omega)); intro _ _ _ _ _))
  k_with "subscriptTail Name Slice str ref" => walk_at "mine body 1"
  k_with "subscriptTail" => walk_at "mine body 1"
  k_with "compareOp NotIn str str" => (k_here; (with_reducible show wpAny _ _ (compareOp CmpOp.NotIn (Value.str _ _) (Value.str _ _)) _ _ _); k_dflt (refine' notInS ?zzhx ?zzhy ?_; (case zzhx => with_reducible exact rfl); (case zzhy => first | exact lit_q | exact lit_b)))
  k_with "exec For Tuple Call cons nil" => (k_extra "mine for"; walk_say "MINE for")
  k_with "pyIter ref" => (k_extra "mine iter"; walk_say "MINE iter")
  k_with "call ref" => (k_extra "mine call"; walk_say "MINE call")
  k_with "call builtin:list.append" => (k_extra "mine append"; walk_say "MINE append")
  k_with "call builtin:str.join" => (k_extra "mine join"; walk_say "MINE join")
  k_with "InvEndN" => (refine Hold.out ?_; walk_say "MINE end")
  k_with "call builtin:str.lower" => (k_here; (with_reducible show wpAny _ _ (call (Value.builtin "str.lower") [Value.str _ _]) _ _ _); (refine' lowS ?zzhx ?zzhc ?_; (case zzhx => with_reducible exact rfl); (case zzhc => assumption)); intro _ _)
  k_steps
  · have h1 : [c] = [d] := by assumption
    have e : subC c d = 0 := by unfold subC; rw [if_pos (by simpa using h1)]
    rw [e] at hret
    exact hret _ _ _ (by assumption) (by assumption)
  · have h1 : ¬ [c] = [d] := by assumption
    have h2 : [lowC c] = [lowC d] := by assumption
    have e : subC c d = 1 := by unfold subC; rw [if_neg (by simpa using h1), if_pos (by simpa using h2)]
    rw [e] at hret
    exact hret _ _ _ (by assumption) (by assumption)
  · have h1 : ¬ [c] = [d] := by assumption
    have h2 : ¬ [lowC c] = [lowC d] := by assumption
    have e : subC c d = 2 := by unfold subC; rw [if_neg (by simpa using h1), if_neg (by simpa using h2)]
    rw [e] at hret
    exact hret _ _ _ (by assumption) (by assumption)

section
variable {prog : Program} {w : World} {A : Around} {E : Value → Shared → Prop} {s : Shared} {h₀ : Heap} {L : Addr} {m : Str → Option Value} {news : List (Addr × Obj)} {Q : Value → Shared → Prop}
theorem minS {a b : Int} {t u : Tok} (hh : A.handled = none) (F : Fr h₀ L s.heap m) (N : News h₀ L s.heap news) (h : ∀ t' h' tk, Fr h₀ L h' m → News h₀ L h' news → Q (.int (min a b) t') { s with heap := h', toks := tk }) :
    wpAny (model prog w) A (call (.builtin "min") [.int a t, .int b u]) Q E s := by
  refine min_two_N hh F N fun h' tk F' N' => ?_
  have e : (if b < a then b else a) = min a b := by split <;> omega
  rw [e]; exact h _ h' tk F' N'
noncomputable def evens (k : Nat) : List Int := (List.range k).map fun i => 2 + (i : Nat) * 2
theorem list_range2 {r : Addr} {k : Nat} {t u v : Tok} (hh : A.handled = none) (F : Fr h₀ L s.heap m) (N : News h₀ L s.heap news) (hr : IsRange s.heap r 2 (2 * ((k : Int) + 1)) 2 t u v) (hk1 : 1 ≤ k) (hk : k ≤ 1000)
    (h : ∀ D n vs h' tk, Fr h₀ L h' m → News h₀ L h' ((D, listOf (List.toArray vs) n) :: news) → (∀ p ∈ news, p.1 < D) → IntsAre vs (evens k) → Q (.ref D) { s with heap := h', toks := tk }) :
    wpAny (model prog w) A (call (.type "list") [.ref r]) Q E s := by
  have hn : Builtin.Range.rangeSize 2 (2 * ((k : Int) + 1)) 2 = (k : Int) := by
    unfold Builtin.Range.rangeSize
    rw [if_pos (by decide), if_pos (by omega)]; omega
  have hsm : Builtin.Range.small 2 (2 * ((k : Int) + 1)) 2 = true := by
    unfold Builtin.Range.small
    rw [hn]
    have e1 : Builtin.Range.rangeFitsLong 2 = true := by decide
    have e2 : Builtin.Range.rangeFitsLong (2 * ((k : Int) + 1)) = true := by
      unfold Builtin.Range.rangeFitsLong
      rw [Bool.and_eq_true]
      exact ⟨decide_eq_true (by omega), decide_eq_true (by omega)⟩
    have e3 : Builtin.Range.rangeFitsLong (k : Int) = true := by
      unfold Builtin.Range.rangeFitsLong
      rw [Bool.and_eq_true]
      exact ⟨decide_eq_true (by omega), decide_eq_true (by omega)⟩
    have e4 : Builtin.Range.rangeFitsLong (2 * ((k : Int) + 1) + (2 - 1)) = true := by
      unfold Builtin.Range.rangeFitsLong
      rw [Bool.and_eq_true]
      exact ⟨decide_eq_true (by omega), decide_eq_true (by omega)⟩
    rw [e1, e2, e3, if_pos (by decide), e4]
    simp
  refine list_rangeD hh F N hr hsm hn (by omega) ?_
  intro h' tk ys F' N' hkp hnone _ hP hC
  obtain ⟨n, N2, _⟩ := gn_enter hP F' N' hnone
  exact h _ n ys h' tk F' N2 (fun p hp => Heap.lt_size (N p hp).1) (by have q := hC.intsOf; rw [List.map_id'] at q; exact q)
end
/-- one turn of the inner loop: the row, distance, result, minimum -/
noncomputable def lvIn (A : List Nat) (bc : Nat) (c : List Int × Int × Int × Int) (k : Nat) : List Int × Int × Int × Int :=
  let r := min (min c.2.2.1 (c.1.getD k 0) + 2) (c.2.1 + subC bc (A.getD k 0))
  (c.1.set k r, c.1.getD k 0, r, min r c.2.2.2)
noncomputable def lvInF (A : List Nat) (bc : Nat) (c : List Int × Int × Int × Int) (n : Nat) : List Int × Int × Int × Int := (List.range n).foldl (lvIn A bc) c
theorem lvInF_succ (A bc c n) : lvInF A bc c (n + 1) = lvIn A bc (lvInF A bc c n) n := by
  unfold lvInF; rw [List.range_succ, List.foldl_append]; rfl
/-- one turn of the outer loop; none: 8 is told -/
noncomputable def lvOut (A B : List Nat) (c : Option (List Int × Int)) (j : Nat) : Option (List Int × Int) :=
  match c with
  | none => none
  | some (row, _) => let r := lvInF A (B.getD j 0) (row, (j : Int) * 2, (j : Int) * 2, 9223372036854775807) A.length
    if r.2.2.2 > 7 then none else some (r.1, r.2.2.1)
noncomputable def lvF (A B : List Nat) (n : Nat) : Option (List Int × Int) := (List.range n).foldl (lvOut A B) (some (evens A.length, 0))
theorem lvF_succ (A B n) : lvF A B (n + 1) = lvOut A B (lvF A B n) n := by
  unfold lvF; rw [List.range_succ, List.foldl_append]; rfl
theorem lvF_none (A B : List Nat) (n : Nat) (h : lvF A B n = none) : ∀ d, lvF A B (n + d) = none
  | 0 => h
  | d + 1 => by rw [← Nat.add_assoc, lvF_succ, lvF_none A B n h d]; rfl
noncomputable def levAB (A B : List Nat) : Int := match lvF A B B.length with | none => 8 | some (_, r) => r
end

section
/-- the length of the common beginning -/
noncomputable def comL : List Nat → List Nat → Nat
  | a :: x, b :: y => if a = b then comL x y + 1 else 0
  | _, _ => 0
theorem drop_one {x : List Nat} {k : Nat} (h : x.drop k ≠ []) : x.drop k = x.getD k 0 :: x.drop (k + 1) := by
  by_cases hl : k < x.length
  · rw [List.drop_eq_getElem_cons hl]
    simp [List.getD_eq_getElem?_getD, hl]
  · exact absurd (List.drop_of_length_le (by omega)) h
theorem com_step {x y : List Nat} {k : Nat} (hx : x.drop k ≠ []) (hy : y.drop k ≠ []) (h : x.getD k 0 = y.getD k 0) : comL (x.drop k) (y.drop k) = comL (x.drop (k + 1)) (y.drop (k + 1)) + 1 := by
  rw [drop_one hx, drop_one hy, comL, if_pos h]
theorem com_stop {x y : List Nat} {k : Nat} (hx : x.drop k ≠ []) (hy : y.drop k ≠ []) (h : ¬ x.getD k 0 = y.getD k 0) : comL (x.drop k) (y.drop k) = 0 := by
  rw [drop_one hx, drop_one hy, comL, if_neg h]
theorem com_nil {x y : List Nat} (h : x = [] ∨ y = []) : comL x y = 0 := by
  rcases h with rfl | rfl
  · cases y <;> rfl
  · cases x <;> rfl
theorem last_drop {l : List Nat} {k c : Nat} (h : l.drop k ≠ []) (hl : l.getLast? = some c) : (l.drop k).getD (((0 : Int) - 1) + ((l.drop k).length : Int)).toNat 0 = c := by
  have hn : (l.drop k).length ≠ 0 := fun e => h (List.length_eq_zero_iff.mp e)
  have e1 : (((0 : Int) - 1) + ((l.drop k).length : Int)).toNat = (l.drop k).length - 1 := by omega
  rw [e1, List.getD_eq_getElem?_getD, List.length_drop, List.getElem?_drop]
  rw [List.length_drop] at hn
  have e2 : k + (l.length - k - 1) = l.length - 1 := by omega
  rw [e2, ← List.getLast?_eq_getElem?, hl]; rfl
theorem levx_gives (w : World) (mean mg mb) (a9 b9 : List Nat) (ta tb tm : Tok) (hla : a9.length ≤ 12) (hlb : b9.length = a9.length + 2) (hne : a9 ≠ b9)
    (hab : (a9.drop (comL a9 b9)) ≠ []) (ha6 : ∀ c ∈ a9, Sign6 c) (hb6 : ∀ c ∈ b9, Sign6 c) (hl1 : a9.getLast? = some 121) (hl2 : b9.getLast? = some 120) :
    Gives w mean mg mb 76 4 100 (fun _ => True) [.str (S a9) ta, .str (S b9) tb, .int 7 tm] (fun t => .int (levAB (a9.drop (comL a9 b9)) (b9.drop (comL a9 b9))) t) := by
  unfold Gives
  k_fill
  intro dp un gd cn cs a ccd cl outer A₀ base h₀ L m news s Q E B F X N T hk hpre hdp hu hret
  refine wpAny_call ?_
  refine' code_def (binds := [(Str.ofString "a", .str (S a9) ta), (Str.ofString "b", .str (S b9) tb), (Str.ofString "max_cost", .int 7 tm)]) B F X N T rfl rfl hk ?k6 ?k7 ?k8 ?k9 ?kB ?_ ?c2 ?c3 ?c4 ?c5
  (case k6 => k_is)
  (case k7 => k_is)
  (case k8 => ktr_room)
  (case k9 => (refine' kp_binds ?kx ?ke; (case kx => k_in); (case ke => exact fun _ => rfl)))
  (case c5 => decide)
  (case kB => exact locs rfl)
  (case c2 => exact rfl)
  (case c3 => exact rfl)
  (case c4 => exact rfl)
  intro g' L' h' FG' F' N' B' X' T'
  (try dsimp only)
  (try k_lift B')
  (try k_fold)
  k_with_none
  k_with "mine lit" => (first | (with_reducible exact rfl) | exact lit_e | exact lit_o | exact lit_c | exact lit_b | exact lit_q | exact lit_zy | exact lit_Zx)
  k_with "mine size" => (first | omega | (simp only [List.length_append, List.length_cons, List.length_nil, List.length_replicate, List.length_take, List.length_drop]; omega))
  k_with "binaryOp Add str str" => (k_here; (with_reducible show wpAny _ _ (binaryOp Operator.Add (Value.str _ _) (Value.str _ _)) _ _ _); k_dflt (refine' addS ?zzhx ?zzhy ?zzhz ?_; (case zzhx => walk_at "mine lit"); (case zzhy => walk_at "mine lit"); (case zzhz => walk_at "mine size")); intro _ _)
  k_with "inplaceOp Add str str" => (k_here; (with_reducible show wpAny _ _ (inplaceOp Operator.Add (Value.str _ _) (Value.str _ _)) _ _ _); k_dflt (refine' iaddS ?zzhx ?zzhy ?zzhz ?_; (case zzhx => walk_at "mine lit"); (case zzhy => walk_at "mine lit"); (case zzhz => walk_at "mine size")); intro _ _)
  k_with "binaryOp Mult str int" => (k_here; (with_reducible show wpAny _ _ (binaryOp Operator.Mult (Value.str _ _) (Value.int _ _)) _ _ _); k_dflt (refine' mulS ?zzhx ?zzh0 ?zzh1 ?_; (case zzhx => first | (with_reducible exact rfl) | exact lit_o | exact lit_c); (case zzh0 => omega); (case zzh1 => omega)); intro _ _)
  k_with "compareOp Eq str str" => (k_here; (with_reducible show wpAny _ _ (compareOp CmpOp.Eq (Value.str _ _) (Value.str _ _)) _ _ _); k_dflt (refine' eqS ?zzhx ?zzhy ?_; (case zzhx => walk_at "mine lit"); (case zzhy => walk_at "mine lit")))
  k_with "compareOp NotEq str str" => (k_here; (with_reducible show wpAny _ _ (compareOp CmpOp.NotEq (Value.str _ _) (Value.str _ _)) _ _ _); k_dflt (refine' neS ?zzhx ?zzhy ?_; (case zzhx => walk_at "mine lit"); (case zzhy => walk_at "mine lit")))
  k_with "call builtin:len" => (k_here; (with_reducible show wpAny _ _ (call (Value.builtin "len") [Value.str _ _]) _ _ _); k_dflt (refine' lenS ?zzhx ?zzhz ?_; (case zzhx => first | (with_reducible exact rfl) | exact lit_e); (case zzhz => walk_at "mine size")); intro _ _)
  k_with "truthy str" => (k_here; (with_reducible show wpAny _ _ (PySem.truthy (Value.str _ _)) _ _ _); k_dflt (refine' truthS ?zzhx ?zzhz ?_; (case zzhx => first | (with_reducible exact rfl) | exact lit_e); (case zzhz => walk_at "mine size")); intro _)
  k_with "mine body 0" => (k_here; (with_reducible show wpAny _ _ (subscriptTail _ _ (Value.str _ _) (Value.int _ _)) _ _ _); first | (k_dflt (refine' itemS ?zzhx ?zzhz ?zzh0 ?zzh1 ?_ ?zzhs ?zzht; (case zzhx => with_reducible exact rfl); (case zzhs => with_unfolding_all rfl); (case zzht => kmk_pure); (case zzhz => walk_at "mine size"); (case zzh0 => first | omega | decide); (case zzh1 => first | omega | exact drop_ne (by assumption) (by omega) | (simp only [List.length_append, List.length_cons, List.length_nil, List.length_replicate, List.length_take, List.length_drop]; omega))); intro _ _) | (k_dflt (refine' itemSn ?zzhx ?zzhz ?zzh0 ?zzh1 ?_ ?zzhs ?zzht; (case zzhx => with_reducible exact rfl); (case zzhs => with_unfolding_all rfl); (case zzht => kmk_pure); (case zzhz => walk_at "mine size"); (case zzh0 => first | omega | decide); (case zzh1 => walk_at "mine size")); intro _ _))
  k_with "subscriptTail Name Name str int" => walk_at "mine body 0"
  k_with "subscriptTail Name BinOp str int" => walk_at "mine body 0"
  k_with "subscriptTail Name Constant str int" => walk_at "mine body 0"
  k_with "subscriptTail" => walk_at "mine body 0"
  k_with "mine body 1" => (k_here; (with_reducible show wpAny _ _ (subscriptTail _ (PySem.Expr.Slice _ _ none _) (Value.str _ _) (Value.ref _)) _ _ _); first | (k_dflt (refine' sliceS_run ?zzF ?zzN ?zzhx ?zzhz ?zzh0 ?zzh1 ?_ ?zzhs ?zzht; (case zzF => k_asm); (case zzN => k_asm); (case zzhx => with_reducible exact rfl); (case zzhs => with_unfolding_all rfl); (case zzht => kmk_pure); (case zzhz => walk_at "mine size"); (case zzh0 => omega); (case zzh1 => omega)); intro _ _ _ _ _) | (k_dflt (refine' sliceS_from ?zzF ?zzN ?zzhx ?zzhz ?zzh0 ?_ ?zzhs ?zzht; (case zzF => k_asm); (case zzN => k_asm); (case zzhx => with_reducible exact rfl); (case zzhs => with_unfolding_all rfl); (case zzht => kmk_pure); (case zzhz => walk_at "mine size"); (case zzh0 => omega)); intro _ _ _ _ _) | (k_dflt (refine' sliceS_to ?zzF ?zzN ?zzhx ?zzhz ?zzh0 ?_ ?zzhs ?zzht; (case zzF => k_asm); (case zzN => k_asm); (case zzhx => with_reducible exact rfl); (case zzhs => with_unfolding_all rfl); (case zzht => kmk_pure); (case zzhz => walk_at "mine size"); (case zzh0 => omega)); intro _ _ _ _ _) | (k_dflt (refine' sliceS_nn ?zzF ?zzN ?zzhx ?zzhz ?_ ?zzhs ?zzht; (case zzF => k_asm); (case zzN => k_asm); (case zzhx => with_reducible exact rfl); (case zzhs => with_unfolding_all rfl); (case zzht => kmk_pure); (case zzhz => walk_at "mine size")); intro _ _ _ _ _) | (k_dflt (refine' sliceS_toNeg ?zzF ?zzN ?zzhx ?zzhz ?zzh0 ?_ ?zzhs ?zzht; (case zzF => k_asm); (case zzN => k_asm); (case zzhx => with_reducible exact rfl); (case zzhs => with_unfolding_all rfl); (case zzht => kmk_pure); (case zzhz => walk_at "mine size"); (case zzh0 => omega)); intro _ _ _ _ _) | (k_dflt (refine' sliceS_fromNeg ?zzF ?zzN ?zzhx ?zzhz ?zzh0 ?_ ?zzhs ?zzht; (case zzF => k_asm); (case zzN => k_asm); (case zzhx => with_reducible exact rfl); (case zzhs => with_unfolding_all rfl); (case zzht => kmk_pure); (case zzhz => walk_at "mine size"); (case zzh0 => omega)); intro _ _ _ _ _))
  k_with "subscriptTail Name Slice str ref" => walk_at "mine body 1"
  k_with "subscriptTail" => walk_at "mine body 1"
  k_with "compareOp NotIn str str" => (k_here; (with_reducible show wpAny _ _ (compareOp CmpOp.NotIn (Value.str _ _) (Value.str _ _)) _ _ _); k_dflt (refine' notInS ?zzhx ?zzhy ?_; (case zzhx => with_reducible exact rfl); (case zzhy => first | exact lit_q | exact lit_b)))
  k_with "exec For Tuple Call cons nil" => (k_extra "mine for"; walk_say "MINE for")
  k_with "pyIter ref" => (k_extra "mine iter"; walk_say "MINE iter")
  k_with "call ref" => (k_extra "mine call"; walk_say "MINE call")
  k_with "call builtin:list.append" => (k_extra "mine append"; walk_say "MINE append")
  k_with "call builtin:str.join" => (k_extra "mine join"; walk_say "MINE join")
  k_with "InvEndN" => (refine Hold.out ?_; walk_say "MINE end")
  k_with "call type:list" => (k_extra "mine list"; walk_say "MINE list")
  k_with "call builtin:min" => (k_here; (with_reducible show wpAny _ _ (call (Value.builtin "min") [Value.int _ _, Value.int _ _]) _ _ _); k_dflt (refine' minS ?zzhh ?zzF ?zzN ?_; (case zzhh => with_unfolding_all rfl); (case zzF => k_asm); (case zzN => k_asm)); intro _ _ _ _ _)
  k_with "setItem ref int" => (k_extra "mine set"; walk_say "MINE set")
  k_with "exec While BoolOp cons nil" => (k_extra "mine while"; walk_say "MINE while")
  k_with "mine while" => refine Hold.out ?_
  k_steps
  refine Hold.mk ?_
  k_here
  rename Fr _ _ _ _ => lF
  rename News _ _ _ _ => lN
  refine while1 (x := Str.ofString "pre") (P := fun i => ∃ k : Nat, i = (k : Int) ∧ k ≤ a9.length ∧ comL a9 b9 = k + comL (a9.drop k) (b9.drop k)) (D := fun i => i = (comL a9 b9 : Int)) (μ := fun i => a9.length - i.toNat) (i₀ := 0) lF lN (by rfl) ⟨0, rfl, Nat.zero_le _, by simp⟩ ?_ ?_
  · clear lF lN
    intro i t8 h8 tk8 hP F8 N8
    obtain ⟨k, rfl, hk, hcom⟩ := hP
    k_steps
    · have h1 : List.drop ((k : Int)).toNat a9 ≠ [] := by assumption
      have h2 : List.drop ((k : Int)).toNat b9 ≠ [] := by assumption
      have h3 : [a9.getD ((k : Int)).toNat 0] = [b9.getD ((k : Int)).toNat 0] := by assumption
      have h4 := drop_ne h1 (by omega)
      rw [Int.toNat_natCast] at h1 h2 h3
      rename Fr _ _ _ _ => lF
      refine w1_end lF (fun z hz => by simp [hz]) (by assumption) ⟨⟨k + 1, by omega, by omega, ?_⟩, by omega⟩
      rw [hcom, com_step h1 h2 (by simpa using h3)]; omega
    · have h1 : List.drop ((k : Int)).toNat a9 ≠ [] := by assumption
      have h2 : List.drop ((k : Int)).toNat b9 ≠ [] := by assumption
      have h3 : ¬ [a9.getD ((k : Int)).toNat 0] = [b9.getD ((k : Int)).toNat 0] := by assumption
      rw [Int.toNat_natCast] at h1 h2 h3
      rename Fr _ _ _ _ => lF
      refine w1_end lF (fun z hz => by simp [hz]) (by assumption) ?_
      have e := com_stop h1 h2 (by simpa using h3)
      show (k : Int) = ((comL a9 b9 : Nat) : Int)
      omega
    · have h2 : ¬ List.drop ((k : Int)).toNat b9 ≠ [] := by assumption
      rw [Int.toNat_natCast] at h2
      rename Fr _ _ _ _ => lF
      refine w1_end lF (fun z hz => by simp [hz]) (by assumption) ?_
      have e := com_nil (x := a9.drop k) (y := b9.drop k) (.inr (Decidable.not_not.mp h2))
      show (k : Int) = ((comL a9 b9 : Nat) : Int)
      omega
    · have h2 : ¬ List.drop ((k : Int)).toNat a9 ≠ [] := by assumption
      rw [Int.toNat_natCast] at h2
      rename Fr _ _ _ _ => lF
      refine w1_end lF (fun z hz => by simp [hz]) (by assumption) ?_
      have e := com_nil (x := a9.drop k) (y := b9.drop k) (.inl (Decidable.not_not.mp h2))
      show (k : Int) = ((comL a9 b9 : Nat) : Int)
      omega
  · clear lF lN
    intro i t8 h8 tk8 hD F8 N8
    subst hD
    k_steps
    refine Hold.mk ?_
    k_here
    rename Fr _ _ _ _ => lF
    rename News _ _ _ _ => lN
    rw [Int.toNat_natCast] at lF
    have hlA : (a9.drop (comL a9 b9)).length ≤ 12 := by rw [List.length_drop]; omega
    have hlB : (b9.drop (comL a9 b9)).length = (a9.drop (comL a9 b9)).length + 2 := by
      have : (a9.drop (comL a9 b9)).length ≠ 0 := fun e => hab (List.length_eq_zero_iff.mp e)
      rw [List.length_drop] at this
      rw [List.length_drop, List.length_drop]; omega
    have hA1 : 1 ≤ (a9.drop (comL a9 b9)).length := by
      have : (a9.drop (comL a9 b9)).length ≠ 0 := fun e => hab (List.length_eq_zero_iff.mp e)
      omega
    have hA6 : ∀ c ∈ a9.drop (comL a9 b9), Sign6 c := fun c hc => ha6 c (List.mem_of_mem_drop hc)
    have hB6 : ∀ c ∈ b9.drop (comL a9 b9), Sign6 c := fun c hc => hb6 c (List.mem_of_mem_drop hc)
    have hAl := last_drop (l := a9) hab hl1
    have hBl := last_drop (l := b9) (k := comL a9 b9) (fun e => by rw [e] at hlB; simp at hlB) hl2
    have hBne : b9.drop (comL a9 b9) ≠ [] := fun e => by rw [e] at hlB; simp at hlB
    generalize a9.drop (comL a9 b9) = A at lF hlA hlB hA1 hA6 hAl hab hret
    generalize b9.drop (comL a9 b9) = B at lF hlB hB6 hBl hBne hret
    refine while1 (x := Str.ofString "post") (P := fun i => i = 0) (D := fun i => i = 0) (μ := fun _ => 0) (i₀ := 0) lF lN (by rfl) rfl ?_ ?_
    · clear lF lN
      intro i t7 h7 tk7 hP F7 N7
      subst hP
      k_steps
      · have h3 : [A.getD (((0 : Int) - 1) + (A.length : Int)).toNat 0] = [B.getD (((0 : Int) - 1) + (B.length : Int)).toNat 0] := by assumption
        rw [hAl, hBl] at h3
        exact absurd h3 (by decide)
      · rename Fr _ _ _ _ => lF
        exact w1_end lF (fun z hz => by simp [hz]) (by assumption) rfl
    · clear lF lN
      intro i t7 h7 tk7 hD F7 N7
      subst hD
      k_with "mine list" => refine Hold.out ?_
      k_with "mine iter" => refine Hold.out ?_
      k_steps
      refine Hold.mk ?_
      k_here
      rename IsRange _ _ _ _ _ _ _ _ => rg0
      k_dflt (refine' list_range2 (k := A.length) ?hh ?F ?N rg0 hA1 ?hk ?_)
      (case hh => with_unfolding_all rfl)
      (case F => k_asm)
      (case N => k_asm)
      (case hk => omega)
      intro lR nn vs h6 tk6 F6 N6 l6 hI6
      try dsimp only [qk]
      clear rg0
      try k_sweep
      try k_fold
      k_steps
      refine Hold.mk ?_
      k_here
      rename Fr _ _ _ _ => lF
      rename News _ _ _ _ => lN
      rename IsRange _ _ _ _ _ _ _ _ => rgX
      rename IntsAre _ _ => hI6
      with_unfolding_all refine' kst_range (n := B.length) (fun c : (List Value × List Int × Nat) × (Int × Tok) => (lR, listOf c.1.1.toArray c.1.2.2) :: news) (fun c => [(Str.ofString "result", .int c.2.1 c.2.2)]) (fun c => IntsAre c.1.1 c.1.2.1 ∧ c.1.2.1.length = A.length) [Str.ofString "bchar", Str.ofString "distance", Str.ofString "minimum", Str.ofString "index", Str.ofString "substitute", Str.ofString "insert_delete"] (fun pre c => lvF A B pre.length = some (c.1.2.1, c.2.1)) ((vs, evens A.length, nn), (0, _)) (by rfl) rgX ?kzs ?kzr lF ?kn ?kf ?kk ?kp ?_ ?_
      (case kn => (with_unfolding_all exact lN))
      (case kf => exact ⟨hI6, by simp [evens]⟩)
      (case kk => kst_all)
      (case kp => rfl)
      (case kzs => exact small_one (by omega) (by omega) (by omega) (by omega))
      (case kzr => exact (rangeSize_nat _ _).trans (by omega))
      · clear lF lN rgX hI6
        intro ⟨⟨vs, ns, nn⟩, ⟨re, tre⟩⟩ pre k t5 u5 h5 tk5 own5 hk5 hlt5 hoff5 hI5 hP F5 N5
        obtain ⟨hI5, hlen5⟩ := hI5
        dsimp only at hI5 hlen5 hP F5 N5
        have hs5 := lvF_succ A B pre.length
        rw [hP] at hs5
        generalize hpl : pre.length = j at hk5 hlt5 hP hs5
        obtain rfl : k = (j : Int) := by omega
        have hj0 : ((j : Int)).toNat = j := Int.toNat_natCast j
        try k_fold
        k_steps
        refine Hold.mk ?_
        k_here
        rename Fr _ _ _ _ => lF
        rename News _ _ _ _ => lN
        rename IsRange _ _ _ _ _ _ _ _ => rgX
        rename IntsAre _ _ => hI5
        rw [hj0] at lF
        have hbc : Sign6 (B.getD j 0) := hB6 _ (by rw [List.getD_eq_getElem?_getD, List.getElem?_eq_getElem hlt5]; exact List.getElem_mem _)
        have hne5 : ∀ p ∈ news ++ own5, p.1 ≠ lR := by
          intro p hp
          rcases List.mem_append.mp hp with hp | hp
          · exact Nat.ne_of_lt (l6 p hp)
          · exact hoff5 p hp lR (List.mem_cons_self ..)
        generalize hbcd : B.getD j 0 = bc at lF hbc
        with_unfolding_all refine' kst_range (n := A.length) (fun c : (List Value × List Int × Nat) × (Int × Tok) × (Int × Tok) × (Int × Tok) => (lR, listOf c.1.1.toArray c.1.2.2) :: (news ++ own5)) (fun c => [(Str.ofString "distance", .int c.2.1.1 c.2.1.2), (Str.ofString "result", .int c.2.2.1.1 c.2.2.1.2), (Str.ofString "minimum", .int c.2.2.2.1 c.2.2.2.2)]) (fun c => IntsAre c.1.1 c.1.2.1 ∧ c.1.2.1.length = A.length) [Str.ofString "substitute", Str.ofString "insert_delete"] (fun pre c => lvInF A bc (ns, (j : Int) * 2, (j : Int) * 2, 9223372036854775807) pre.length = (c.1.2.1, c.2.1.1, c.2.2.1.1, c.2.2.2.1)) ((vs, ns, nn), (_, _), (_, _), (_, _)) (by rfl) rgX ?kzs ?kzr lF ?kn ?kf ?kk ?kp ?_ ?_
        (case kn => (with_unfolding_all exact lN))
        (case kf => exact ⟨hI5, hlen5⟩)
        (case kk => kst_all)
        (case kp => rfl)
        (case kzs => exact small_one (by omega) (by omega) (by omega) (by omega))
        (case kzr => exact (rangeSize_nat _ _).trans (by omega))
        · clear lF lN rgX hI5
          intro ⟨⟨vs, ns1, nn⟩, ⟨di, tdi⟩, ⟨re, tre⟩, ⟨mi, tmi⟩⟩ pre4 k t4 u4 h4 tk4 own4 hk4 hlt4 hoff4 hI4 hP4 F4 N4
          obtain ⟨hI4, hlen4⟩ := hI4
          dsimp only at hI4 hlen4 hP4 F4 N4
          have hs4 := lvInF_succ A bc (ns, (j : Int) * 2, (j : Int) * 2, 9223372036854775807) pre4.length
          rw [hP4] at hs4
          generalize hpl4 : pre4.length = i at hk4 hlt4 hP4 hs4
          obtain rfl : k = (i : Int) := by omega
          have hi0 : ((i : Int)).toNat = i := Int.toNat_natCast i
          have hac : Sign6 (A.getD ((i : Int)).toNat 0) := hA6 _ (by rw [hi0, List.getD_eq_getElem?_getD, List.getElem?_eq_getElem hlt4]; exact List.getElem_mem _)
          try k_fold
          k_with "mine call" =>
            (with_reducible show wpAny _ _ (call (Value.ref 69) _) _ _ _)
            k_dflt (refine' use_gives (subst_gives w mean mg mb _ _ _ _ hbc hac) ?k1 ?k2 ?k3 ?k4 ?k5 rfl trivial ?k7 ?k8 ?_)
            (case k1 => k_asm)
            (case k2 => k_asm)
            (case k3 => k_asm)
            (case k4 => k_asm)
            (case k5 => k_asm)
            (case k7 => ktr_room)
            (case k8 => ktr_units)
            intro t9 h9 tk9 F9 N9
            dsimp only
            try k_fold
          k_with "mine set" => refine Hold.out ?_
          k_steps
          refine Hold.mk ?_
          k_here
          have hne4 : ∀ p ∈ (news ++ own5) ++ own4, p.1 ≠ lR := by
            intro p hp
            rcases List.mem_append.mp hp with hp | hp
            · exact hne5 p hp
            · exact hoff4 p hp lR (List.mem_cons_self ..)
          k_dflt (refine' ksa_set ?F ?N (Upd.head hne4) hI4 ?h0 ?h1 ?h2 ?_)
          (case F => k_asm)
          (case N => k_asm)
          (case h0 => omega)
          (case h1 => omega)
          (case h2 => omega)
          intro h9 F9 N9 hI9 hl9 hsum
          clear hsum
          try dsimp only [qk]
          try k_fold
          generalize hr : min (min re (ns1.getD ((i : Int)).toNat 0) + 2) (di + subC bc (A.getD ((i : Int)).toNat 0)) = r at hI9 hl9 F9 N9 ⊢
          replace hr := Hold.mk hr
          have hl4 : (pre4 ++ [(i : Int)]).length = i + 1 := by simp [hpl4]
          k_steps
          · have hm : min r mi = r := by
              have h : r < mi := by assumption
              omega
            refine Hold.mk ?_
            rename News _ _ _ _ => nE
            refine kst_end ((_, _, _), (_, _), (_, _), (_, _)) (by assumption) nE (by first | kst_in | kst_inAny) (by first | (intro p hp; kst_mem) | kst_anyIn) (by rfl) ⟨hI9, hl9.trans hlen4⟩ (by kst_all) (by intro z h1 h2 h3; simp only [List.forall_mem_cons, List.not_mem_nil, false_implies, implies_true, and_true, ne_eq] at h2; simp only [List.contains_cons, List.contains_nil, Bool.or_false, Bool.or_eq_false_iff, beq_eq_false_iff_ne, ne_eq] at h3; simp [kstB, h1, h2, h3]) ?_
            rw [hl4, hs4]
            have hr' : min (min re (ns1.getD i 0) + 2) (di + subC bc (A.getD i 0)) = r := by rw [← hi0]; exact hr
            simp only [lvIn, hr', hi0]
            rw [hm]
          · have hm : min r mi = mi := by
              have h : ¬ r < mi := by assumption
              omega
            refine Hold.mk ?_
            rename News _ _ _ _ => nE
            refine kst_end ((_, _, _), (_, _), (_, _), (_, _)) (by assumption) nE (by first | kst_in | kst_inAny) (by first | (intro p hp; kst_mem) | kst_anyIn) (by rfl) ⟨hI9, hl9.trans hlen4⟩ (by kst_all) (by intro z h1 h2 h3; simp only [List.forall_mem_cons, List.not_mem_nil, false_implies, implies_true, and_true, ne_eq] at h2; simp only [List.contains_cons, List.contains_nil, Bool.or_false, Bool.or_eq_false_iff, beq_eq_false_iff_ne, ne_eq] at h3; simp [kstB, h1, h2, h3]) ?_
            rw [hl4, hs4]
            have hr' : min (min re (ns1.getD i 0) + 2) (di + subC bc (A.getD i 0)) = r := by rw [← hi0]; exact hr
            simp only [lvIn, hr', hi0]
            rw [hm]
        · clear lF lN rgX hI5
          intro ⟨⟨vs, ns1, nn⟩, ⟨di, tdi⟩, ⟨re, tre⟩, ⟨mi, tmi⟩⟩ u4 h4 tk4 hI4 hP4 F4 N4
          obtain ⟨hI4, hlen4⟩ := hI4
          dsimp only at hI4 hlen4 hP4 F4 N4
          rw [rangeKs_length] at hP4
          try k_fold
          k_steps
          · have h : 7 < mi := by assumption
            have hN : lvF A B (j + 1) = none := by
              rw [hs5]
              simp only [lvOut, hbcd, hP4]
              rw [if_pos h]
            have hL : levAB A B = 7 + 1 := by
              have q := lvF_none A B (j + 1) hN (B.length - (j + 1))
              rw [show j + 1 + (B.length - (j + 1)) = B.length by omega] at q
              unfold levAB; rw [q]; rfl
            rw [hL] at hret
            rename News h₀ _ _ _ => nE
            exact hret _ _ _ (by assumption) fun p hp => nE p (by simp [hp])
          · have h : ¬ 7 < mi := by assumption
            refine Hold.mk ?_
            have hl : (pre ++ [(j : Int)]).length = j + 1 := by simp [hpl]
            rename News _ _ _ _ => nE
            refine kst_end ((_, _, _), (_, _)) (by assumption) nE (by first | kst_in | kst_inAny) (by first | (intro p hp; kst_mem) | kst_anyIn) (by rfl) ⟨hI4, hlen4⟩ (by kst_all) (by intro z h1 h2 h3; simp only [List.forall_mem_cons, List.not_mem_nil, false_implies, implies_true, and_true, ne_eq] at h2; simp only [List.contains_cons, List.contains_nil, Bool.or_false, Bool.or_eq_false_iff, beq_eq_false_iff_ne, ne_eq] at h3; simp [kstB, h1, h2, h3]) ?_
            rw [hl, hs5]
            simp only [lvOut, hbcd, hP4]
            rw [if_neg h]
      · clear lF lN rgX hI6
        intro ⟨⟨vs, ns, nn⟩, ⟨re, tre⟩⟩ u5 h5 tk5 hI5 hP F5 N5
        dsimp only at hP F5 N5
        rw [rangeKs_length] at hP
        try k_fold
        k_steps
        have hL : levAB A B = re := by unfold levAB; rw [hP]
        rw [hL] at hret
        rename News h₀ _ _ _ => nE
        exact hret _ _ _ (by assumption) fun p hp => nE p (by simp [hp])
end

section
/-- a turn's end, generators made in it and left -/
noncomputable def EndA (h₀ : Heap) (L : Addr) (J : (Str → Option Value) → List (Addr × Obj) → Prop) (own : List (Addr × Obj)) (adr : List Addr) (s₁ s₂ : Shared) : Prop :=
  ∃ h' tk gs m' news' nx, s₂ = { s₁ with heap := h', toks := tk, gens := gs } ∧ AllBare gs ∧ Fr h₀ L h' m' ∧ News h₀ L h' news' ∧ (∀ p ∈ nx, p ∈ news') ∧ (∀ p ∈ own, p ∈ news') ∧ nx.map (·.1) = adr ∧ J m' nx
noncomputable def PostA (h₀ : Heap) (L : Addr) (J : (Str → Option Value) → List (Addr × Obj) → Prop) (own : List (Addr × Obj)) (adr : List Addr) (s₁ : Shared) (Q : Flow → Shared → Prop) (f : Flow) (s₂ : Shared) : Prop :=
  match f with
  | .ret v => Q (.ret v) s₂
  | .brk => Q .next s₂
  | _ => EndA h₀ L J own adr s₁ s₂
section
variable {prog : Program} {w : World} {A : Around} {E : Value → Shared → Prop} {s : Shared} {h₀ : Heap}
theorem walk_loopA {I : Addr} {fp : List Addr} {n : Nat} {P : Nat → Value → Prop} {St : Nat → Heap → Prop} {env : Env} {x : Str} {px : Pos} {body : List Stmt} {m₀ : Str → Option Value} {news : List (Addr × Obj)} {Q : Flow → Shared → Prop} (J : Nat → (Str → Option Value) → List (Addr × Obj) → Prop)
    (W : Walks prog w A I fp fp n P St) (hfp0 : ∀ b ∈ fp, h₀.get? b = none) (hL : env.locals ∉ fp) (hx : env.kindOf x = some .local) (hp : (env.scope.kind == .class || (env.scope.kind == .module && env.locals != env.globals)) = false)
    (hst : St 0 s.heap) (hb : AllBare s.gens) (F : Fr h₀ env.locals s.heap m₀) (N : News h₀ env.locals s.heap news) (hn : ∀ p ∈ news, p.1 ∉ fp) (hj : J 0 m₀ news)
    (turn : ∀ i v m₁ nx h tk gs own9, i < n → P i v → nx.map (·.1) = news.map (·.1) → OwnOff own9 (news.map (·.1)) → J i m₁ nx → AllBare gs →
      Fr h₀ env.locals h (fun y => if y = x then some v else m₁ y) → News h₀ env.locals h (nx ++ own9) →
      wpAny (model prog w) A (execs body env) (PostA h₀ env.locals (J (i + 1)) own9 (news.map (·.1)) { s with heap := h, toks := tk, gens := gs } Q) E { s with heap := h, toks := tk, gens := gs })
    (done : ∀ m₁ nx h tk gs, J n m₁ nx → AllBare gs → Fr h₀ env.locals h m₁ → News h₀ env.locals h nx → Q .next { s with heap := h, toks := tk, gens := gs })
    (hE : PassesOwn (model prog w) A env E := by passes_own) :
    codeAny (model prog w) A (.forLoop (.Name x px) (.ref I) body [] env) (fun r s' => match r with | .ok f => Q f s' | .error e => cameBackBy (model prog w) A env E e s') s := by
  refine codeAny_forLoop (fun k s' => ∃ i h tk gs m₁ nx, s' = { s with heap := h, toks := tk, gens := gs } ∧ k = n - i ∧ i ≤ n ∧ St i h ∧
      Fr h₀ env.locals h m₁ ∧ News h₀ env.locals h nx ∧ J i m₁ nx ∧ nx.map (·.1) = news.map (·.1) ∧ AllBare gs) ?_ n ⟨0, s.heap, s.toks, s.gens, m₀, news, rfl, rfl, Nat.zero_le _, hst, F, N, hj, rfl, hb⟩
  rintro k s' ⟨i, h, tk, gs, m₁, nx, rfl, rfl, hin, hst1, F1, N1, hJ, hadr, hb1⟩
  have hnx : ∀ p ∈ nx, p.1 ∉ fp := by
    intro p hp
    have h1 : p.1 ∈ nx.map (·.1) := List.mem_map_of_mem hp
    rw [hadr] at h1
    obtain ⟨q, hq, e⟩ := List.mem_map.mp h1
    rw [← e]; exact hn q hq
  have hkeep : ∀ h2 : Heap, (∀ b o, b ∉ fp → h.get? b = some o → h2.get? b = some o) → Fr h₀ env.locals h2 m₁ ∧ News h₀ env.locals h2 nx := by
    intro h2 hk
    refine ⟨⟨F1.ns.at' fun o e => hk _ _ hL e, fun b o e => hk b o (fun hm => by rw [hfp0 b hm] at e; cases e) (F1.keep b o e), F1.above⟩, fun q hq => ?_⟩
    obtain ⟨g1, g2, g3⟩ := N1 q hq
    exact ⟨hk _ _ (hnx q hq) g1, g2, g3⟩
  by_cases hi : i < n
  · refine W.item i _ _ _ hi hst1 fun v h2 tk2 hP hst2 hk2 => ?_
    obtain ⟨F2, N2⟩ := hkeep h2 hk2
    refine wpAny_assign_Name (wpAny_storeName_local hx F2.ns (fun h3 hn3 hs3 => ?_) hp)
    have hLmem : ∀ b ∈ fp, b ≠ env.locals := fun b hb e => hL (e ▸ hb)
    have F3 : Fr h₀ env.locals h3 (fun y => if y = x then some v else m₁ y) := F2.set hn3 hs3
    have N3 : News h₀ env.locals h3 (nx ++ Alive h3 fp) := by
      intro q hq
      rcases List.mem_append.mp hq with hq | hq
      · exact N2.set hs3 q hq
      · obtain ⟨g1, g2⟩ := mem_alive.mp hq
        exact ⟨g2, hLmem _ g1, hfp0 _ g1⟩
    have hst3 : St (i + 1) h3 := W.frame _ _ _ hst2 fun b hb o e => (hs3.2 b (hLmem b hb)).trans e
    have hoff : OwnOff (Alive h3 fp) (news.map (·.1)) := by
      intro q hq b hb e
      obtain ⟨g1, _⟩ := mem_alive.mp hq
      rw [← hadr] at hb
      obtain ⟨r, hr, rfl⟩ := List.mem_map.mp hb
      exact hnx r hr (e ▸ g1)
    refine wpAny_passesOwn hE (wpAny_mono (turn i v m₁ nx h3 _ gs _ hi hP hadr hoff hJ hb1 F3 N3) (fun f s4 hf => ?_) fun _ _ e => e)
    have fin : EndA h₀ env.locals (J (i + 1)) (Alive h3 fp) (news.map (·.1)) { s with heap := h3, toks := tk2 + 1, gens := gs } s4 → ∃ m, m < n - i ∧ ∃ i' h tk gs m₁ nx, s4 = { s with heap := h, toks := tk, gens := gs } ∧ m = n - i' ∧ i' ≤ n ∧ St i' h ∧
      Fr h₀ env.locals h m₁ ∧ News h₀ env.locals h nx ∧ J i' m₁ nx ∧ nx.map (·.1) = news.map (·.1) ∧ AllBare gs := by
      rintro ⟨h5, tk5, gs5, m5, news5, nx5, rfl, hb5, F5, N5, hn5, ho5, ha5, hJ5⟩
      refine ⟨n - (i + 1), by omega, i + 1, h5, tk5, gs5, m5, nx5, rfl, rfl, hi, ?_, F5, fun q hq => N5 q (hn5 q hq), hJ5, ha5, hb5⟩
      exact W.frame _ _ _ hst3 fun b hb o e => (N5 (b, o) (ho5 (b, o) (mem_alive.mpr ⟨hb, e⟩))).1
    cases f with
    | ret v => exact hf
    | brk => exact hf
    | next => exact fin hf
    | cont => exact fin hf
  · obtain rfl : i = n := by omega
    refine W.done _ _ _ hst1 fun h2 tk2 hk2 => ?_
    obtain ⟨F2, N2⟩ := hkeep h2 hk2
    exact wpAny_execs_nil (done m₁ nx h2 tk2 gs hJ hb1 F2 N2)

theorem kst_rangeA {σ : Type} {env : Env} {r : Addr} {a₀ b₀ c₁ : Int} {t₀ u₀ v₀ : Tok} {n : Nat} {x : Str} {px : Pos} {body : List Stmt} {m₀ : Str → Option Value} {Q : Flow → Shared → Prop}
    (Led : σ → List (Addr × Obj)) (ps : σ → List (Str × Value)) (Facts : σ → Prop) (stored : List Str) (P : Nat → σ → Prop) (c₀ : σ)
    (hh : A.handled = none) (hr : IsRange s.heap r a₀ b₀ c₁ t₀ u₀ v₀) (hsmall : Builtin.Range.small a₀ b₀ c₁ = true) (hn : Builtin.Range.rangeSize a₀ b₀ c₁ = (n : Int)) (hx : env.kindOf x = some .local) (hp : (env.scope.kind == .class || (env.scope.kind == .module && env.locals != env.globals)) = false)
    (hb : AllBare s.gens) (F : Fr h₀ env.locals s.heap m₀) (N : News h₀ env.locals s.heap (Led c₀)) (hf : Facts c₀) (hk : ∀ p ∈ ps c₀, m₀ p.1 = some p.2) (hp0 : P 0 c₀)
    (turn : ∀ (c : σ) (i : Nat) t (u : Str → Option Value) h tk gs own9, i < n → OwnOff own9 ((Led c₀).map (·.1)) → AllBare gs → Facts c → P i c →
      Fr h₀ env.locals h (fun y => if y = x then some (.int (a₀ + (i : Int) * c₁) t) else kstB (fun z => if stored.contains z then u z else m₀ z) (ps c) y) → News h₀ env.locals h (Led c ++ own9) →
      wpAny (model prog w) A (execs body env) (PostA h₀ env.locals (KstS Led ps Facts x stored m₀ (fun pre c => P pre.length c) (rangeKs 0 (i + 1))) own9 ((Led c₀).map (·.1)) { s with heap := h, toks := tk, gens := gs } Q) E { s with heap := h, toks := tk, gens := gs })
    (done : ∀ (c : σ) (u : Str → Option Value) h tk gs, AllBare gs → Facts c → P n c → Fr h₀ env.locals h (fun y => if y = x then u y else kstB (fun z => if stored.contains z then u z else m₀ z) (ps c) y) → News h₀ env.locals h (Led c) → Q .next { s with heap := h, toks := tk, gens := gs })
    (hE : PassesOwn (model prog w) A env E := by passes_own) :
    wpAny (model prog w) A (pyIter (.ref r)) (fun it s₂ => codeAny (model prog w) A (.forLoop (.Name x px) it body [] env) (fun r s' => match r with | .ok f => Q f s' | .error e => cameBackBy (model prog w) A env E e s') s₂) E s := by
  refine wpAny_pyIter_range hr hsmall ?_
  have W := (Walks.range (prog := prog) (w := w) hh s.heap.objs.size a₀ c₁ n).bound
  have hI0 : h₀.get? s.heap.objs.size = none := next_is_new F
  refine walk_loopA (s := { s with heap := _ }) (m₀ := m₀) (news := Led c₀) (fun j m nx => KstS Led ps Facts x stored m₀ (fun pre c => P pre.length c) (rangeKs 0 j) m nx) W ?_ ?_ hx hp ?_ hb (F.push _) (fun p hp => ⟨Heap.get?_push_of_some _ (N p hp).1, (N p hp).2⟩) ?_ ⟨c₀, rfl, hf, hk, fun _ _ _ _ => rfl, by simpa [rangeKs] using hp0⟩ ?_ ?_ hE
  · intro b hb
    rw [List.mem_singleton.mp hb]; exact hI0
  · intro hm
    exact absurd F.ns.lt ((List.mem_singleton.mp hm) ▸ Nat.lt_irrefl _)
  · show IsRangeIter _ _ _ _ _
    rw [hn]; simpa using Heap.get?_push_size _ rfl
  · intro p hp hI
    exact absurd (Heap.lt_size (N p hp).1) ((List.mem_singleton.mp hI) ▸ Nat.lt_irrefl _)
  · rintro i v m₁ nx h tk gs own9 hi ⟨_, t, rfl⟩ _ hoff ⟨c, rfl, hf', h1, h2, hp'⟩ hb' F1 N1
    simp only [rangeKs_length] at hp'
    exact turn c i t m₁ h tk gs own9 hi hoff hb' hf' hp' (kst_fr h1 h2 F1) N1
  · rintro m₁ nx h tk gs ⟨c, rfl, hf', h1, h2, hp'⟩ hb' F1 N1
    simp only [rangeKs_length] at hp'
    exact done c m₁ h tk gs hb' hf' hp' (kst_frOut h1 h2 F1) N1
theorem kst_endA {σ : Type} {Led : σ → List (Addr × Obj)} {ps : σ → List (Str × Value)} {Facts : σ → Prop} {stored : List Str} {m₀ : Str → Option Value} {P : List Int → σ → Prop} {pre : List Int} {x : Str} (c : σ) {L : Addr} {m' : Str → Option Value} {own news' : List (Addr × Obj)} {adr : List Addr} {s₁ : Shared} {h' : Heap} {tk : Nat} {gs : Array GenState}
    (hb : AllBare gs) (F : Fr h₀ L h' m') (N : News h₀ L h' news') (hn : ∀ p ∈ Led c, p ∈ news') (ho : ∀ p ∈ own, p ∈ news') (ha : (Led c).map (·.1) = adr) (hf : Facts c) (hk : ∀ p ∈ ps c, m' p.1 = some p.2) (hr : ∀ z, z ≠ x → (∀ p ∈ ps c, z ≠ p.1) → stored.contains z = false → m' z = m₀ z) (hp : P pre c) :
    EndA h₀ L (KstS Led ps Facts x stored m₀ P pre) own adr s₁ { s₁ with heap := h', toks := tk, gens := gs } :=
  ⟨h', tk, gs, m', news', Led c, rfl, hb, F, N, hn, ho, ha, c, rfl, hf, hk, hr, hp⟩
end
end

section
noncomputable def frontOf (row : List Nat) (hs : List (List Nat)) (front : List Nat) (i : Nat) : List Nat :=
  front ++ ([row.getD (2 * i) 0] ++ hs.getD (2 * i) [] ++ [row.getD (2 * i + 1) 0] ++ hs.getD (2 * i + 1) [])
/-- one turn of _law_parts: front, parts, before -/
noncomputable def ptStep (row : List Nat) (hs : List (List Nat)) (c : List Nat × List Int × Int) (i : Nat) : List Nat × List Int × Int :=
  if chk (frontOf row hs c.1 i) = true then (frontOf row hs c.1 i, c.2.1 ++ [(i : Int) + 1 - c.2.2], (i : Int) + 1) else (frontOf row hs c.1 i, c.2.1, c.2.2)
noncomputable def ptF (row : List Nat) (hs : List (List Nat)) (n : Nat) : List Nat × List Int × Int := (List.range n).foldl (ptStep row hs) ([], [], 0)
theorem ptF_succ (row hs n) : ptF row hs (n + 1) = ptStep row hs (ptF row hs n) n := by
  unfold ptF; rw [List.range_succ, List.foldl_append]; rfl
theorem hhs_at {hs : List (List Nat × Tok)} (h : ∀ q ∈ hs, q.1.length ≤ 5) (k : Nat) : (hs.getD k ([], 0)).1.length ≤ 5 := by
  rw [List.getD_eq_getElem?_getD]
  cases e : hs[k]? with
  | none => simp
  | some q => exact h q (List.mem_of_getElem? e)
theorem ptF_len (row : List Nat) (hs : List (List Nat × Tok)) (h : ∀ q ∈ hs, q.1.length ≤ 5) : ∀ n, (ptF row (hs.map (·.1)) n).1.length ≤ 12 * n
  | 0 => by simp [ptF]
  | n + 1 => by
    have ih := ptF_len row hs h n
    have h1 := hhs_at h (2 * n)
    have h2 := hhs_at h (2 * n + 1)
    rw [getD_fst] at h1 h2
    have e : (ptF row (hs.map (·.1)) (n + 1)).1 = frontOf row (hs.map (·.1)) (ptF row (hs.map (·.1)) n).1 n := by
      rw [ptF_succ, ptStep]; split <;> rfl
    rw [e, frontOf]
    simp only [List.length_append, List.length_cons, List.length_nil]
    omega
theorem ptF_cnt (row : List Nat) (hs : List (List Nat)) : ∀ n, (ptF row hs n).2.1.length ≤ n
  | 0 => by simp [ptF]
  | n + 1 => by
    have ih := ptF_cnt row hs n
    rw [ptF_succ, ptStep]
    split
    · simp; omega
    · exact Nat.le_succ_of_le ih
/-- what a call of f with vs gives: a new list of ints -/
abbrev GivesI (w : World) (mean : ExcName → Option Value) (mg mb : Str → Option Value) (f : Addr) (d u : Nat) (pre : List (Addr × Obj) → Prop) (vs : List Value) (ks : List Int) : Prop :=
  ∀ (dp un : Nat) (gd : Option (List Code)) (cn : Str) (cs : Scope) (a : Addr) (ccd : Value) (cl : List (Str × Addr)) (outer : List Env) (A₀ : Around) (base h₀ : Heap) (L : Addr) (m : Str → Option Value) (news : List (Addr × Obj)) (s : Shared) (Q E : Value → Shared → Prop),
    Below A₀ base outer h₀ → Fr h₀ L s.heap m → (hd.heap_39 w.params).In h₀ → News h₀ L s.heap news →
    Top hd.view_39 (looseW hd.view_39 [Str.ofString "insort_right", Str.ofString "bisect_right", Str.ofString "bisect_left"]) mean mg mb h₀ →
    cs.kind = .function → pre news → dp + d < recursionLimit → un + u < cLine → AllBare s.gens →
    (∀ (lR : Addr) (n : Nat) (xs : List (Int × Tok)) (h' : Heap) (tk' : Nat) (gs : Array GenState), AllBare gs → xs.map (·.1) = ks → (∀ p ∈ news, p.1 < lR) → Fr h₀ L h' m → News h₀ L h' ((lR, listOf (xs.map av).toArray n) :: news) → Q (.ref lR) { s with heap := h', toks := tk', gens := gs }) →
    wpAny (model PySem.Challenge.rw_rw0075_01.row.prog w) (ktrTop dp un gd cn cs L a ccd cl outer) (call (.ref f) vs) Q E s

theorem parts_gives (w : World) (mean mg mb) (row : List Nat) (tx : Tok) (p : Nat) (hlen : row.length = 2 * p) (hp4 : p ≤ 4) (al : Addr) (hs : List (List Nat × Tok)) (hn : Nat) (hhl : hs.length = 2 * p) (hhs : ∀ q ∈ hs, q.1.length ≤ 5) :
    GivesI w mean mg mb 104 14 600 (fun news => (al, listOf (hs.map sv).toArray hn) ∈ news) [.str (S row) tx, .ref al] (ptF row (hs.map (·.1)) p).2.1 := by
  unfold GivesI
  k_fill
  have hlb : row.length ≤ 1000 := by omega
  replace hp4 := Hold.mk hp4
  replace hlen := Hold.mk hlen
  intro dp un gd cn cs a ccd cl outer A₀ base h₀ L m news s Q E B F X N T hk hpre hdp hu hb hret
  refine wpAny_call ?_
  refine' code_def (binds := [(Str.ofString "row", .str (S row) tx), (Str.ofString "hidden", .ref al)]) B F X N T rfl rfl hk ?k6 ?k7 ?k8 ?k9 ?kB ?_ ?c2 ?c3 ?c4 ?c5
  (case k6 => k_is)
  (case k7 => k_is)
  (case k8 => ktr_room)
  (case k9 => (refine' kp_binds ?kx ?ke; (case kx => k_in); (case ke => exact fun _ => rfl)))
  (case c5 => decide)
  (case kB => exact locs rfl)
  (case c2 => exact rfl)
  (case c3 => exact rfl)
  (case c4 => exact rfl)
  intro g' L' h' FG' F' N' B' X' T'
  (try dsimp only)
  (try k_lift B')
  (try k_fold)
  k_with_none
  k_with "mine lit" => (first | (with_reducible exact rfl) | exact lit_e | exact lit_o | exact lit_c | exact lit_b | exact lit_q | exact lit_zy | exact lit_Zx)
  k_with "mine size" => (first | omega | (simp only [List.length_append, List.length_cons, List.length_nil, List.length_replicate, List.length_take, List.length_drop]; omega))
  k_with "binaryOp Add str str" => (k_here; (with_reducible show wpAny _ _ (binaryOp Operator.Add (Value.str _ _) (Value.str _ _)) _ _ _); k_dflt (refine' addS ?zzhx ?zzhy ?zzhz ?_; (case zzhx => walk_at "mine lit"); (case zzhy => walk_at "mine lit"); (case zzhz => walk_at "mine size")); intro _ _)
  k_with "inplaceOp Add str str" => (k_here; (with_reducible show wpAny _ _ (inplaceOp Operator.Add (Value.str _ _) (Value.str _ _)) _ _ _); k_dflt (refine' iaddS ?zzhx ?zzhy ?zzhz ?_; (case zzhx => walk_at "mine lit"); (case zzhy => walk_at "mine lit"); (case zzhz => walk_at "mine size")); intro _ _)
  k_with "binaryOp Mult str int" => (k_here; (with_reducible show wpAny _ _ (binaryOp Operator.Mult (Value.str _ _) (Value.int _ _)) _ _ _); k_dflt (refine' mulS ?zzhx ?zzh0 ?zzh1 ?_; (case zzhx => first | (with_reducible exact rfl) | exact lit_o | exact lit_c); (case zzh0 => omega); (case zzh1 => omega)); intro _ _)
  k_with "compareOp Eq str str" => (k_here; (with_reducible show wpAny _ _ (compareOp CmpOp.Eq (Value.str _ _) (Value.str _ _)) _ _ _); k_dflt (refine' eqS ?zzhx ?zzhy ?_; (case zzhx => walk_at "mine lit"); (case zzhy => walk_at "mine lit")))
  k_with "compareOp NotEq str str" => (k_here; (with_reducible show wpAny _ _ (compareOp CmpOp.NotEq (Value.str _ _) (Value.str _ _)) _ _ _); k_dflt (refine' neS ?zzhx ?zzhy ?_; (case zzhx => walk_at "mine lit"); (case zzhy => walk_at "mine lit")))
  k_with "call builtin:len" => (k_here; (with_reducible show wpAny _ _ (call (Value.builtin "len") [Value.str _ _]) _ _ _); k_dflt (refine' lenS ?zzhx ?zzhz ?_; (case zzhx => first | (with_reducible exact rfl) | exact lit_e); (case zzhz => walk_at "mine size")); intro _ _)
  k_with "truthy str" => (k_here; (with_reducible show wpAny _ _ (PySem.truthy (Value.str _ _)) _ _ _); k_dflt (refine' truthS ?zzhx ?zzhz ?_; (case zzhx => first | (with_reducible exact rfl) | exact lit_e); (case zzhz => walk_at "mine size")); intro _)
  k_with "mine body 0" => (k_here; (with_reducible show wpAny _ _ (subscriptTail _ _ (Value.str _ _) (Value.int _ _)) _ _ _); first | (k_dflt (refine' itemS ?zzhx ?zzhz ?zzh0 ?zzh1 ?_ ?zzhs ?zzht; (case zzhx => with_reducible exact rfl); (case zzhs => with_unfolding_all rfl); (case zzht => kmk_pure); (case zzhz => walk_at "mine size"); (case zzh0 => first | omega | decide); (case zzh1 => first | omega | exact drop_ne (by assumption) (by omega) | (simp only [List.length_append, List.length_cons, List.length_nil, List.length_replicate, List.length_take, List.length_drop]; omega))); intro _ _) | (k_dflt (refine' itemSn ?zzhx ?zzhz ?zzh0 ?zzh1 ?_ ?zzhs ?zzht; (case zzhx => with_reducible exact rfl); (case zzhs => with_unfolding_all rfl); (case zzht => kmk_pure); (case zzhz => walk_at "mine size"); (case zzh0 => first | omega | decide); (case zzh1 => walk_at "mine size")); intro _ _))
  k_with "subscriptTail Name Name str int" => walk_at "mine body 0"
  k_with "subscriptTail Name BinOp str int" => walk_at "mine body 0"
  k_with "subscriptTail Name Constant str int" => walk_at "mine body 0"
  k_with "subscriptTail" => walk_at "mine body 0"
  k_with "mine body 1" => (k_here; (with_reducible show wpAny _ _ (subscriptTail _ (PySem.Expr.Slice _ _ none _) (Value.str _ _) (Value.ref _)) _ _ _); first | (k_dflt (refine' sliceS_run ?zzF ?zzN ?zzhx ?zzhz ?zzh0 ?zzh1 ?_ ?zzhs ?zzht; (case zzF => k_asm); (case zzN => k_asm); (case zzhx => with_reducible exact rfl); (case zzhs => with_unfolding_all rfl); (case zzht => kmk_pure); (case zzhz => walk_at "mine size"); (case zzh0 => omega); (case zzh1 => omega)); intro _ _ _ _ _) | (k_dflt (refine' sliceS_from ?zzF ?zzN ?zzhx ?zzhz ?zzh0 ?_ ?zzhs ?zzht; (case zzF => k_asm); (case zzN => k_asm); (case zzhx => with_reducible exact rfl); (case zzhs => with_unfolding_all rfl); (case zzht => kmk_pure); (case zzhz => walk_at "mine size"); (case zzh0 => omega)); intro _ _ _ _ _) | (k_dflt (refine' sliceS_to ?zzF ?zzN ?zzhx ?zzhz ?zzh0 ?_ ?zzhs ?zzht; (case zzF => k_asm); (case zzN => k_asm); (case zzhx => with_reducible exact rfl); (case zzhs => with_unfolding_all rfl); (case zzht => kmk_pure); (case zzhz => walk_at "mine size"); (case zzh0 => omega)); intro _ _ _ _ _) | (k_dflt (refine' sliceS_nn ?zzF ?zzN ?zzhx ?zzhz ?_ ?zzhs ?zzht; (case zzF => k_asm); (case zzN => k_asm); (case zzhx => with_reducible exact rfl); (case zzhs => with_unfolding_all rfl); (case zzht => kmk_pure); (case zzhz => walk_at "mine size")); intro _ _ _ _ _) | (k_dflt (refine' sliceS_toNeg ?zzF ?zzN ?zzhx ?zzhz ?zzh0 ?_ ?zzhs ?zzht; (case zzF => k_asm); (case zzN => k_asm); (case zzhx => with_reducible exact rfl); (case zzhs => with_unfolding_all rfl); (case zzht => kmk_pure); (case zzhz => walk_at "mine size"); (case zzh0 => omega)); intro _ _ _ _ _) | (k_dflt (refine' sliceS_fromNeg ?zzF ?zzN ?zzhx ?zzhz ?zzh0 ?_ ?zzhs ?zzht; (case zzF => k_asm); (case zzN => k_asm); (case zzhx => with_reducible exact rfl); (case zzhs => with_unfolding_all rfl); (case zzht => kmk_pure); (case zzhz => walk_at "mine size"); (case zzh0 => omega)); intro _ _ _ _ _))
  k_with "subscriptTail Name Slice str ref" => walk_at "mine body 1"
  k_with "subscriptTail" => walk_at "mine body 1"
  k_with "compareOp NotIn str str" => (k_here; (with_reducible show wpAny _ _ (compareOp CmpOp.NotIn (Value.str _ _) (Value.str _ _)) _ _ _); k_dflt (refine' notInS ?zzhx ?zzhy ?_; (case zzhx => with_reducible exact rfl); (case zzhy => first | exact lit_q | exact lit_b)))
  k_with "exec For Tuple Call cons nil" => (k_extra "mine for"; walk_say "MINE for")
  k_with "pyIter ref" => (k_extra "mine iter"; walk_say "MINE iter")
  k_with "call ref" => (k_extra "mine call"; walk_say "MINE call")
  k_with "call builtin:list.append" => (k_extra "mine append"; walk_say "MINE append")
  k_with "call builtin:str.join" => (k_extra "mine join"; walk_say "MINE join")
  k_with "InvEndN" => (refine Hold.out ?_; walk_say "MINE end")
  k_with "newList" => (k_extra "mine newlist"; walk_say "MINE newlist")
  k_with "exec For Name Call cons nil" => (k_extra "mine for"; walk_say "MINE for")
  k_with "subscriptTail Name Name ref int" => (k_extra "mine item"; walk_say "MINE item")
  k_with "subscriptTail Name BinOp ref int" => (k_extra "mine item"; walk_say "MINE item")
  k_with "PostA" => (dsimp only [PostA])
  k_with "EndA" => (refine Hold.out ?_; walk_say "MINE end")
  k_with "mine newlist" =>
    k_here
    k_dflt (refine' newlistS ?F ?N ?z ?_)
    (case F => k_asm)
    (case N => k_asm)
    (case z => decide)
    intro lR h9 F9 N9 l9
    try k_sweep
  k_with "mine for" => with_unfolding_all (refine wpAny_For ?_ (by intro _; rfl))
  k_with "mine iter" => refine Hold.out ?_
  k_steps
  refine Hold.mk ?_
  try dsimp only [qk]
  k_here
  rename Fr _ _ _ _ => lF
  rename News _ _ _ _ => lN
  rename IsRange _ _ _ _ _ _ _ _ => rgX
  replace hlen : row.length = 2 * p := hlen
  replace hp4 : p ≤ 4 := hp4
  have hsize : Builtin.Range.rangeSize 0 (row.length : Int) 2 = (p : Int) := by
    unfold Builtin.Range.rangeSize
    rw [if_pos (by decide), hlen]
    split <;> omega
  have hsm : Builtin.Range.small 0 (row.length : Int) 2 = true := by
    unfold Builtin.Range.small
    rw [hsize]
    have e1 : Builtin.Range.rangeFitsLong 2 = true := by decide
    have e0 : Builtin.Range.rangeFitsLong 0 = true := by decide
    have e2 : Builtin.Range.rangeFitsLong (row.length : Int) = true := by
      unfold Builtin.Range.rangeFitsLong
      rw [Bool.and_eq_true]
      exact ⟨decide_eq_true (by omega), decide_eq_true (by omega)⟩
    have e3 : Builtin.Range.rangeFitsLong (p : Int) = true := by
      unfold Builtin.Range.rangeFitsLong
      rw [Bool.and_eq_true]
      exact ⟨decide_eq_true (by omega), decide_eq_true (by omega)⟩
    have e4 : Builtin.Range.rangeFitsLong ((row.length : Int) + (2 - 1)) = true := by
      unfold Builtin.Range.rangeFitsLong
      rw [Bool.and_eq_true]
      exact ⟨decide_eq_true (by omega), decide_eq_true (by omega)⟩
    rw [e0, e1, e2, e3, if_pos (by decide), e4]
    simp
  have hno : ∀ q ∈ news, q.1 ≠ lR := fun q hq => Nat.ne_of_lt (l9 q hq)
  with_unfolding_all refine' kst_rangeA (n := p) (fun c : (List Nat × Tok) × (List (Int × Tok) × Nat) × (Int × Tok) => (lR, listOf (c.2.1.1.map av).toArray c.2.1.2) :: news) (fun c => [(Str.ofString "front", .str (S c.1.1) c.1.2), (Str.ofString "before", .int c.2.2.1 c.2.2.2)]) (fun _ => True) [] (fun i c => c.1.1 = (ptF row (hs.map (·.1)) i).1 ∧ c.2.1.1.map (·.1) = (ptF row (hs.map (·.1)) i).2.1 ∧ c.2.2.1 = (ptF row (hs.map (·.1)) i).2.2) (([], _), ([], 0), (0, _)) (by rfl) rgX hsm hsize (by rfl) (by rfl) hb lF ?kn trivial ?kk ?kp ?_ ?_
  (case kn => (with_unfolding_all exact lN))
  (case kk => kst_all)
  (case kp => exact ⟨rfl, rfl, rfl⟩)
  · clear lF lN rgX
    intro ⟨⟨fr, tfr⟩, ⟨xs, nn⟩, ⟨be, tbe⟩⟩ i t8 u8 h8 tk8 gs8 own8 hi hoff8 hb8 _ hP F8 N8
    dsimp only at hP F8 N8
    obtain ⟨e1, e2, e3⟩ := hP
    have hs8 := ptF_succ row (hs.map (·.1)) i
    have hfl := ptF_len row hs hhs i
    rw [show (0 : Int) + (i : Int) * 2 = ((2 * i : Nat) : Int) by omega] at F8
    have hcnt : xs.map (·.1) = (ptF row (hs.map (·.1)) i).2.1 := e2
    generalize ptF row (hs.map (·.1)) i = c0 at e1 e2 e3 hs8 hfl
    obtain ⟨f0, p0, b0⟩ := c0
    dsimp only at e1 e2 e3 hfl
    subst e1 e2 e3
    have hi2 : 2 * i + 1 < row.length := by omega
    have hi3 : 2 * i + 1 < hs.length := by omega
    have hfl2 : fr.length ≤ 100 := by omega
    have hA1 := hhs_at hhs (((2 * i : Nat) : Int)).toNat
    have hA2 := hhs_at hhs (((2 * i : Nat) : Int) + 1).toNat
    replace hp4 := Hold.mk hp4
    have hmem8 : (al, listOf (hs.map sv).toArray hn) ∈ (lR, listOf (xs.map av).toArray nn) :: news ++ own8 := List.mem_append.mpr (.inl (.tail _ hpre))
    k_with "mine item" =>
      k_here
      k_dflt (refine' item_xs (xs := hs) (n := hn) ?k1 ?k2 ?k3 ?k4 ?k5 ?_ ?k6)
      (case k1 => k_asm)
      (case k2 => exact hmem8)
      (case k6 => with_unfolding_all rfl)
      (case k3 => omega)
      (case k4 => omega)
      (case k5 => omega)
    k_with "mine call" => refine Hold.out ?_
    k_with "mine append" => refine Hold.out ?_
    k_steps
    refine Hold.mk ?_
    k_here
    have hfr : fr ++ ([row.getD (((2 * i : Nat) : Int)).toNat 0] ++ (hs.getD (((2 * i : Nat) : Int)).toNat ([], 0)).1 ++ [row.getD (((2 * i : Nat) : Int) + 1).toNat 0] ++ (hs.getD (((2 * i : Nat) : Int) + 1).toNat ([], 0)).1) = frontOf row (hs.map (·.1)) fr i := by
      unfold frontOf
      rw [show (((2 * i : Nat) : Int)).toNat = 2 * i by omega, show (((2 * i : Nat) : Int) + 1).toNat = 2 * i + 1 by omega, getD_fst, getD_fst]
    have hfrl : (frontOf row (hs.map (·.1)) fr i).length ≤ 200 := by
      rw [← hfr]
      simp only [List.length_append, List.length_cons, List.length_nil]; omega
    rename Fr _ _ _ _ => lF
    rw [hfr] at lF
    have hgo := fun {dp un : Nat} {gd : Option (List Code)} {cn : Str} {cs : Scope} {a : Addr} {ccd : Value} {cl : List (Str × Addr)} {outer : List Env} {A₀ : Around} {base h₀ : Heap} {L : Addr} {m : Str → Option Value} {news : List (Addr × Obj)} {s : Shared} {Q E : Value → Shared → Prop} (t : Tok) => @use_givesG w mean mg mb 35 10 400 (fun _ => True) [.str (S (frontOf row (hs.map (·.1)) fr i)) t] (fun _ => .bool (chk (frontOf row (hs.map (·.1)) fr i))) (check_gives w mean mg mb (frontOf row (hs.map (·.1)) fr i) t hfrl) dp un gd cn cs a ccd cl outer A₀ base h₀ L m news s Q E
    have hfr2 : fr ++ row.getD (((2 * i : Nat) : Int)).toNat 0 :: ((hs.getD (((2 * i : Nat) : Int)).toNat ([], 0)).1 ++ [row.getD (((2 * i : Nat) : Int) + 1).toNat 0] ++ (hs.getD (((2 * i : Nat) : Int) + 1).toNat ([], 0)).1) = frontOf row (hs.map (·.1)) fr i := hfr
    rw [hfr2]
    k_dflt (refine' hgo _ ?k1 ?k2 ?k3 ?k4 ?k5 rfl trivial ?k7 ?k8 hb8 ?_)
    (case k1 => k_asm)
    (case k2 => k_asm)
    (case k3 => k_asm)
    (case k4 => k_asm)
    (case k5 => k_asm)
    (case k7 => ktr_room)
    (case k8 => ktr_units)
    intro t9 h9 tk9 gs9 hb9 F9 N9
    clear hgo
    try dsimp only [qk]
    try k_fold
    k_steps
    · have hc : chk (frontOf row (hs.map (·.1)) fr i) = true := by
        have h : (chk (frontOf row (hs.map (·.1)) fr i) == true) = true := by assumption
        simpa using h
      have hne8 : ∀ q ∈ news ++ own8, q.1 ≠ lR := by
        intro q hq
        rcases List.mem_append.mp hq with hq | hq
        · exact hno q hq
        · exact hoff8 q hq lR (List.mem_cons_self ..)
      have hdv : Int.fdiv (((2 * i : Nat) : Int)) 2 = (i : Int) := by
        rw [Int.fdiv_eq_ediv_of_nonneg _ (by decide)]; omega
      have hxl : xs.length ≤ 1000 := by
        have q := ptF_cnt row (hs.map (·.1)) i
        rw [← hcnt, List.length_map] at q
        omega
      refine Hold.mk ?_
      k_here
      k_dflt (refine' appendI (xs := xs) (n := nn) ?F ?N (Upd.head hne8) ?z ?_)
      (case F => k_asm)
      (case N => k_asm)
      (case z => omega)
      intro h7 F7 N7
      try dsimp only [qk]
      try k_fold
      k_steps
      refine Hold.mk ?_
      rename News _ _ _ _ => nE
      refine kst_endA ((_, _), (xs ++ [(_, _)], nn + 1), (_, _)) hb9 (by assumption) nE (by first | kst_in | kst_inAny) (by first | (intro p hp; kst_mem) | kst_anyIn) (by rfl) trivial (by kst_all) (by intro z h1 h2 h3; simp only [List.forall_mem_cons, List.not_mem_nil, false_implies, implies_true, and_true, ne_eq] at h2; simp [kstB, h1, h2]) ?_
      rw [rangeKs_length, hs8]
      simp [ptStep, hc, hdv]
    · have hc : ¬ chk (frontOf row (hs.map (·.1)) fr i) = true := by
        have h : (chk (frontOf row (hs.map (·.1)) fr i) == true) = false := by assumption
        simpa using h
      refine Hold.mk ?_
      rename News _ _ _ _ => nE
      refine kst_endA ((_, _), (xs, nn), (_, _)) hb9 (by assumption) nE (by first | kst_in | kst_inAny) (by first | (intro p hp; kst_mem) | kst_anyIn) (by rfl) trivial (by kst_all) (by intro z h1 h2 h3; simp only [List.forall_mem_cons, List.not_mem_nil, false_implies, implies_true, and_true, ne_eq] at h2; simp [kstB, h1, h2]) ?_
      rw [rangeKs_length, hs8]
      simp [ptStep, hc]
  · clear lF lN rgX
    intro ⟨⟨fr, tfr⟩, ⟨xs, nn⟩, ⟨be, tbe⟩⟩ u8 h8 tk8 gs8 hb8 _ hP F8 N8
    dsimp only at hP F8 N8
    k_steps
    exact hret lR nn xs _ _ gs8 hb8 hP.2.1 l9 (by assumption) (by assumption)
end

section
/-- the seven kinds of hidden pieces -/
noncomputable def kindsL : List (List Nat) := [[], [34, 40, 34], [92, 41], [92, 92], [92, 34], [34, 92, 34, 41, 34], [92, 40]]
/-- what stands in a front: a sign or a piece -/
noncomputable def units : List (List Nat) := [40] :: [41] :: kindsL
/-- what _strip_quoted_realnames leaves of a unit -/
noncomputable def keptU : List Nat → List Nat
  | 34 :: _ => []
  | u => u
theorem units_cases {P : List Nat → Prop} {u : List Nat} (hu : u ∈ units) (h1 : P [40]) (h2 : P [41]) (h3 : P []) (h4 : P [34, 40, 34]) (h5 : P [92, 41]) (h6 : P [92, 92]) (h7 : P [92, 34]) (h8 : P [34, 92, 34, 41, 34]) (h9 : P [92, 40]) : P u := by
  simp only [units, kindsL, List.mem_cons, List.not_mem_nil, or_false] at hu
  rcases hu with rfl | rfl | rfl | rfl | rfl | rfl | rfl | rfl | rfl <;> assumption
theorem ch_unit {u : List Nat} (hu : u ∈ units) (rest : List Nat) (o : Option Int) (q : Nat) :
    (itGo (keptU u ++ rest) q false).foldl chStep o = (itGo rest (q + (keptU u).length) false).foldl chStep (chStep o (0, u)) := by
  have e : ∀ v : List Nat, v ≠ [40] → v ≠ [41] → ∀ n : Nat, ∀ o, chStep o (n, v) = o := by
    intro v h1 h2 n o
    cases o with
    | none => rfl
    | some k => simp [chStep, h1, h2]
  refine units_cases (P := fun u => (itGo (keptU u ++ rest) q false).foldl chStep o = (itGo rest (q + (keptU u).length) false).foldl chStep (chStep o (0, u))) hu ?_ ?_ ?_ ?_ ?_ ?_ ?_ ?_ ?_
  · cases o <;> rfl
  · cases o <;> rfl
  all_goals (rw [e _ (by decide) (by decide)]; try rfl)
  all_goals (show List.foldl chStep (chStep o _) _ = _; rw [e _ (by decide) (by decide)]; rfl)
noncomputable def chU (o : Option Int) (u : List Nat) : Option Int := chStep o (0, u)
theorem ch_units : ∀ (us : List (List Nat)), (∀ u ∈ us, u ∈ units) → ∀ (o : Option Int) (q : Nat), (itGo (us.map keptU).flatten q false).foldl chStep o = us.foldl chU o
  | [], _, o, q => rfl
  | u :: us, h, o, q => by
    rw [List.map_cons, List.flatten_cons, ch_unit (h u (by simp)), ch_units us (fun v hv => h v (by simp [hv]))]; rfl
theorem st_units (x : List Nat) : ∀ (us : List (List Nat)), (∀ u ∈ us, u ∈ units) → ∀ (pre : List Nat), x = pre ++ us.flatten → ∀ (c : Nat × Option Nat × List (List Nat)), c.2.1 = none → c.1 ≤ pre.length →
    ((itGo us.flatten pre.length false).foldl (stStep x) c).2.2.flatten ++ x.drop ((itGo us.flatten pre.length false).foldl (stStep x) c).1 = c.2.2.flatten ++ pre.drop c.1 ++ (us.map keptU).flatten
  | [], _, pre, hx, c, _, _ => by
    simp at hx; subst hx
    show c.2.2.flatten ++ x.drop c.1 = _
    simp
  | u :: us, h, pre, hx, c, hc, hle => by
    have h' : ∀ v ∈ us, v ∈ units := fun v hv => h v (by simp [hv])
    have hx' : x = (pre ++ u) ++ us.flatten := by rw [hx]; simp
    have plain : keptU u = u → (itGo (u :: us).flatten pre.length false).foldl (stStep x) c = (itGo us.flatten (pre ++ u).length false).foldl (stStep x) c →
        ((itGo (u :: us).flatten pre.length false).foldl (stStep x) c).2.2.flatten ++ x.drop ((itGo (u :: us).flatten pre.length false).foldl (stStep x) c).1 = c.2.2.flatten ++ pre.drop c.1 ++ ((u :: us).map keptU).flatten := by
      intro e1 e2
      rw [e2, st_units x us h' (pre ++ u) hx' c hc (by rw [List.length_append]; omega), List.map_cons, List.flatten_cons, e1, List.drop_append_of_le_length hle]
      simp
    have quote : keptU u = [] → (itGo (u :: us).flatten pre.length false).foldl (stStep x) c = (itGo us.flatten (pre ++ u).length false).foldl (stStep x) ((pre ++ u).length, none, if c.1 ≠ pre.length then c.2.2 ++ [(x.drop c.1).take (pre.length - c.1)] else c.2.2) →
        ((itGo (u :: us).flatten pre.length false).foldl (stStep x) c).2.2.flatten ++ x.drop ((itGo (u :: us).flatten pre.length false).foldl (stStep x) c).1 = c.2.2.flatten ++ pre.drop c.1 ++ ((u :: us).map keptU).flatten := by
      intro e1 e2
      have e3 : (x.drop c.1).take (pre.length - c.1) = pre.drop c.1 := by
        rw [hx, List.drop_append_of_le_length hle, List.take_append_of_le_length (by simp), List.take_of_length_le (by simp)]
      rw [e2, st_units x us h' (pre ++ u) hx' _ rfl (Nat.le_refl _), List.map_cons, List.flatten_cons, e1, e3]
      by_cases hq : c.1 = pre.length
      · simp [hq]
      · simp [hq]
    obtain ⟨c1, c2, c3⟩ := c
    dsimp only at hc; subst hc
    have hu := h u (by simp)
    simp only [units, kindsL, List.mem_cons, List.not_mem_nil, or_false] at hu
    rcases hu with rfl | rfl | rfl | rfl | rfl | rfl | rfl | rfl | rfl
    · refine plain rfl ?_; rw [List.length_append]; rfl
    · refine plain rfl ?_; rw [List.length_append]; rfl
    · refine plain rfl ?_; rw [List.length_append]; rfl
    · refine quote rfl ?_; rw [List.length_append]; rfl
    · refine plain rfl ?_; rw [List.length_append]; rfl
    · refine plain rfl ?_; rw [List.length_append]; rfl
    · refine plain rfl ?_; rw [List.length_append]; rfl
    · refine quote rfl ?_; rw [List.length_append]; rfl
    · refine plain rfl ?_; rw [List.length_append]; rfl
theorem keptU_of {u : List Nat} (h : 34 ∉ u) : keptU u = u := by
  unfold keptU
  split
  · simp at h
  · rfl
theorem strip_units (us : List (List Nat)) (h : ∀ u ∈ us, u ∈ units) : strip us.flatten = (us.map keptU).flatten := by
  unfold strip
  split
  · have q := st_units us.flatten us h [] rfl (0, none, []) rfl (Nat.le_refl _)
    have e : stFold us.flatten (itOut us.flatten).length = (itGo us.flatten 0 false).foldl (stStep us.flatten) (0, none, []) := by
      unfold stFold itOut; rw [List.take_length]
    rw [e]
    simp only [List.length_nil, List.flatten_nil, List.drop_nil, List.nil_append] at q
    rw [← q]
    split
    · simp
    · rw [List.drop_eq_nil_of_le (by omega)]; simp
  · rename_i hn
    have : ∀ u ∈ us, keptU u = u := fun u hu => keptU_of fun h9 => hn (List.mem_flatten.2 ⟨u, hu, h9⟩)
    rw [List.map_congr_left (g := id) (by simpa using this), List.map_id]
theorem chk_units (us : List (List Nat)) (h : ∀ u ∈ us, u ∈ units) : chk us.flatten = decide (us.foldl chU (some 0) = some 0) := by
  unfold chk itOut; rw [strip_units us h, ch_units us h]
end

section
/-- the rows and opened numbers that may stand after k turns of _law_row -/
noncomputable def RS (p : Nat) : Nat → List (List Nat × Nat)
  | 0 => [([], 0)]
  | k + 1 => (RS p k).flatMap fun c => (List.range (p + 1 - max c.2 (k + 1))).map fun r => (c.1 ++ (List.replicate (max c.2 (k + 1) + r - c.2) 40 ++ [41]), max c.2 (k + 1) + r)
theorem rowFold_RS (p : Nat) (n : Int) : ∀ k, k ≤ p → ((rowFold p n k).2.1, (rowFold p n k).2.2) ∈ RS p k
  | 0, _ => by simp [rowFold, RS]
  | k + 1, hk => by
    have ih := rowFold_RS p n k (by omega)
    obtain ⟨h1, _⟩ := rowFold_le p n k (by omega)
    rw [rowFold_succ]
    generalize rowFold p n k = c at ih h1
    obtain ⟨c1, c2, c3⟩ := c
    dsimp only at ih h1
    have hd : ((p + 1 - max c3 (k + 1) : Nat) : Int) > 0 := by omega
    have hm := Int.fmod_lt_of_pos c1 hd
    have hn := Int.fmod_nonneg_of_pos c1 hd
    simp only [rowStep, RS, List.mem_flatMap, List.mem_map, List.mem_range]
    refine ⟨(c2, c3), ih, (Int.fmod c1 ((p + 1 - max c3 (k + 1) : Nat) : Int)).toNat, ?_, rfl⟩
    show (Int.fmod c1 ((p + 1 - max c3 (k + 1) : Nat) : Int)).toNat < p + 1 - max c3 (k + 1)
    clear ih h1 hd
    generalize p + 1 - max c3 (k + 1) = M at *
    omega
/-- all rows of p pairs -/
noncomputable def rowsL (p : Nat) : List (List Nat) := (RS p p).map (·.1)
theorem rowOf_mem (n : Int) (p : Nat) : rowOf n p ∈ rowsL p :=
  List.mem_map.2 ⟨_, rowFold_RS p n p (Nat.le_refl p), rfl⟩
theorem rows3 : rowsL 3 = [[40, 41, 40, 41, 40, 41], [40, 41, 40, 40, 41, 41], [40, 40, 41, 41, 40, 41], [40, 40, 41, 40, 41, 41], [40, 40, 40, 41, 41, 41]] := by decide +kernel
noncomputable def plainB (x : List Nat) : Bool := x.all fun c => c == 40 || c == 41
theorem rows_plain : ∀ p ∈ [3, 4, 5], ∀ r ∈ rowsL p, plainB r = true ∧ r.length = 2 * p := by decide +kernel
end

section
/-- in rising order, each once -/
noncomputable def risB : List (List Nat) → Bool
  | a :: b :: r => ltL a b && risB (b :: r)
  | _ => true
noncomputable def partsL (row : List Nat) (p : Nat) : List Int := (ptF row (List.replicate (2 * p) []) p).2.1
/-- the products, in the order of the two loops -/
noncomputable def prodsL (ks : List Int) : List Int := (List.range ks.length).flatMap fun i => (List.range (i + 1)).map fun j => ks.getD i 0 * ks.getD j 0
noncomputable def rowOK (p : Nat) (row : List Nat) : Bool :=
  risB (grown row) && (grown row).length == 1 + (p + 1) * (p + 1) && bisL (grown row) [41, 41] == bisL (grown row) [41] + (p + 1) &&
    (((grown row).countP chk : Nat) : Int) == 1 + (prodsL (partsL row p)).sum
theorem rowsOK3 : ∀ r ∈ rowsL 3, rowOK 3 r = true := by decide +kernel
theorem rowsOK4 : ∀ r ∈ rowsL 4, rowOK 4 r = true := by decide +kernel
end

section
theorem kind_still (o : Option Int) : ∀ u ∈ kindsL, chU o u = o := by
  intro u hu
  simp only [kindsL, List.mem_cons, List.not_mem_nil, or_false] at hu
  cases o with
  | none => rfl
  | some k => rcases hu with rfl | rfl | rfl | rfl | rfl | rfl | rfl <;> rfl
theorem kind_at {hs : List (List Nat)} (h : ∀ q ∈ hs, q ∈ kindsL) (k : Nat) : hs.getD k [] ∈ kindsL := by
  rw [List.getD_eq_getElem?_getD]
  cases e : hs[k]? with
  | none => exact List.mem_cons_self ..
  | some q => exact h q (List.mem_of_getElem? e)
theorem sign_at {row : List Nat} (h : plainB row = true) {k : Nat} (hk : k < row.length) : [row.getD k 0] ∈ units := by
  have h1 := List.all_eq_true.mp h row[k] (List.getElem_mem _)
  rw [List.getD_eq_getElem?_getD, List.getElem?_eq_getElem hk, Option.getD_some]
  simp only [Bool.or_eq_true, beq_iff_eq] at h1
  rcases h1 with h1 | h1 <;> simp [h1, units]
/-- a front is a row of units -/
noncomputable def FrontIs (us : List (List Nat)) (f : List Nat) : Prop := f = us.flatten ∧ ∀ u ∈ us, u ∈ units
theorem front_step {row : List Nat} {hs : List (List Nat)} {f : List Nat} {us : List (List Nat)} (hr : plainB row = true) (hh : ∀ q ∈ hs, q ∈ kindsL) {i : Nat} (hi : 2 * i + 1 < row.length) (h : FrontIs us f) :
    FrontIs (us ++ [[row.getD (2 * i) 0], hs.getD (2 * i) [], [row.getD (2 * i + 1) 0], hs.getD (2 * i + 1) []]) (frontOf row hs f i) ∧
    ∀ o, (us ++ [[row.getD (2 * i) 0], hs.getD (2 * i) [], [row.getD (2 * i + 1) 0], hs.getD (2 * i + 1) []]).foldl chU o = chU (chU (us.foldl chU o) [row.getD (2 * i) 0]) [row.getD (2 * i + 1) 0] := by
  have k1 := kind_at hh (2 * i)
  have k2 := kind_at hh (2 * i + 1)
  have g1 : ∀ {u}, u ∈ kindsL → u ∈ units := fun hu => List.mem_cons_of_mem _ (List.mem_cons_of_mem _ hu)
  refine ⟨⟨?_, fun u hu => ?_⟩, fun o => ?_⟩
  · rw [frontOf, h.1, List.flatten_append]; simp
  · rcases List.mem_append.mp hu with hu | hu
    · exact h.2 u hu
    · simp only [List.mem_cons, List.not_mem_nil, or_false] at hu
      rcases hu with rfl | rfl | rfl | rfl
      · exact sign_at hr (by omega)
      · exact g1 k1
      · exact sign_at hr hi
      · exact g1 k2
  · rw [List.foldl_append]
    simp only [List.foldl_cons, List.foldl_nil]
    rw [kind_still _ _ k1, kind_still _ _ k2]
theorem parts_same {row : List Nat} {hs gs : List (List Nat)} (hr : plainB row = true) (hh : ∀ q ∈ hs, q ∈ kindsL) (hg : ∀ q ∈ gs, q ∈ kindsL) : ∀ n, 2 * n ≤ row.length →
    ∃ us vs, FrontIs us (ptF row hs n).1 ∧ FrontIs vs (ptF row gs n).1 ∧ (∀ o, us.foldl chU o = vs.foldl chU o) ∧ (ptF row hs n).2 = (ptF row gs n).2
  | 0, _ => ⟨[], [], ⟨rfl, by simp⟩, ⟨rfl, by simp⟩, fun _ => rfl, rfl⟩
  | n + 1, hn => by
    obtain ⟨us, vs, h1, h2, h3, h4⟩ := parts_same hr hh hg n (by omega)
    obtain ⟨f1, g1⟩ := front_step (i := n) hr hh (by omega) h1
    obtain ⟨f2, g2⟩ := front_step (i := n) hr hg (by omega) h2
    have hc : chk (frontOf row hs (ptF row hs n).1 n) = chk (frontOf row gs (ptF row gs n).1 n) := by
      rw [f1.1, f2.1, chk_units _ f1.2, chk_units _ f2.2, g1, g2, h3]
    rw [ptF_succ, ptF_succ]
    unfold ptStep
    refine ⟨us ++ [[row.getD (2 * n) 0], hs.getD (2 * n) [], [row.getD (2 * n + 1) 0], hs.getD (2 * n + 1) []], vs ++ [[row.getD (2 * n) 0], gs.getD (2 * n) [], [row.getD (2 * n + 1) 0], gs.getD (2 * n + 1) []], ?_, ?_, fun o => by rw [g1, g2, h3], ?_⟩
    · split <;> exact f1
    · split <;> exact f2
    · rw [hc, h4]; split <;> rfl
theorem parts_bare {row : List Nat} {hs : List (List Nat)} {p : Nat} (hr : plainB row = true) (hh : ∀ q ∈ hs, q ∈ kindsL) (hn : row.length = 2 * p) : (ptF row hs p).2.1 = partsL row p := by
  obtain ⟨_, _, _, _, _, h⟩ := parts_same (gs := List.replicate (2 * p) []) hr hh (by intro q hq; rw [(List.mem_replicate.mp hq).2]; exact List.mem_cons_self ..) p (by omega)
  unfold partsL; rw [h]
end

section
theorem rows_parts : ∀ p ∈ [3, 4], ∀ r ∈ rowsL p, (partsL r p).length ≤ 4 ∧ ∀ k ∈ partsL r p, 0 ≤ k ∧ k ≤ 4 := by decide +kernel
theorem rows_len : ∀ p ∈ [3, 4], ∀ r ∈ rowsL p, (grown r).all (fun t => decide (t.length ≤ 12)) = true := by decide +kernel
theorem rows_com : ∀ p ∈ [3, 4], ∀ r ∈ rowsL p, (rowsL (p + 1)).all (fun q => decide (comL (r ++ [122, 121]) (q ++ [90, 120]) < r.length + 2)) = true := by decide +kernel
/-- the products up to the places i, j -/
noncomputable def prodsTo (ks : List Int) (i j : Nat) : List Int :=
  ((List.range i).flatMap fun a => (List.range (a + 1)).map fun b => ks.getD a 0 * ks.getD b 0) ++ (List.range j).map fun b => ks.getD i 0 * ks.getD b 0
theorem prodsTo_end (ks : List Int) : prodsTo ks ks.length 0 = prodsL ks := by simp [prodsTo, prodsL]
theorem prodsTo_in (ks : List Int) (i j : Nat) : prodsTo ks i (j + 1) = prodsTo ks i j ++ [ks.getD i 0 * ks.getD j 0] := by
  simp [prodsTo, List.range_succ]
theorem prodsTo_next (ks : List Int) (i : Nat) : prodsTo ks i (i + 1) = prodsTo ks (i + 1) 0 := by
  simp [prodsTo, List.range_succ]
theorem prodsTo_len0 (ks : List Int) : ∀ i, (prodsTo ks i 0).length ≤ i * (i + 1)
  | 0 => by simp [prodsTo]
  | i + 1 => by
    have ih := prodsTo_len0 ks i
    rw [← prodsTo_next]
    have e : ∀ j, (prodsTo ks i j).length = (prodsTo ks i 0).length + j := by
      intro j; simp [prodsTo]
    rw [e]
    have : (i + 1) * (i + 1 + 1) = i * (i + 1) + 2 * (i + 1) := by simp only [Nat.add_mul, Nat.mul_add, Nat.one_mul, Nat.mul_one]; omega
    omega
theorem prodsTo_len (ks : List Int) (i j : Nat) (hi : i ≤ 4) (hj : j ≤ i + 1) : (prodsTo ks i j).length ≤ 100 := by
  have e : (prodsTo ks i j).length = (prodsTo ks i 0).length + j := by simp [prodsTo]
  have h0 := prodsTo_len0 ks i
  have h1 : i * (i + 1) ≤ 4 * 5 := Nat.mul_le_mul hi (by omega)
  omega
section
variable {prog : Program} {w : World} {A : Around} {E : Value → Shared → Prop} {s : Shared} {h₀ : Heap} {L l : Addr} {news : List (Addr × Obj)} {xs : List (Int × Tok)} {n : Nat}
theorem len_av {Q : Value → Shared → Prop} (N : News h₀ L s.heap news) (hm : (l, listOf (xs.map av).toArray n) ∈ news) (hfit : xs.length ≤ 1000)
    (h : ∀ t tk, Q (.int (xs.length : Int) t) { s with toks := tk }) : wpAny (model prog w) A (call (.builtin "len") [.ref l]) Q E s :=
  kst_len N hm (List.length_map ..) (by omega) (h _ _)
theorem item_av {value slice : PySem.Expr} {k : Int} {u : Tok} {Q : Value → Shared → Prop} (N : News h₀ L s.heap news) (hm : (l, listOf (xs.map av).toArray n) ∈ news) (h0 : 0 ≤ k) (hk : k < (xs.length : Int)) (hfit : xs.length ≤ 1000)
    (h : ∀ t, Q (.int ((xs.map (·.1)).getD k.toNat 0) t) s)
    (hs : subscripted slice false (.ref l) (.int k u) = operate [.ref l, .int k u] (getItem (.ref l) (.int k u)) := by with_unfolding_all rfl) :
    wpAny (model prog w) A (subscriptTail value slice (.ref l) (.int k u)) Q E s := by
  have hl : s.heap.IsList l (xs.map av).toArray := ⟨_, (N _ hm).1, rfl, n, rfl⟩
  have hlt : k.toNat < xs.length := by omega
  have e : ((xs.map (·.1)).getD k.toNat 0) = (xs[k.toNat]).1 := by simp [List.getD_eq_getElem?_getD, hlt]
  refine tail_any hl.typeIs slot_list_getitem.lookup (wpAny_getItem_list hl h0 (by omega) (x := av xs[k.toNat]) (by simp [hlt]) ?_) hs
  have h9 := h (xs[k.toNat]).2
  rw [e] at h9
  exact h9
theorem ints_av : ∀ (xs : List (Int × Tok)), IntsAre (xs.map av) (xs.map (·.1))
  | [] => .nil
  | p :: xs => .cons p.1 p.2 (ints_av xs)
theorem count_step {α : Type} (f : α → Bool) {l : List α} {i : Nat} {q : α} (h : l[i]? = some q) : (l.take (i + 1)).countP f = (l.take i).countP f + if f q then 1 else 0 := by
  rw [List.take_add_one, h, List.countP_append]
  simp [List.countP_cons]
theorem count_both {α : Type} (f : α → Bool) : ∀ (l : List α), l.countP f + l.countP (fun q => !f q) = l.length
  | [] => rfl
  | a :: l => by
    have ih := count_both f l
    simp only [List.countP_cons, List.length_cons]
    cases f a <;> simp <;> omega
theorem small_bits {k : Int} (h0 : 0 ≤ k) (h4 : k ≤ 4) : Builtin.Int.intBits k ≤ 64 := by
  have : k = 0 ∨ k = 1 ∨ k = 2 ∨ k = 3 ∨ k = 4 := by omega
  rcases this with rfl | rfl | rfl | rfl | rfl <;> decide +kernel
theorem getD_small {ks : List Int} (h : ∀ k ∈ ks, 0 ≤ k ∧ k ≤ 4) (i : Nat) : 0 ≤ ks.getD i 0 ∧ ks.getD i 0 ≤ 4 := by
  rw [List.getD_eq_getElem?_getD]
  cases e : ks[i]? with
  | none => decide
  | some q => exact h q (List.mem_of_getElem? e)
end
end

section
/-- a number is reckoned before it is handed on -/
noncomputable def force {α : Type} (n : Nat) (f : Nat → α) : α := match n with
  | 0 => f 0
  | k + 1 => f (k + 1)
theorem force_eq {α : Type} (n : Nat) (f : Nat → α) : force n f = f n := by cases n <;> rfl
noncomputable def minN (a b : Nat) : Nat := bif Nat.ble a b then a else b
theorem minN_eq (a b : Nat) : minN a b = min a b := by
  unfold minN
  cases h : Nat.ble a b with
  | true => have := Nat.le_of_ble_eq_true h; simp; omega
  | false => have : ¬ a ≤ b := fun h2 => by rw [Nat.ble_eq_true_of_le h2] at h; cases h
             simp; omega
noncomputable def subN (c d : Nat) : Nat := bif Nat.beq c d then 0 else bif Nat.beq (lowC c) (lowC d) then 1 else 2
theorem subN_eq (c d : Nat) : subC c d = (subN c d : Int) := by
  unfold subC subN
  have e : ∀ a b : Nat, Nat.beq a b = decide (a = b) := fun a b => by
    by_cases h : a = b
    · subst h; simp
    · rw [decide_eq_false h]
      cases hb : Nat.beq a b with
      | false => rfl
      | true => exact absurd (Nat.eq_of_beq_eq_true hb) h
  rw [e, e]
  by_cases h1 : c = d
  · simp [h1]
  · by_cases h2 : lowC c = lowC d <;> simp [h1, h2]
/-- the inner loop, from sign to sign -/
noncomputable def rowN {α : Type} (bc : Nat) : List Nat → List Nat → Nat → Nat → Nat → (List Nat → Nat → Nat → α) → α
  | a :: A, x :: row, d, e, m, k => force (minN (minN e x + 2) (d + subN bc a)) fun r => force (minN r m) fun m' => rowN bc A row x r m' fun nr e' m'' => k (r :: nr) e' m''
  | [], _, _, e, m, k => k [] e m
  | _ :: _, [], _, e, m, k => k [] e m
/-- the outer loop -/
noncomputable def loopN (A : List Nat) : List Nat → Nat → List Nat → Nat → Nat
  | [], _, _, res => res
  | b :: B, j, row, _ => rowN b A row (2 * j) (2 * j) 9223372036854775807 fun nr e m => bif Nat.ble m 7 then loopN A B (j + 1) nr e else 8
noncomputable def evensN : Nat → Nat → List Nat
  | 0, _ => []
  | n + 1, i => (2 + i * 2) :: evensN n (i + 1)
noncomputable def levN (A B : List Nat) : Nat := loopN A B 0 (evensN A.length 0) 0

noncomputable def cI (l : List Nat) : List Int := l.map fun n : Nat => (n : Int)
theorem natI_min (a b : Nat) : min (a : Int) (b : Int) = ((min a b : Nat) : Int) := by
  rcases Nat.le_total a b with h | h
  · rw [Int.min_eq_left (Int.ofNat_le.mpr h), Nat.min_eq_left h]
  · rw [Int.min_eq_right (Int.ofNat_le.mpr h), Nat.min_eq_right h]
theorem lvIn_shift (a : Nat) (A : List Nat) (bc : Nat) (r : Int) : ∀ (ks : List Nat) (row : List Int) (d e m : Int),
    (ks.map (· + 1)).foldl (lvIn (a :: A) bc) (r :: row, d, e, m) = (r :: (ks.foldl (lvIn A bc) (row, d, e, m)).1, (ks.foldl (lvIn A bc) (row, d, e, m)).2)
  | [], row, d, e, m => rfl
  | k :: ks, row, d, e, m => by
    rw [List.map_cons, List.foldl_cons, List.foldl_cons]
    have h : lvIn (a :: A) bc (r :: row, d, e, m) (k + 1) = (r :: (lvIn A bc (row, d, e, m) k).1, (lvIn A bc (row, d, e, m) k).2) := by simp [lvIn]
    rw [h]
    exact lvIn_shift a A bc r ks _ _ _ _
theorem lvInF_cons (a : Nat) (A : List Nat) (bc : Nat) (x : Int) (row : List Int) (d e m : Int) (n : Nat) :
    lvInF (a :: A) bc (x :: row, d, e, m) (n + 1) = (min (min e x + 2) (d + subC bc a) :: (lvInF A bc (row, x, min (min e x + 2) (d + subC bc a), min (min (min e x + 2) (d + subC bc a)) m) n).1, (lvInF A bc (row, x, min (min e x + 2) (d + subC bc a), min (min (min e x + 2) (d + subC bc a)) m) n).2) := by
  unfold lvInF
  rw [List.range_succ_eq_map, List.foldl_cons]
  have h : lvIn (a :: A) bc (x :: row, d, e, m) 0 = (min (min e x + 2) (d + subC bc a) :: row, x, min (min e x + 2) (d + subC bc a), min (min (min e x + 2) (d + subC bc a)) m) := by simp [lvIn]
  rw [h]
  exact lvIn_shift a A bc _ _ _ _ _ _
theorem rowN_eq {α : Type} (bc : Nat) : ∀ (A row : List Nat) (d e m : Nat) (k : List Nat → Nat → Nat → α), row.length = A.length →
    ∃ (nr : List Nat) (e' m' : Nat), nr.length = A.length ∧ (∃ d', lvInF A bc (cI row, d, e, m) A.length = (cI nr, d', (e' : Int), (m' : Int))) ∧ rowN bc A row d e m k = k nr e' m'
  | [], [], d, e, m, k, _ => ⟨[], e, m, rfl, ⟨d, rfl⟩, rfl⟩
  | a :: A, x :: row, d, e, m, k, h => by
    have hr : (min (min (e : Int) (x : Int) + 2) ((d : Int) + subC bc a)) = ((minN (minN e x + 2) (d + subN bc a) : Nat) : Int) := by
      rw [subN_eq, minN_eq, minN_eq, natI_min e x]
      exact natI_min (min e x + 2) (d + subN bc a)
    have hm : min ((minN (minN e x + 2) (d + subN bc a) : Nat) : Int) (m : Int) = ((minN (minN (minN e x + 2) (d + subN bc a)) m : Nat) : Int) := by
      rw [minN_eq (minN (minN e x + 2) (d + subN bc a))]; exact natI_min _ _
    obtain ⟨nr, e', m', h1, ⟨d', h2⟩, h3⟩ := rowN_eq bc A row x (minN (minN e x + 2) (d + subN bc a)) (minN (minN (minN e x + 2) (d + subN bc a)) m) (fun nr e' m'' => k (minN (minN e x + 2) (d + subN bc a) :: nr) e' m'') (by simpa using h)
    refine ⟨minN (minN e x + 2) (d + subN bc a) :: nr, e', m', by simp [h1], ⟨d', ?_⟩, ?_⟩
    · show lvInF (a :: A) bc ((x : Int) :: cI row, d, e, m) (A.length + 1) = _
      rw [lvInF_cons, hr, hm, h2]; rfl
    · rw [rowN, force_eq, force_eq, h3]
theorem evensN_eq : ∀ (n i : Nat), cI (evensN n i) = (List.range' i n).map fun i : Nat => (2 : Int) + (i : Nat) * 2
  | 0, _ => rfl
  | n + 1, i => by
    rw [evensN, List.range'_succ]
    show ((2 + i * 2 : Nat) : Int) :: cI (evensN n (i + 1)) = _
    rw [evensN_eq n (i + 1)]
    simp
theorem evensN_len : ∀ (n i : Nat), (evensN n i).length = n
  | 0, _ => rfl
  | n + 1, i => by rw [evensN, List.length_cons, evensN_len n]
theorem loopN_eq (A B : List Nat) : ∀ (k j : Nat) (row : List Nat) (res : Nat), j + k = B.length → row.length = A.length → lvF A B j = some (cI row, (res : Int)) → levAB A B = (loopN A (B.drop j) j row res : Int)
  | 0, j, row, res, hj, _, h => by
    obtain rfl : j = B.length := hj
    rw [List.drop_length]
    unfold levAB; rw [h]; rfl
  | k + 1, j, row, res, hj, hr, h => by
    have hlt : j < B.length := by omega
    rw [List.drop_eq_getElem_cons hlt, loopN]
    obtain ⟨nr, e', m', h1, ⟨d', h2⟩, h3⟩ := rowN_eq (B[j]) A row (2 * j) (2 * j) 9223372036854775807 (fun nr e m => bif Nat.ble m 7 then loopN A (B.drop (j + 1)) (j + 1) nr e else 8) hr
    rw [h3]
    have hs := lvF_succ A B j
    rw [h] at hs
    have hg : B.getD j 0 = B[j] := by simp [List.getD_eq_getElem?_getD, hlt]
    have h2' : lvInF A (B[j]) (cI row, (j : Int) * 2, (j : Int) * 2, 9223372036854775807) A.length = (cI nr, d', (e' : Int), (m' : Int)) := by
      rw [← h2]
      have : (j : Int) * 2 = ((2 * j : Nat) : Int) := by omega
      rw [this]; rfl
    simp only [lvOut, hg, h2'] at hs
    cases hb : Nat.ble m' 7 with
    | true =>
      have := Nat.le_of_ble_eq_true hb
      rw [if_neg (by omega)] at hs
      exact loopN_eq A B k (j + 1) nr e' (by omega) h1 hs
    | false =>
      have : ¬ m' ≤ 7 := fun h2 => by rw [Nat.ble_eq_true_of_le h2] at hb; cases hb
      rw [if_pos (by omega)] at hs
      have q := lvF_none A B (j + 1) hs (B.length - (j + 1))
      rw [show j + 1 + (B.length - (j + 1)) = B.length by omega] at q
      unfold levAB; rw [q]; rfl
theorem levN_eq (A B : List Nat) : levAB A B = (levN A B : Int) := by
  have := loopN_eq A B B.length 0 (evensN A.length 0) 0 (by omega) (evensN_len ..) (by
    show some _ = some _
    rw [evensN_eq, ← List.range_eq_range']; rfl)
  rw [List.drop_zero] at this
  exact this
end

section
noncomputable def levR (row wider : List Nat) : Int := levAB ((row ++ [122, 121]).drop (comL (row ++ [122, 121]) (wider ++ [90, 120]))) ((wider ++ [90, 120]).drop (comL (row ++ [122, 121]) (wider ++ [90, 120])))
noncomputable def pairOK (row : List Nat) (k : List (List Nat)) (wider : List Nat) : Bool :=
  (decide (levR row wider = 7)) == (decide (k[bisL k wider]? = some wider))
noncomputable def levOK (p : Nat) (row : List Nat) : Bool := (rowsL (p + 1)).all (pairOK row (grown row))
/-- the same, by numbers at hand -/
noncomputable def pairN (row : List Nat) (k : List (List Nat)) (wider : List Nat) : Bool :=
  Nat.beq (levN ((row ++ [122, 121]).drop (comL (row ++ [122, 121]) (wider ++ [90, 120]))) ((wider ++ [90, 120]).drop (comL (row ++ [122, 121]) (wider ++ [90, 120])))) 7 == (decide (k[bisL k wider]? = some wider))
theorem pairN_eq (row : List Nat) (k : List (List Nat)) (wider : List Nat) : pairN row k wider = pairOK row k wider := by
  unfold pairN pairOK levR
  rw [levN_eq]
  generalize levN _ _ = n
  have : Nat.beq n 7 = decide ((n : Int) = 7) := by
    by_cases h : n = 7
    · subst h; rfl
    · rw [decide_eq_false (by omega)]
      cases hb : Nat.beq n 7 with
      | false => rfl
      | true => exact absurd (Nat.eq_of_beq_eq_true hb) h
  rw [this]
theorem lev_of {p : Nat} {row : List Nat} (h : (rowsL (p + 1)).all (pairN row (grown row)) = true) : levOK p row = true := by
  unfold levOK
  rw [List.all_eq_true] at h ⊢
  intro x hx
  rw [← pairN_eq]; exact h x hx
theorem levOK3 : ∀ r ∈ rowsL 3, levOK 3 r = true := by
  have h : ∀ r ∈ rowsL 3, (rowsL 4).all (pairN r (grown r)) = true := by decide +kernel
  exact fun r hr => lev_of (h r hr)
theorem levOK4 : ∀ r ∈ rowsL 4, levOK 4 r = true := by
  have h : ∀ r ∈ rowsL 4, (rowsL 5).all (pairN r (grown r)) = true := by decide +kernel
  exact fun r hr => lev_of (h r hr)
theorem pair_of {p : Nat} {row q : List Nat} (h : levOK p row = true) (hq : q ∈ rowsL (p + 1)) : decide (levR row q = 7) = decide ((grown row)[bisL (grown row) q]? = some q) :=
  eq_of_beq (List.all_eq_true.mp h q hq)
theorem plain6 {x : List Nat} (h : plainB x = true) : ∀ c ∈ x, Sign6 c := by
  intro c hc
  have h1 := List.all_eq_true.mp h c hc
  simp only [Bool.or_eq_true, beq_iff_eq] at h1
  rcases h1 with h1 | h1
  · exact .inl h1
  · exact .inr (.inl h1)
theorem plain6z {x : List Nat} (h : plainB x = true) : ∀ c ∈ x ++ [122, 121], Sign6 c := by
  intro c hc
  rcases List.mem_append.mp hc with hc | hc
  · exact plain6 h c hc
  · simp only [List.mem_cons, List.not_mem_nil, or_false] at hc
    rcases hc with rfl | rfl <;> simp [Sign6]
theorem plain6x {x : List Nat} (h : plainB x = true) : ∀ c ∈ x ++ [90, 120], Sign6 c := by
  intro c hc
  rcases List.mem_append.mp hc with hc | hc
  · exact plain6 h c hc
  · simp only [List.mem_cons, List.not_mem_nil, or_false] at hc
    rcases hc with rfl | rfl <;> simp [Sign6]
theorem plainOk {x : List Nat} (h : plainB x = true) (hl : x.length ≤ 400) : OkT x := by
  refine ⟨fun c hc => ?_, hl⟩
  have h1 := List.all_eq_true.mp h c hc
  simp only [Bool.or_eq_true, beq_iff_eq] at h1
  omega
end

section
theorem risB_pair : ∀ (l : List (List Nat)), risB l = true → l.Pairwise (· < ·)
  | [], _ => .nil
  | [a], _ => by simp
  | a :: b :: r, h => by
    simp only [risB, Bool.and_eq_true] at h
    have ih := risB_pair (b :: r) h.2
    have hab : a < b := by have := h.1; rw [ltL_iff] at this; exact of_decide_eq_true this
    refine List.pairwise_cons.mpr ⟨fun c hc => ?_, ih⟩
    rcases List.mem_cons.mp hc with rfl | hc
    · exact hab
    · exact List.lt_trans hab ((List.pairwise_cons.mp ih).1 c hc)
theorem sortedS_pair : ∀ (l : List Str), sortedS l = true → l.Pairwise (fun a b => ¬ b.cps.toList < a.cps.toList)
  | [], _ => .nil
  | [a], _ => by simp
  | a :: b :: r, h => by
    simp only [sortedS, risingS, Bool.and_eq_true] at h
    have ih := sortedS_pair (b :: r) h.2
    have hab : ¬ b.cps.toList < a.cps.toList := by
      intro hlt
      have := h.1
      rw [ltCps_eq, decide_eq_true hlt] at this; cases this
    refine List.pairwise_cons.mpr ⟨fun c hc => ?_, ih⟩
    rcases List.mem_cons.mp hc with rfl | hc
    · exact hab
    · have hbc := (List.pairwise_cons.mp ih).1 c hc
      have h1 : a.cps.toList ≤ b.cps.toList := hab
      have h2 : b.cps.toList ≤ c.cps.toList := hbc
      exact List.le_trans h1 h2
theorem perm_same {ks : List (List Nat)} {ss : List Str} (hp : ss.Perm (ks.map S)) (h1 : risB ks = true) (h2 : sortedS ss = true) : ss = ks.map S := by
  refine List.Perm.eq_of_pairwise (le := fun a b : Str => ¬ b.cps.toList < a.cps.toList) (fun a b _ _ h3 h4 => ?_) (sortedS_pair ss h2) ?_ hp
  · have : a.cps.toList = b.cps.toList := List.le_antisymm h3 h4
    exact Str.ext' (by simpa using congrArg List.toArray this)
  · refine List.pairwise_map.mpr ((risB_pair ks h1).imp ?_)
    intro a b hab
    show ¬ (S b).cps.toList < (S a).cps.toList
    rw [S_list, S_list]
    exact fun hba => List.lt_irrefl _ (List.lt_trans hab hba)
theorem strs_sv : ∀ (xs : List (List Nat × Tok)), StrsAre (xs.map sv) (xs.map fun p => S p.1)
  | [] => .nil
  | p :: xs => .cons (S p.1) p.2 (strs_sv xs)
theorem sv_strs : ∀ {vs : List Value} {ks : List (List Nat)}, StrsAre vs (ks.map S) → ∃ ys : List (List Nat × Tok), vs = ys.map sv ∧ ys.map (·.1) = ks
  | _, [], .nil => ⟨[], rfl, rfl⟩
  | _, k :: ks, .cons _ t h => by
    obtain ⟨ys, h1, h2⟩ := sv_strs h
    exact ⟨(k, t) :: ys, by rw [h1]; rfl, by rw [List.map_cons, h2]⟩
section
variable {prog : Program} {w : World} {A : Around} {E : Value → Shared → Prop} {s : Shared} {h₀ : Heap} {L l l2 : Addr} {m : Str → Option Value} {news : List (Addr × Obj)} {Q : Value → Shared → Prop} {n n2 : Nat} {xs ys : List (List Nat × Tok)}
theorem sorted_sv (F : Fr h₀ L s.heap m) (N : News h₀ L s.heap news) (hm : (l, listOf (xs.map sv).toArray n) ∈ news) (hr : risB (xs.map (·.1)) = true) (h64 : xs.length < 64)
    (h : ∀ D h' e (ys : List (List Nat × Tok)), ys.map (·.1) = xs.map (·.1) → Fr h₀ L h' m → News h₀ L h' ((D, listOf (ys.map sv).toArray e) :: news) → Q (.ref D) { s with heap := h' }) :
    wpAny (model prog w) A (call (.builtin "sorted") [.ref l]) Q E s := by
  refine sorted_N_str F N (vs := xs.map sv) ⟨_, (N _ hm).1, rfl, n, rfl⟩ (strs_sv xs) (by simpa using h64) ?_
  intro h' vs' ss' e F' N' hS hp hs
  have e1 : (xs.map fun p => S p.1) = (xs.map (·.1)).map S := by rw [List.map_map]; rfl
  rw [e1] at hp
  have e2 := perm_same hp hr hs
  subst e2
  obtain ⟨ys, rfl, hy⟩ := sv_strs hS
  exact h _ h' e ys hy F' N'
theorem readsAll_sv (h : Heap) : ∀ (xs : List (List Nat × Tok)), ReadsAll h (xs.map sv) (xs.map fun p => PyData.str (S p.1)) []
  | [] => .nil
  | p :: xs => readsAll_cons_val (.str (S p.1) p.2) (readsAll_sv h xs)
theorem canLay_sv : ∀ (xs : List (List Nat × Tok)), (∀ p ∈ xs, OkT p.1) → PyData.canLayAll0 (xs.map fun p => PyData.str (S p.1)) = true ∧ PyData.depthAll (xs.map fun p => PyData.str (S p.1)) = 0
  | [], _ => ⟨rfl, rfl⟩
  | p :: xs, h => by
    obtain ⟨h1, h2⟩ := canLay_sv xs fun q hq => h q (List.mem_cons_of_mem _ hq)
    have h3 := (h p (List.mem_cons_self ..)).str
    simp [PyData.canLayAll0, PyData.canLay0, PyData.depthAll, PyData.depth, h1, h2, h3]
theorem shaped_sv (xs : List (List Nat × Tok)) (h : ∀ p ∈ xs, OkT p.1) : SeqAt.shaped (.list (xs.map fun p => PyData.str (S p.1))) = true := by
  obtain ⟨h1, h2⟩ := canLay_sv xs h
  simp [SeqAt.shaped, PyData.canLay0, PyData.depth, h1, h2]
theorem eqvAll_refl_sv : ∀ (ks : List (List Nat)), PyData.eqvAll (ks.map fun k => PyData.str (S k)) (ks.map fun k => PyData.str (S k)) = true
  | [] => rfl
  | k :: ks => by simp [PyData.eqvAll, PyData.eqv, eqvAll_refl_sv ks]
theorem ne_same_sv (N : News h₀ L s.heap news) (hm : (l, listOf (xs.map sv).toArray n) ∈ news) (hm2 : (l2, listOf (ys.map sv).toArray n2) ∈ news) (he : ys.map (·.1) = xs.map (·.1)) (hx : ∀ p ∈ xs, OkT p.1) (hu : A.units + 64 < cLine) (h : Q (.bool false) s) :
    wpAny (model prog w) A (compareOp .NotEq (.ref l) (.ref l2)) Q E s := by
  have hy : ∀ p ∈ ys, OkT p.1 := fun p hp => by
    have h1 : p.1 ∈ ys.map (·.1) := List.mem_map_of_mem hp
    rw [he] at h1
    obtain ⟨q, hq, e⟩ := List.mem_map.mp h1
    rw [← e]; exact hx q hq
  refine ne_dataH (reads_list_at (N _ hm).1 rfl rfl (by simpa using readsAll_sv s.heap xs)) (reads_list_at (N _ hm2).1 rfl rfl (by simpa using readsAll_sv s.heap ys)) (shaped_sv xs hx) (shaped_sv ys hy) hu ?_
  have e1 : (xs.map fun p => PyData.str (S p.1)) = (xs.map (·.1)).map fun k => PyData.str (S k) := by rw [List.map_map]; rfl
  have e2 : (ys.map fun p => PyData.str (S p.1)) = (xs.map (·.1)).map fun k => PyData.str (S k) := by rw [← he, List.map_map]; rfl
  rw [e1, e2]
  simp only [PyData.eqv, eqvAll_refl_sv, Bool.not_true]
  exact h
end
end

section
section
variable {prog : Program} {w : World} {A : Around} {E : Value → Shared → Prop} {s : Shared} {h₀ : Heap} {L : Addr} {m : Str → Option Value} {env : Env} {elt : Expr} {x : Str} {scope : Scope} {cl : List (Str × Addr)} {S : List (Addr × Obj) → Prop} {P : Nat → Value → Prop} {Fin : List Value → List (Addr × Obj) → Prop} {news : List (Addr × Obj)}
/-- a comprehension whose element is told by its place -/
theorem crest_any {n : Nat} (El : Nat → Value → Prop)
    (turn : ∀ i v I oI C oC D m₂ ys h tk (E' : Value → Shared → Prop), i < n → P i v → LCg.NsObj oC m₂ → m₂ x = some v → Fr h₀ L h m → News h₀ L h ((I, oI) :: (C, oC) :: (D, LCg.lst ys) :: news) → LCg.Off3 I C D news →
      wpAny (model prog w) A (eval elt (compEnvC scope cl C env)) (LCg.CompEnd h₀ L m { s with heap := h, toks := tk } I oI C oC D (LCg.lst ys) S (fun y news' => news' = news ∧ El i y)) E' { s with heap := h, toks := tk })
    (fin : ∀ ys : List Value, ys.length = n → (∀ i y, ys[i]? = some y → El i y) → Fin ys news) : LCg.CompRest prog w A h₀ L m env elt x scope cl s S P Fin n 0 [] news := by
  have key : ∀ (j i : Nat) (ys : List Value), i + j = n → ys.length = i → (∀ k y, ys[k]? = some y → El k y) → LCg.CompRest prog w A h₀ L m env elt x scope cl s S P Fin j i ys news := by
    intro j
    induction j with
    | zero =>
      intro i ys hi hl hy
      exact LCg.CompRest.zero (fin ys (by omega) hy)
    | succ j ih =>
      intro i ys hi hl hy
      refine LCg.CompRest.succ ?_
      intro v I oI C oC D m₂ h tk E' hv hC hx F N off _
      refine wpAny_mono (turn i v I oI C oC D m₂ ys h tk E' (by omega) hv hC hx F N off) (fun y s₂ hq => ?_) fun _ _ e => e
      obtain ⟨h', tk', nw, e, F', N', off', hS, hn, hy'⟩ := hq
      subst hn
      refine ⟨h', tk', nw, e, F', N', off', hS, ih (i + 1) _ (by omega) (by rw [List.length_append, hl]; rfl) ?_⟩
      intro k z hz
      rcases Nat.lt_trichotomy k ys.length with hk | hk | hk
      · exact hy k z (by rwa [List.getElem?_append_left hk] at hz)
      · subst hk
        rw [List.getElem?_append_right (Nat.le_refl _)] at hz
        simp at hz; subst hz; rw [hl]; exact hy'
      · rw [List.getElem?_eq_none (by rw [List.length_append, List.length_singleton]; omega)] at hz; cases hz
  exact key n 0 [] (by omega) rfl (by intro k y h; simp at h)
end

/-- the three new objects of a comprehension and its own names -/
structure CS (h₀ : Heap) (L : Addr) (m : Str → Option Value) (news : List (Addr × Obj)) (I C D : Addr) (m₂ : Str → Option Value) (ys : List Value) (h : Heap) : Prop where
  fr : Fr h₀ L h m
  ns : h.Ns C m₂
  led : News h₀ L h ((D, LCg.lst ys) :: news)
section
variable {prog : Program} {w : World} {A : Around} {E : Value → Shared → Prop} {s : Shared} {h₀ : Heap} {L : Addr} {m : Str → Option Value} {env : Env} {scope : Scope} {cl : List (Str × Addr)} {news : List (Addr × Obj)}
structure Apart (h₀ : Heap) (L : Addr) (news : List (Addr × Obj)) (I C D : Addr) : Prop where
  iL : I ≠ L
  cL : C ≠ L
  dL : D ≠ L
  ic : I ≠ C
  id : I ≠ D
  cd : C ≠ D
  i0 : h₀.get? I = none
  c0 : h₀.get? C = none
  d0 : h₀.get? D = none
  off : ∀ p ∈ news, p.1 ≠ I ∧ p.1 ≠ C ∧ p.1 ≠ D
theorem comp_alloc {s₂ : Shared} {I : Addr} {e : Expr} {RR : Value → Addr → Result → Shared → Prop}
    (hcell : ∀ y ∈ scope.names, y.2 ≠ .cell) (hkind : scope.kind = .function) (F : Fr h₀ L s₂.heap m) (N : News h₀ L s₂.heap news) (hI : I < s₂.heap.objs.size) (hIL : I ≠ L) (hI0 : h₀.get? I = none) (hoff : ∀ p ∈ news, p.1 ≠ I)
    (k : ∀ C D m₂ h tk, Apart h₀ L news I C D → CS h₀ L m news I C D m₂ [] h → (∀ b o, s₂.heap.get? b = some o → h.get? b = some o) →
      codeAny (model prog w) A (.compStart e 0 (.ref I) (.ref D) (compEnvC scope cl C env)) (RR (.ref D) C) { s₂ with heap := h, toks := tk }) :
    wpAny (model prog w) A (newList []) (fun acc s₃ => wpAny (model prog w) A (newFunctionEnv scope env.globals cl [] env.qual none .none (some env)) (fun cenv s₄ =>
      codeAny (model prog w) A (.compStart e 0 (.ref I) acc { cenv with scope := relabel scope env }) (RR acc cenv.locals) s₄) E s₃) E s₂ := by
  refine wpAny_newObj_type (wpAny_newFunctionEnv hcell (by intro y hy; simp at hy) (fun h₁ hns hsb => ?_) hkind)
  dsimp only at hns hsb ⊢
  generalize hH : s₂.heap.push { cls := .type "list", dict := none, data := .seq ([] : List Value).toArray } = H at hns hsb ⊢
  have hsz : H.objs.size = s₂.heap.objs.size + 1 := by rw [← hH, Heap.size_push]
  have hlt : ∀ b, b < s₂.heap.objs.size → b ≠ H.objs.size ∧ b ≠ s₂.heap.objs.size := fun b hb => by
    refine ⟨?_, Nat.ne_of_lt hb⟩
    rw [hsz]; exact Nat.ne_of_lt (Nat.lt_succ_of_lt hb)
  have hup : ∀ b o, s₂.heap.get? b = some o → h₁.get? b = some o := fun b o e => by
    exact hsb.extBut b o (hlt b (Heap.lt_size e)).1 (Heap.get?_push_of_some _ (hH ▸ Heap.get?_push_of_some _ e))
  have hnone : ∀ b, s₂.heap.objs.size ≤ b → h₀.get? b = none := fun b hb => by
    cases e : h₀.get? b with
    | none => rfl
    | some o => exact absurd (Heap.lt_size (F.keep b o e)) (Nat.not_lt.mpr hb)
  have hL := F.ns.lt
  have hDC : s₂.heap.objs.size ≠ H.objs.size := by rw [hsz]; exact Nat.ne_of_lt (Nat.lt_succ_self _)
  have hD : h₁.get? s₂.heap.objs.size = some (LCg.lst []) := by
    exact hsb.extBut _ _ hDC (Heap.get?_push_of_some _ (hH ▸ Heap.get?_push_size _ rfl))
  have hd0 := hnone s₂.heap.objs.size (Nat.le_refl _)
  have hap : Apart h₀ L news I H.objs.size s₂.heap.objs.size :=
    ⟨hIL, fun e => (hlt L hL).1 e.symm, fun e => (hlt L hL).2 e.symm, (hlt I hI).1, (hlt I hI).2, Ne.symm hDC, hI0, hnone _ (by rw [hsz]; exact Nat.le_succ _), hd0, fun p hp =>
      ⟨hoff p hp, (hlt _ (Heap.lt_size (N p hp).1)).1, (hlt _ (Heap.lt_size (N p hp).1)).2⟩⟩
  refine k H.objs.size s₂.heap.objs.size _ h₁ _ hap ⟨F.keeps hup, hns, fun p hp => ?_⟩ hup
  rcases List.mem_cons.mp hp with rfl | hp
  · exact ⟨hD, hap.dL, hd0⟩
  · exact ⟨hup _ _ (N p hp).1, (N p hp).2⟩

/-- only the iterator moves -/
theorem CS.step {I C D : Addr} {m₂ : Str → Option Value} {ys : List Value} {h h' : Heap} (z : CS h₀ L m news I C D m₂ ys h) (a : Apart h₀ L news I C D) (hk : ∀ b o, b ∉ [I] → h.get? b = some o → h'.get? b = some o) : CS h₀ L m news I C D m₂ ys h' := by
  have q : ∀ b, b ≠ I → b ∉ [I] := fun b hb hm => hb (List.mem_singleton.mp hm)
  refine ⟨⟨z.fr.ns.at' fun o e => hk _ _ (q _ (Ne.symm a.iL)) e, fun b o e => hk _ _ (q b fun hb => by rw [hb, a.i0] at e; cases e) (z.fr.keep b o e), z.fr.above⟩, z.ns.at' fun o e => hk _ _ (q _ (Ne.symm a.ic)) e, fun p hp => ⟨hk _ _ (q _ ?_) (z.led p hp).1, (z.led p hp).2⟩⟩
  rcases List.mem_cons.mp hp with rfl | hp
  · exact Ne.symm a.id
  · exact (a.off p hp).1
/-- a name of the comprehension's own is bound -/
theorem CS.bind {I C D : Addr} {m₂ m₃ : Str → Option Value} {ys : List Value} {h h' : Heap} (z : CS h₀ L m news I C D m₂ ys h) (a : Apart h₀ L news I C D) (hn : h'.Ns C m₃) (hs : Heap.SameBut C h h') : CS h₀ L m news I C D m₃ ys h' := by
  refine ⟨z.fr.change hs a.cL a.c0, hn, fun p hp => ⟨hs.extBut _ _ ?_ (z.led p hp).1, (z.led p hp).2⟩⟩
  rcases List.mem_cons.mp hp with rfl | hp
  · exact Ne.symm a.cd
  · exact (a.off p hp).2.1
theorem CS.open {I C D : Addr} {m₂ : Str → Option Value} {ys : List Value} {h : Heap} {oI : Obj} (z : CS h₀ L m news I C D m₂ ys h) (a : Apart h₀ L news I C D) (hI : h.get? I = some oI) :
    ∃ oC, LCg.NsObj oC m₂ ∧ News h₀ L h ((I, oI) :: (C, oC) :: (D, LCg.lst ys) :: news) := by
  obtain ⟨oC, heC, hoC⟩ := LCg.ns_obj z.ns
  refine ⟨oC, hoC, fun p hp => ?_⟩
  rcases List.mem_cons.mp hp with rfl | hp
  · exact ⟨hI, a.iL, a.i0⟩
  · rcases List.mem_cons.mp hp with rfl | hp
    · exact ⟨heC, a.cL, a.c0⟩
    · exact z.led p hp
theorem CS.back {I C D : Addr} {m₂ : Str → Option Value} {ys : List Value} {h : Heap} {oI oC : Obj} (F : Fr h₀ L h m) (hC : LCg.NsObj oC m₂) (N : News h₀ L h ((I, oI) :: (C, oC) :: (D, LCg.lst ys) :: news)) : CS h₀ L m news I C D m₂ ys h ∧ h.get? I = some oI :=
  ⟨⟨F, hC.ns (N _ (.tail _ (.head _))).1, fun p hp => N p (.tail _ (.tail _ hp))⟩, (N _ (.head _)).1⟩
/-- an item is hung on -/
theorem CS.push {I C D : Addr} {m₂ : Str → Option Value} {ys : List Value} {y : Value} {h h' : Heap} (z : CS h₀ L m news I C D m₂ ys h) (a : Apart h₀ L news I C D) (hs : Heap.SameBut D h h') (hD : h'.get? D = some { cls := .type "list", data := .seq (ys.toArray.push y) (ys.length + 1) }) : CS h₀ L m news I C D m₂ (ys ++ [y]) h' := by
  refine ⟨z.fr.change hs a.dL a.d0, z.ns.sameBut hs a.cd, fun p hp => ?_⟩
  rcases List.mem_cons.mp hp with rfl | hp
  · exact ⟨hD.trans (congrArg some (LCg.lst_snoc ys y)), a.dL, a.d0⟩
  · exact ⟨hs.extBut _ _ (a.off p hp).2.2 (z.led p (.tail _ hp)).1, (z.led p (.tail _ hp)).2⟩

/-- a turn's value, generators made in it and left -/
noncomputable def ElG (h₀ : Heap) (L : Addr) (m : Str → Option Value) (s₁ : Shared) (X : List (Addr × Obj)) (R : Value → Prop) (y : Value) (s₂ : Shared) : Prop :=
  ∃ h' tk gs, s₂ = { s₁ with heap := h', toks := tk, gens := gs } ∧ AllBare gs ∧ Fr h₀ L h' m ∧ News h₀ L h' X ∧ R y
theorem elg_end {s₁ : Shared} {X Y : List (Addr × Obj)} {R : Value → Prop} {y : Value} {h' : Heap} {tk : Nat} {gs : Array GenState} (hb : AllBare gs) (F : Fr h₀ L h' m) (N : News h₀ L h' Y) (hs : ∀ p ∈ X, p ∈ Y) (hR : R y) : ElG h₀ L m s₁ X R y { s₁ with heap := h', toks := tk, gens := gs } :=
  ⟨h', tk, gs, rfl, hb, F, fun p hp => N p (hs p hp), hR⟩
noncomputable def TurnG (prog : Program) (w : World) (A : Around) (h₀ : Heap) (L : Addr) (m : Str → Option Value) (env : Env) (elt : Expr) (x : Str) (scope : Scope) (cl : List (Str × Addr)) (s : Shared) (news : List (Addr × Obj)) (its : List Value) (J : Nat → List Value → Prop) : Prop :=
  ∀ i v I oI C oC D m₂ ys h tk gs (E' : Value → Shared → Prop), its[i]? = some v → J i ys → LCg.NsObj oC m₂ → m₂ x = some v → AllBare gs → Fr h₀ L h m → News h₀ L h ((I, oI) :: (C, oC) :: (D, LCg.lst ys) :: news) →
    wpAny (model prog w) A (eval elt (compEnvC scope cl C env)) (ElG h₀ L m { s with heap := h, toks := tk, gens := gs } ((I, oI) :: (C, oC) :: (D, LCg.lst ys) :: news) (fun y => J (i + 1) (ys ++ [y]))) E' { s with heap := h, toks := tk, gens := gs }
theorem block_G {elt iter : Expr} {x : Str} {px : Pos} {pos : Pos} {s₂ : Shared} {I ax : Addr} {its : List Value} {n0 : Nat} {RR : Value → Addr → Result → Shared → Prop} (J : Nat → List Value → Prop)
    (hh : A.handled = none) (hsz : its.length ≤ sizeLine) (hcell : ∀ y ∈ scope.names, y.2 ≠ .cell) (hkind : scope.kind = .function) (hx : scope.names.lookup x = some .local)
    (F : Fr h₀ L s₂.heap m) (N : News h₀ L s₂.heap news) (hb : AllBare s₂.gens) (hax : (ax, W.listOf its.toArray n0) ∈ news) (hIt : s₂.heap.IsListIter I ax 0) (hI : I < s₂.heap.objs.size) (hIL : I ≠ L) (hI0 : h₀.get? I = none) (hoff : ∀ p ∈ news, p.1 ≠ I)
    (hJ : J 0 []) (turn : TurnG prog w A h₀ L m env elt x scope cl s₂ news its J)
    (hRR : ∀ C D m₂ ys h tk gs, Apart h₀ L news I C D → CS h₀ L m news I C D m₂ ys h → AllBare gs → J its.length ys → RR (.ref D) C (.ok .next) { s₂ with heap := h, toks := tk, gens := gs }) :
    wpAny (model prog w) A (newList []) (fun acc s₃ => wpAny (model prog w) A (newFunctionEnv scope env.globals cl [] env.qual none .none (some env)) (fun cenv s₄ =>
      codeAny (model prog w) A (.compStart (.ListComp elt [⟨.Name x px, iter, [], 0⟩] scope pos) 0 (.ref I) acc { cenv with scope := relabel scope env }) (RR acc cenv.locals) s₄) E s₃) E s₂ := by
  refine comp_alloc hcell hkind F N hI hIL hI0 hoff ?_
  intro C D m₂ h tk a z hup
  have hneI : ax ≠ I := hoff _ hax
  have W := Walks.list (prog := prog) (w := w) hh I ax hneI its.toArray
  have hst : h.IsListIter I ax 0 ∧ h.IsList ax its.toArray := by
    obtain ⟨oI, e, r⟩ := hIt
    exact ⟨⟨oI, hup _ _ e, r⟩, _, (z.led _ (.tail _ hax)).1, rfl, n0, rfl⟩
  have loop : codeAny (model prog w) A (.compLoop (.ListComp elt [⟨.Name x px, iter, [], 0⟩] scope pos) 0 (.ref I) (.ref D) (compEnvC scope cl C env)) (RR (.ref D) C) { s₂ with heap := h, toks := tk } := by
    refine codeAny_compLoop_tests
      (fun k s' => ∃ h' tk gs i ys m', s' = { s₂ with heap := h', toks := tk, gens := gs } ∧ i ≤ its.length ∧ k = its.length + 1 - i ∧ ys.length = i ∧ (h'.IsListIter I ax i ∧ h'.IsList ax its.toArray) ∧ AllBare gs ∧ CS h₀ L m news I C D m' ys h' ∧ J i ys) ?_ (its.length + 1)
      ⟨h, tk, s₂.gens, 0, [], m₂, rfl, Nat.zero_le _, rfl, rfl, hst, hb, z, hJ⟩
    rintro k s' ⟨h', tk', gs, i, ys, m', rfl, hi, rfl, hyl, hst', hb', z', hJ'⟩
    by_cases hlt : i < its.length
    · refine W.item i _ _ _ (by simpa using hlt) hst' fun v h2 tk2 hv hst2 hk2 => ?_
      have z2 := z'.step a hk2
      refine wpAny_assign_Name (wpAny_storeName_local (lookup_relabel_local hx) z2.ns (fun h3 hn3 hs3 => ?_) (by simp [compEnvC, relabel, hkind]))
      have z3 := z2.bind a hn3 hs3
      refine wpAny_tests_nil ?_
      simp only [if_true]
      obtain ⟨oI, hoI, hrI⟩ := hst2.1
      have hoI3 : h3.get? I = some oI := hs3.extBut _ _ a.ic hoI
      obtain ⟨oC, hoC, N3⟩ := z3.open a hoI3
      refine wpAny_mono (turn i v I oI C oC D _ ys h3 _ gs _ (by simpa using hv) hJ' hoC (by simp) hb' z3.fr N3) (fun y s₄ h₄ => ?_) fun _ _ e => e
      obtain ⟨h4, tk4, gs4, rfl, hb4, F4, N4, hJ4⟩ := h₄
      obtain ⟨z4, hI4⟩ := CS.back F4 hoC N4
      have hD4 := (z4.led _ (.head _)).1
      refine append_at (hsz := by show ys.toArray.size ≤ sizeLine; rw [List.size_toArray, hyl]; exact Nat.le_trans hi hsz) hD4 fun h5 hs5 hD5 => ?_
      refine ⟨its.length + 1 - (i + 1), by omega, h5, tk4, gs4, i + 1, ys ++ [y], _, rfl, hlt, rfl, by rw [List.length_append, List.length_singleton, hyl], ⟨⟨oI, hs5.extBut _ _ a.id hI4, hrI⟩, PySem.W.listOf its.toArray n0, ?_, rfl, n0, rfl⟩, hb4, z4.push a hs5 hD5, hJ4⟩
      exact hs5.extBut _ _ (a.off _ hax).2.2 (z4.led _ (.tail _ hax)).1
    · obtain rfl : i = its.length := Nat.le_antisymm hi (Nat.not_lt.mp hlt)
      refine W.done _ _ _ (by simpa using hst') fun h2 tk2 hk2 => ?_
      exact hRR C D m' ys h2 tk2 gs a (z'.step a hk2) hb' hJ'
  exact codeAny_compStart_list loop (W.self 0 _ _ _ hst loop)

/-- where a comprehension over a list of the ledger begins -/
noncomputable def SrcG (prog : Program) (w : World) (A : Around) (h₀ : Heap) (L : Addr) (m : Str → Option Value) (env : Env) (elt : Expr) (x : Str) (scope : Scope) (cl : List (Str × Addr)) (y : Str) (Q : Flow → Shared → Prop) (xv : Value) (s₁ : Shared) : Prop :=
  ∃ ax its n0 news J, xv = .ref ax ∧ A.handled = none ∧ Fr h₀ L s₁.heap m ∧ News h₀ L s₁.heap news ∧ AllBare s₁.gens ∧ (ax, W.listOf its.toArray n0) ∈ news ∧ its.length ≤ sizeLine ∧ J 0 [] ∧
    (∀ h, TurnG prog w A h₀ L m env elt x scope cl { s₁ with heap := h } news its J) ∧
    (∀ ys D h tk gs, J its.length ys → AllBare gs → (∀ p ∈ news, p.1 ≠ D) → Fr h₀ L h (fun z => if z = y then some (.ref D) else m z) → News h₀ L h ((D, LCg.lst ys) :: news) → Q .next { s₁ with heap := h, toks := tk, gens := gs })
theorem Assign_ListComp_G {elt iter : Expr} {x y : Str} {px py : Pos} {pos spos : Pos} {Q : Flow → Shared → Prop} (F₀ : Fr h₀ L s.heap m) (hLe : env.locals = L)
    (hsw : swapsWith (.ListComp elt [⟨.Name x px, iter, [], 0⟩] scope pos) (some (.Name y py)) spos.line env = pure true)
    (hclos : closureFor scope env = pure cl) (hcell : ∀ z ∈ scope.names, z.2 ≠ .cell) (hkind : scope.kind = .function)
    (hnames : ∀ z ∈ scope.names, z.2 = .local → scope.names.lookup z.1 = some .local) (hx : scope.names.lookup x = some .local)
    (hy : env.kindOf y = some .local) (hp : (env.scope.kind == .class || (env.scope.kind == .module && env.locals != env.globals)) = false)
    (h : wpAny (model prog w) A (eval iter env) (SrcG prog w A h₀ L m env elt x scope cl y Q) E s)
    (hs : ∀ x, foldedSetIterable iter env x = pure x := by intro _; rfl) :
    wpAny (model prog w) A (exec (.Assign [.Name y py] (.ListComp elt [⟨.Name x px, iter, [], 0⟩] scope pos) spos) env) Q E s := by
  subst hLe
  rw [exec_Assign_Name_used _ _ _ _ hsw]
  refine wpAny_bind (wpAny_standAt (wpAny_bind ?_))
  show wpAny _ A (do let _ ← comprehension (.ListComp elt [⟨.Name x px, iter, [], 0⟩] scope pos) scope env _ (newList []) false (eval iter env) (some (assign (.Name y py) env))) _ _ s
  refine wpAny_bind (wpAny_mono (wpAny_comprehension_free (use := some (assign (.Name y py) env)) (Q := fun _ s' => Q .next s') rfl hs hclos hkind hnames
    (wpAny_mono h (fun xv s₁ h₁ => ?_) fun _ _ e => e)) (fun _ s' hq => wpAny_pure (wpAny_pure hq)) fun _ _ e => e)
  obtain ⟨ax, its, n0, news, J, rfl, hh, F, N, hb, hax, hsz, hJ, turn, fin⟩ := h₁
  refine wpAny_pyIter_list (items := its.toArray) ⟨_, (N _ hax).1, rfl, n0, rfl⟩ ?_
  refine block_G (s₂ := { s₁ with heap := _ }) (news := news) J hh hsz hcell hkind hx (F.keeps fun _ _ e => Heap.get?_push_of_some _ e) (N.grown fun _ _ e => Heap.get?_push_of_some _ e) hb hax ⟨_, Heap.get?_push_size _ rfl, rfl, rfl⟩ (by show _ < (s₁.heap.push _).objs.size; rw [Heap.size_push]; exact Nat.lt_succ_self _)
    (Ne.symm (Nat.ne_of_lt F.ns.lt)) (next_is_new F) (fun p hp => Nat.ne_of_lt (Heap.lt_size (N p hp).1)) hJ (turn _) ?_
  intro C D m₂ ys h' tk gs a z hb' hJ'
  show wpAny _ A (assign (.Name y py) env (.ref D)) _ _ _
  refine wpAny_assign_Name (wpAny_storeName_local hy z.fr.ns (fun h₂ hn₂ hs₂ => ?_) hp)
  have hL₀ : h₀.get? env.locals = none := Heap.get?_none_of_le z.fr.above
  have F₂ : Fr h₀ env.locals h₂ (fun q => if q = y then some (.ref D) else m q) := ⟨hn₂, fun b o e => hs₂.extBut b o (fun q => by rw [q, hL₀] at e; cases e) (z.fr.keep b o e), z.fr.above⟩
  refine ⟨m₂, z.ns.sameBut hs₂ a.cL, fun h3 hs3 => fin ys D h3 _ gs hJ' hb' (fun p hp => (a.off p hp).2.2) (F₂.change hs3 a.cL a.c0) (fun p hp => ?_)⟩
  refine ⟨hs3.extBut _ _ ?_ (hs₂.extBut _ _ (z.led p hp).2.1 (z.led p hp).1), (z.led p hp).2⟩
  rcases List.mem_cons.mp hp with rfl | hp
  · exact Ne.symm a.cd
  · exact (a.off p hp).2.1
end
end

section
theorem turn_two (elt : Expr) (x1 x2 : Str) (p1 p2 : Pos) (it1 it2 : Expr) (scope : Scope) (pos : Pos) (it acc : Value) (env : Env) :
    compTurn (.ListComp elt [⟨.Name x1 p1, it1, [], 0⟩, ⟨.Name x2 p2, it2, [], 0⟩] scope pos) 0 it acc env = (standAt it1.pos >>= fun _ => pyNext it >>= fun r => match r with
      | none => pure (.done .next)
      | some v => letOwnedTupleGo (.Name x1 p1) it v >>= fun _ => assign (.Name x1 p1) env v >>= fun _ =>
        (eval it2 env >>= fun x => standAt it2.pos >>= fun _ => foldedSetIterable it2 env x >>= fun x => holding [x] (pyIter x) >>= fun i2 =>
          runOwn (.compStart (.ListComp elt [⟨.Name x1 p1, it1, [], 0⟩, ⟨.Name x2 p2, it2, [], 0⟩] scope pos) 1 i2 acc env) env >>= fun _ =>
          again (.compLoop (.ListComp elt [⟨.Name x1 p1, it1, [], 0⟩, ⟨.Name x2 p2, it2, [], 0⟩] scope pos) 0 it acc env))) := by rfl
theorem turn_in (elt : Expr) (x1 x2 : Str) (p1 p2 : Pos) (it1 it2 : Expr) (scope : Scope) (pos : Pos) (it acc : Value) (env : Env) :
    compTurn (.ListComp elt [⟨.Name x1 p1, it1, [], 0⟩, ⟨.Name x2 p2, it2, [], 0⟩] scope pos) 1 it acc env = (standAt it2.pos >>= fun _ => pyNext it >>= fun r => match r with
      | none => pure (.done .next)
      | some v => letOwnedTupleGo (.Name x2 p2) it v >>= fun _ => assign (.Name x2 p2) env v >>= fun _ =>
        (eval elt env >>= fun x => call (.builtin "list.append") [acc, x] >>= fun _ => pure ()) >>= fun _ =>
          again (.compLoop (.ListComp elt [⟨.Name x1 p1, it1, [], 0⟩, ⟨.Name x2 p2, it2, [], 0⟩] scope pos) 1 it acc env)) := by rfl
section
variable {prog : Program} {w : World} {A : Around} {E : Value → Shared → Prop} {R : Result → Shared → Prop} {s : Shared} {h₀ : Heap} {L : Addr} {m : Str → Option Value} {env : Env} {scope : Scope} {cl : List (Str × Addr)} {news : List (Addr × Obj)}
theorem start_in {elt : Expr} {x1 x2 : Str} {p1 p2 : Pos} {it1 it2 : Expr} {pos : Pos} {it acc : Value}
    (h0 : codeAny (model prog w) A (.compLoop (.ListComp elt [⟨.Name x1 p1, it1, [], 0⟩, ⟨.Name x2 p2, it2, [], 0⟩] scope pos) 1 it acc env) R s)
    (h : wpAny (model prog w) A (pyIter it) (fun it' s' => codeAny (model prog w) A (.compLoop (.ListComp elt [⟨.Name x1 p1, it1, [], 0⟩, ⟨.Name x2 p2, it2, [], 0⟩] scope pos) 1 it' acc env) R s')
      (notedBy (model prog w) A env fun x s' => R (.error x) s') s) :
    codeAny (model prog w) A (.compStart (.ListComp elt [⟨.Name x1 p1, it1, [], 0⟩, ⟨.Name x2 p2, it2, [], 0⟩] scope pos) 1 it acc env) R s := by
  refine codeAny_of_tree ?_
  show wpAny _ _ ((compStart (.ListComp elt [⟨.Name x1 p1, it1, [], 0⟩, ⟨.Name x2 p2, it2, [], 0⟩] scope pos) 1 it acc env).onRaise (fun x => do noteFrame x env; standAt theWindowsPlace)) _ _ s
  refine wpAny_notedAt ?_
  unfold compStart
  show wpAny _ _ (ask >>= _) _ _ s
  refine wpAny_bind (wpAny_askSetting (wpAny_ite ?_))
  split
  · exact wpAny_bind (wpAny_pure (wpAny_pure (And.intro rfl h0)))
  · refine wpAny_bind (wpAny_rule ?_)
    show wpAny _ _ (standAt it2.pos >>= _) _ _ s
    exact wpAny_bind (wpAny_standAt (wpAny_bind (wpAny_mono h (fun it' s' h' => wpAny_pure (And.intro rfl h')) fun _ _ x => x)))
/-- the inner loop, over a range -/
theorem loop_in {elt : Expr} {x1 x2 : Str} {p1 p2 : Pos} {it1 it2 : Expr} {pos : Pos} {I2 D : Addr} {cenv : Env} {k : Nat} (hh : A.handled = none) (J : Nat → Shared → Prop)
    (hst : IsRangeIter s.heap I2 (0 + (0 : Nat) * 1) ((k : Int) - (0 : Nat)) 1) (hJ : J 0 s)
    (turn : ∀ j s₁ v h2 tk2, j < k → IsRangeIter s₁.heap I2 (0 + (j : Nat) * 1) ((k : Int) - (j : Nat)) 1 → J j s₁ → (∃ t, v = .int (j : Int) t) → IsRangeIter h2 I2 (0 + ((j + 1 : Nat) : Nat) * 1) ((k : Int) - ((j + 1 : Nat) : Nat)) 1 → (∀ b o, b ∉ [I2] → s₁.heap.get? b = some o → h2.get? b = some o) →
      ∀ E' : Value → Shared → Prop, wpAny (model prog w) A (assign (.Name x2 p2) cenv v) (fun _ s₂ => wpAny (model prog w) A (eval elt cenv) (fun y s₃ =>
        wpAny (model prog w) A (call (.builtin "list.append") [.ref D, y]) (fun _ s₄ => IsRangeIter s₄.heap I2 (0 + ((j + 1 : Nat) : Nat) * 1) ((k : Int) - ((j + 1 : Nat) : Nat)) 1 ∧ J (j + 1) s₄) E' s₃) E' s₂) E' { s₁ with heap := h2, toks := tk2 })
    (done : ∀ s₁ h2 tk2, J k s₁ → (∀ b o, b ∉ [I2] → s₁.heap.get? b = some o → h2.get? b = some o) → R (.ok .next) { s₁ with heap := h2, toks := tk2 }) :
    codeAny (model prog w) A (.compStart (.ListComp elt [⟨.Name x1 p1, it1, [], 0⟩, ⟨.Name x2 p2, it2, [], 0⟩] scope pos) 1 (.ref I2) (.ref D) cenv) R s := by
  have W := LCg.range_walks (prog := prog) (w := w) (I := I2) hh 0 k
  have loop : codeAny (model prog w) A (.compLoop (.ListComp elt [⟨.Name x1 p1, it1, [], 0⟩, ⟨.Name x2 p2, it2, [], 0⟩] scope pos) 1 (.ref I2) (.ref D) cenv) R s := by
    refine codeAny_loop rfl (fun n s' => ∃ j, j ≤ k ∧ n = k + 1 - j ∧ IsRangeIter s'.heap I2 (0 + (j : Nat) * 1) ((k : Int) - (j : Nat)) 1 ∧ J j s') (fun n s' hI => ?_) (k + 1) ⟨0, Nat.zero_le _, rfl, hst, hJ⟩
    show wpAny _ A ((compTurn (.ListComp elt [⟨.Name x1 p1, it1, [], 0⟩, ⟨.Name x2 p2, it2, [], 0⟩] scope pos) 1 (.ref I2) (.ref D) cenv).onRaise (fun x => do noteFrame x cenv; theTreesLotGoes x)) _ _ s'
    refine wpAny_noted ?_
    rw [turn_in]
    obtain ⟨j, hj, rfl, hst', hJ'⟩ := hI
    refine wpAny_bind (wpAny_standAt (wpAny_bind ?_))
    by_cases hlt : j < k
    · refine W.item j _ _ _ hlt hst' fun v h2 tk2 hv hst2 hk2 => ?_
      refine wpAny_bind (wpAny_of_eq (by rfl) ?_)
      refine wpAny_bind (wpAny_mono (turn j s' v h2 tk2 hlt hst' hJ' (by simpa using hv) hst2 hk2 _) (fun _ s₂ h₂ => ?_) fun _ _ e => e)
      refine wpAny_bind (wpAny_bind (wpAny_mono h₂ (fun y s₃ h₃ => wpAny_bind (wpAny_mono h₃ (fun _ s₄ h₄ => ?_) fun _ _ e => e)) fun _ _ e => e))
      exact wpAny_pure (wpAny_pure ⟨rfl, k + 1 - (j + 1), by omega, j + 1, hlt, rfl, h₄.1, h₄.2⟩)
    · obtain rfl : j = k := Nat.le_antisymm hj (Nat.not_lt.mp hlt)
      refine W.done _ _ _ hst' fun h2 tk2 hk2 => ?_
      exact wpAny_pure (done s' h2 tk2 hJ' hk2)
  exact start_in loop (W.self 0 _ _ _ hst loop)

/-- an inner turn's value -/
noncomputable def El2 (h₀ : Heap) (L : Addr) (m : Str → Option Value) (s₁ : Shared) (X : List (Addr × Obj)) (R : Value → Prop) (y : Value) (s₂ : Shared) : Prop :=
  ∃ h' tk, s₂ = { s₁ with heap := h', toks := tk } ∧ Fr h₀ L h' m ∧ News h₀ L h' X ∧ R y
theorem el2_end {s₁ : Shared} {X Y : List (Addr × Obj)} {R : Value → Prop} {y : Value} {h' : Heap} {tk : Nat} (F : Fr h₀ L h' m) (N : News h₀ L h' Y) (hs : ∀ p ∈ X, p ∈ Y) (hR : R y) : El2 h₀ L m s₁ X R y { s₁ with heap := h', toks := tk } :=
  ⟨h', tk, rfl, F, fun p hp => N p (hs p hp), hR⟩
/-- the inner range -/
noncomputable def Rg2 (h₀ : Heap) (L : Addr) (m : Str → Option Value) (s₁ : Shared) (X : List (Addr × Obj)) (k : Nat) (y : Value) (s₂ : Shared) : Prop :=
  ∃ r h' tk t u v, s₂ = { s₁ with heap := h', toks := tk } ∧ y = .ref r ∧ Fr h₀ L h' m ∧ News h₀ L h' X ∧ IsRange h' r 0 (k : Int) 1 t u v
theorem rg2_end {s₁ : Shared} {X Y : List (Addr × Obj)} {k : Nat} {r : Addr} {a b c : Int} {t u v : Tok} {h' : Heap} {tk : Nat} (F : Fr h₀ L h' m) (N : News h₀ L h' Y) (hs : ∀ p ∈ X, p ∈ Y) (hr : IsRange h' r a b c t u v) (ha : a = 0) (hb : b = (k : Int)) (hc : c = 1) : Rg2 h₀ L m s₁ X k (.ref r) { s₁ with heap := h', toks := tk } := by
  subst ha hb hc
  exact ⟨r, h', tk, t, u, v, rfl, rfl, F, fun p hp => N p (hs p hp), hr⟩
noncomputable def Iter2 (prog : Program) (w : World) (A : Around) (h₀ : Heap) (L : Addr) (m : Str → Option Value) (env : Env) (it2 : Expr) (x1 : Str) (scope : Scope) (cl : List (Str × Addr)) (s : Shared) (news : List (Addr × Obj)) (n : Nat) : Prop :=
  ∀ i t I oI C oC D m₂ ys h tk (E' : Value → Shared → Prop), i < n → LCg.NsObj oC m₂ → m₂ x1 = some (.int (i : Int) t) → Fr h₀ L h m → News h₀ L h ((I, oI) :: (C, oC) :: (D, LCg.lst ys) :: news) →
    wpAny (model prog w) A (eval it2 (compEnvC scope cl C env)) (Rg2 h₀ L m { s with heap := h, toks := tk } ((I, oI) :: (C, oC) :: (D, LCg.lst ys) :: news) (i + 1)) E' { s with heap := h, toks := tk }
noncomputable def Turn2 (prog : Program) (w : World) (A : Around) (h₀ : Heap) (L : Addr) (m : Str → Option Value) (env : Env) (elt : Expr) (x1 x2 : Str) (scope : Scope) (cl : List (Str × Addr)) (s : Shared) (news : List (Addr × Obj)) (n : Nat) (J : Nat → Nat → List Value → Prop) : Prop :=
  ∀ i j t1 t2 I2 oI2 I oI C oC D m₂ ys h tk (E' : Value → Shared → Prop), i < n → j < i + 1 → J i j ys → LCg.NsObj oC m₂ → m₂ x1 = some (.int (i : Int) t1) → m₂ x2 = some (.int (j : Int) t2) → Fr h₀ L h m → News h₀ L h ((I2, oI2) :: (I, oI) :: (C, oC) :: (D, LCg.lst ys) :: news) →
    wpAny (model prog w) A (eval elt (compEnvC scope cl C env)) (El2 h₀ L m { s with heap := h, toks := tk } ((I2, oI2) :: (I, oI) :: (C, oC) :: (D, LCg.lst ys) :: news) (fun y => J i (j + 1) (ys ++ [y]))) E' { s with heap := h, toks := tk }
theorem block_2 {elt : Expr} {x1 x2 : Str} {p1 p2 : Pos} {it1 it2 : Expr} {pos : Pos} {s₂ : Shared} {I : Addr} {n : Nat} {RR : Value → Addr → Result → Shared → Prop} (J : Nat → Nat → List Value → Prop)
    (hh : A.handled = none) (hn8 : n ≤ 8) (hcell : ∀ y ∈ scope.names, y.2 ≠ .cell) (hkind : scope.kind = .function) (hx1 : scope.names.lookup x1 = some .local) (hx2 : scope.names.lookup x2 = some .local) (hne : x1 ≠ x2)
    (F : Fr h₀ L s₂.heap m) (N : News h₀ L s₂.heap news) (hIt : IsRangeIter s₂.heap I (0 + (0 : Nat) * 1) ((n : Int) - (0 : Nat)) 1) (hI : I < s₂.heap.objs.size) (hIL : I ≠ L) (hI0 : h₀.get? I = none) (hoff : ∀ p ∈ news, p.1 ≠ I)
    (hJ : J 0 0 []) (hlen : ∀ i j ys, i ≤ n → j ≤ i + 1 → J i j ys → ys.length ≤ 100) (hnext : ∀ i ys, i < n → J i (i + 1) ys → J (i + 1) 0 ys)
    (iter : Iter2 prog w A h₀ L m env it2 x1 scope cl s₂ news n) (turn : Turn2 prog w A h₀ L m env elt x1 x2 scope cl s₂ news n J) (hs : ∀ C x, foldedSetIterable it2 (compEnvC scope cl C env) x = pure x)
    (hRR : ∀ C D m₂ ys h tk, Apart h₀ L news I C D → CS h₀ L m news I C D m₂ ys h → J n 0 ys → RR (.ref D) C (.ok .next) { s₂ with heap := h, toks := tk }) :
    wpAny (model prog w) A (newList []) (fun acc s₃ => wpAny (model prog w) A (newFunctionEnv scope env.globals cl [] env.qual none .none (some env)) (fun cenv s₄ =>
      codeAny (model prog w) A (.compStart (.ListComp elt [⟨.Name x1 p1, it1, [], 0⟩, ⟨.Name x2 p2, it2, [], 0⟩] scope pos) 0 (.ref I) acc { cenv with scope := relabel scope env }) (RR acc cenv.locals) s₄) E s₃) E s₂ := by
  refine comp_alloc hcell hkind F N hI hIL hI0 hoff ?_
  intro C D m₂ h tk a z hup
  have W := LCg.range_walks (prog := prog) (w := w) (I := I) hh 0 n
  have hst : IsRangeIter h I (0 + (0 : Nat) * 1) ((n : Int) - (0 : Nat)) 1 := hup _ _ hIt
  have loop : codeAny (model prog w) A (.compLoop (.ListComp elt [⟨.Name x1 p1, it1, [], 0⟩, ⟨.Name x2 p2, it2, [], 0⟩] scope pos) 0 (.ref I) (.ref D) (compEnvC scope cl C env)) (RR (.ref D) C) { s₂ with heap := h, toks := tk } := by
    refine codeAny_loop rfl
      (fun k s' => ∃ h' tk i ys m', s' = { s₂ with heap := h', toks := tk } ∧ i ≤ n ∧ k = n + 1 - i ∧ IsRangeIter h' I (0 + (i : Nat) * 1) ((n : Int) - (i : Nat)) 1 ∧ CS h₀ L m news I C D m' ys h' ∧ J i 0 ys) (fun k s' hI' => ?_) (n + 1)
      ⟨h, tk, 0, [], m₂, rfl, Nat.zero_le _, rfl, hst, z, hJ⟩
    show wpAny _ A ((compTurn (.ListComp elt [⟨.Name x1 p1, it1, [], 0⟩, ⟨.Name x2 p2, it2, [], 0⟩] scope pos) 0 (.ref I) (.ref D) (compEnvC scope cl C env)).onRaise (fun x => do noteFrame x (compEnvC scope cl C env); theTreesLotGoes x)) _ _ s'
    refine wpAny_noted ?_
    rw [turn_two]
    obtain ⟨h', tk', i, ys, m', rfl, hi, rfl, hst', z', hJ'⟩ := hI'
    refine wpAny_bind (wpAny_standAt (wpAny_bind ?_))
    by_cases hlt : i < n
    · refine W.item i _ _ _ hlt hst' fun v h2 tk2 hv hst2 hk2 => ?_
      obtain ⟨t1, rfl⟩ := hv
      rw [Int.zero_add]
      have z2 := z'.step a hk2
      refine wpAny_bind (wpAny_of_eq (by rfl) ?_)
      refine wpAny_bind (wpAny_assign_Name (wpAny_storeName_local (lookup_relabel_local hx1) z2.ns (fun h3 hn3 hs3 => ?_) (by simp [compEnvC, relabel, hkind])))
      have z3 := z2.bind a hn3 hs3
      have hst3 : IsRangeIter h3 I (0 + ((i + 1 : Nat) : Nat) * 1) ((n : Int) - ((i + 1 : Nat) : Nat)) 1 := hs3.extBut _ _ a.ic hst2
      obtain ⟨oC, hoC, N3⟩ := z3.open a hst3
      refine wpAny_bind (wpAny_mono (iter i t1 I _ C oC D _ ys h3 _ _ hlt hoC (by simp) z3.fr N3) (fun y s₄ h₄ => ?_) fun _ _ e => e)
      obtain ⟨r, h4, tk4, t4, u4, v4, rfl, rfl, F4, N4, hr4⟩ := h₄
      obtain ⟨z4, hI4⟩ := CS.back F4 hoC N4
      refine wpAny_bind (wpAny_standAt ?_)
      refine wpAny_bind (wpAny_of_eq (hs C _) ?_)
      refine wpAny_bind (wpAny_holding (wpAny_pyIter_range hr4 ?_ ?_))
      · have hk1 : (0 : Int) + (1 - 1) = 0 := rfl
        exact small_one (by decide) (by decide) (by omega) (by omega)
      generalize hH5 : h4.push (_ : Obj) = h5
      have hz5 : h5.objs.size = h4.objs.size + 1 := by rw [← hH5, Heap.size_push]
      have up5 : ∀ b o, h4.get? b = some o → h5.get? b = some o := fun b o e => by rw [← hH5]; exact Heap.get?_push_of_some _ e
      have hI2 : IsRangeIter h5 h4.objs.size (0 + (0 : Nat) * 1) (((i + 1 : Nat) : Int) - (0 : Nat)) 1 := by
        show h5.get? _ = _
        rw [← hH5, rangeSize_nat]
        simpa using Heap.get?_push_size _ rfl
      have hI2n : ∀ b o, h4.get? b = some o → b ≠ h4.objs.size := fun b o e => Nat.ne_of_lt (Heap.lt_size e)
      have z5 : CS h₀ L m news I C D _ ys h5 := ⟨z4.fr.keeps up5, z4.ns.at' fun o e => up5 _ _ e, fun p hp => ⟨up5 _ _ (z4.led p hp).1, (z4.led p hp).2⟩⟩
      have hI20 : h₀.get? h4.objs.size = none := next_is_new z4.fr
      have hI2L : h4.objs.size ≠ L := Ne.symm (Nat.ne_of_lt z4.fr.ns.lt)
      have hI2C : h4.objs.size ≠ C := fun e => by obtain ⟨o, _, _, ho, _⟩ := z4.ns; exact hI2n _ _ ho e.symm
      have hI2I : h4.objs.size ≠ I := fun e => hI2n _ _ hI4 e.symm
      have hI2D : h4.objs.size ≠ D := fun e => hI2n _ _ (z4.led _ (.head _)).1 e.symm
      have hI2o : ∀ p ∈ news, p.1 ≠ h4.objs.size := fun p hp => hI2n _ _ (z4.led p (.tail _ hp)).1
      have a2 : Apart h₀ L news h4.objs.size C D := ⟨hI2L, a.cL, a.dL, hI2C, hI2D, a.cd, hI20, a.c0, a.d0, fun p hp => ⟨hI2o p hp, (a.off p hp).2⟩⟩
      have hI5 := up5 _ _ hI4
      have hm5 : (fun z => if z = x1 then some (Value.int (i : Int) t1) else m' z) x1 = some (.int (i : Int) t1) := by simp
      refine wpAny_bind (wpAny_runOwn ?_)
      show codeAny (model prog w) A _ _ _
      refine loop_in (k := i + 1) hh (fun j s' => ∃ h' tk ys m', s' = { s₂ with heap := h', toks := tk } ∧ h'.get? I = some _ ∧ CS h₀ L m news I C D m' ys h' ∧ m' x1 = some (.int (i : Int) t1) ∧ J i j ys) hI2 ⟨h5, _, ys, _, rfl, hI5, z5, hm5, hJ'⟩ ?_ ?_
      · rintro j s₁ v h6 tk6 hj hst1 ⟨h1, tk1, ys1, m1, rfl, hI1, z1, hm1, hJ1⟩ ⟨t2, rfl⟩ hst6 hk6 E'
        have q6 : ∀ b, b ≠ h4.objs.size → b ∉ [h4.objs.size] := fun b hb hm => hb (List.mem_singleton.mp hm)
        have z6 : CS h₀ L m news I C D m1 ys1 h6 := by
          have y1 : CS h₀ L m news h4.objs.size C D m1 ys1 h1 := ⟨z1.fr, z1.ns, z1.led⟩
          have y2 := y1.step a2 hk6
          exact ⟨y2.fr, y2.ns, y2.led⟩
        have hI6 : h6.get? I = some _ := hk6 _ _ (q6 _ (Ne.symm hI2I)) hI1
        refine wpAny_assign_Name (wpAny_storeName_local (lookup_relabel_local hx2) z6.ns (fun h7 hn7 hs7 => ?_) (by simp [compEnvC, relabel, hkind]))
        have z7 := z6.bind a hn7 hs7
        have hI7 := hs7.extBut _ _ a.ic hI6
        have hst7 : IsRangeIter h7 h4.objs.size (0 + ((j + 1 : Nat) : Nat) * 1) (((i + 1 : Nat) : Int) - ((j + 1 : Nat) : Nat)) 1 := hs7.extBut _ _ hI2C hst6
        obtain ⟨oC7, hoC7, N7⟩ := z7.open a hI7
        have N7' : News h₀ L h7 ((h4.objs.size, _) :: (I, _) :: (C, oC7) :: (D, LCg.lst ys1) :: news) := fun p hp => by
          rcases List.mem_cons.mp hp with rfl | hp
          · exact ⟨hst7, hI2L, hI20⟩
          · exact N7 p hp
        refine wpAny_mono (turn i j t1 t2 h4.objs.size _ I _ C oC7 D _ ys1 h7 _ _ hlt hj hJ1 hoC7 (by simp [hne, hm1]) (by simp) z7.fr N7') (fun y s₈ h₈ => ?_) fun _ _ e => e
        obtain ⟨h8, tk8, rfl, F8, N8, hJ8⟩ := h₈
        have z8 := CS.back F8 hoC7 (fun p hp => N8 p (.tail _ hp))
        have hst8 := (N8 _ (.head _)).1
        refine append_at (hsz := by rw [List.size_toArray, PySem.sizeLine_eq]; have := hlen i j ys1 (Nat.le_of_lt hlt) (Nat.le_of_lt hj) hJ1; omega) (z8.1.led _ (.head _)).1 fun h9 hs9 hD9 => ?_
        refine ⟨hs9.extBut _ _ hI2D hst8, h9, tk8, ys1 ++ [y], _, rfl, hs9.extBut _ _ a.id z8.2, z8.1.push a hs9 hD9, by simp [hne, hm1], hJ8⟩
      · rintro s₁ h6 tk6 ⟨h1, tk1, ys1, m1, rfl, hI1, z1, hm1, hJ1⟩ hk6
        have q6 : ∀ b, b ≠ h4.objs.size → b ∉ [h4.objs.size] := fun b hb hm => hb (List.mem_singleton.mp hm)
        have y1 : CS h₀ L m news h4.objs.size C D m1 ys1 h1 := ⟨z1.fr, z1.ns, z1.led⟩
        have y2 := y1.step a2 hk6
        exact wpAny_pure ⟨rfl, n + 1 - (i + 1), by omega, h6, tk6, i + 1, ys1, m1, rfl, hlt, rfl, hk6 _ _ (q6 _ (Ne.symm hI2I)) hI1, ⟨y2.fr, y2.ns, y2.led⟩, hnext i ys1 hlt hJ1⟩
    · obtain rfl : i = n := Nat.le_antisymm hi (Nat.not_lt.mp hlt)
      refine W.done _ _ _ hst' fun h2 tk2 hk2 => ?_
      exact wpAny_pure (hRR C D m' ys h2 tk2 a (z'.step a hk2) hJ')
  exact codeAny_compStart_list loop (W.self 0 _ _ _ hst loop)

/-- where a comprehension over two ranges begins -/
noncomputable def Src2 (prog : Program) (w : World) (A : Around) (h₀ : Heap) (L : Addr) (m : Str → Option Value) (env : Env) (elt it2 : Expr) (x1 x2 : Str) (scope : Scope) (cl : List (Str × Addr)) (Q : Value → Shared → Prop) (xv : Value) (s₁ : Shared) : Prop :=
  ∃ (r : Addr) (t u v : Tok) (n : Nat) (news : List (Addr × Obj)) (J : Nat → Nat → List Value → Prop), xv = .ref r ∧ A.handled = none ∧ n ≤ 8 ∧ Fr h₀ L s₁.heap m ∧ News h₀ L s₁.heap news ∧ IsRange s₁.heap r 0 (n : Int) 1 t u v ∧ J 0 0 [] ∧ (∀ i j ys, i ≤ n → j ≤ i + 1 → J i j ys → ys.length ≤ 100) ∧ (∀ i ys, i < n → J i (i + 1) ys → J (i + 1) 0 ys) ∧
    (∀ h, Iter2 prog w A h₀ L m env it2 x1 scope cl { s₁ with heap := h } news n) ∧ (∀ h, Turn2 prog w A h₀ L m env elt x1 x2 scope cl { s₁ with heap := h } news n J) ∧
    (∀ ys D h tk, J n 0 ys → (∀ p ∈ news, p.1 ≠ D) → Fr h₀ L h m → News h₀ L h ((D, LCg.lst ys) :: news) → Q (.ref D) { s₁ with heap := h, toks := tk })
theorem ListComp_2 {elt : Expr} {x1 x2 : Str} {p1 p2 : Pos} {it1 it2 : Expr} {pos : Pos} {Q : Value → Shared → Prop} (F₀ : Fr h₀ L s.heap m)
    (hclos : closureFor scope env = pure cl) (hcell : ∀ y ∈ scope.names, y.2 ≠ .cell) (hkind : scope.kind = .function)
    (hnames : ∀ y ∈ scope.names, y.2 = .local → scope.names.lookup y.1 = some .local) (hx1 : scope.names.lookup x1 = some .local) (hx2 : scope.names.lookup x2 = some .local) (hne : x1 ≠ x2)
    (h : wpAny (model prog w) A (eval it1 env) (Src2 prog w A h₀ L m env elt it2 x1 x2 scope cl Q) E s)
    (hs : ∀ x, foldedSetIterable it1 env x = pure x := by intro _; rfl) (hs2 : ∀ C x, foldedSetIterable it2 (compEnvC scope cl C env) x = pure x := by intro _ _; rfl) :
    wpAny (model prog w) A (eval (.ListComp elt [⟨.Name x1 p1, it1, [], 0⟩, ⟨.Name x2 p2, it2, [], 0⟩] scope pos) env) Q E s := by
  rw [eval_ListComp]
  refine wpAny_comprehension_free (use := none) rfl hs hclos hkind hnames (wpAny_mono h (fun xv s₁ h₁ => ?_) fun _ _ e => e)
  obtain ⟨r, t, u, v, n, news, J, rfl, hh, hn8, F, N, hr, hJ, hlen, hnext, iter, turn, fin⟩ := h₁
  refine wpAny_pyIter_range hr (small_one (by decide) (by decide) (by omega) (by omega)) ?_
  refine block_2 (s₂ := { s₁ with heap := _ }) (news := news) J hh hn8 hcell hkind hx1 hx2 hne (F.keeps fun _ _ e => Heap.get?_push_of_some _ e) (N.grown fun _ _ e => Heap.get?_push_of_some _ e)
    (by show IsRangeIter _ _ _ _ _; rw [rangeSize_nat]; simpa using Heap.get?_push_size _ rfl) (by show _ < (s₁.heap.push _).objs.size; rw [Heap.size_push]; exact Nat.lt_succ_self _)
    (Ne.symm (Nat.ne_of_lt F.ns.lt)) (next_is_new F) (fun p hp => Nat.ne_of_lt (Heap.lt_size (N p hp).1)) hJ hlen hnext (iter _) (turn _) hs2 ?_
  intro C D m₂ ys h' tk a z hJ'
  refine ⟨m₂, z.ns, fun h3 hs3 => fin ys D h3 _ hJ' (fun p hp => (a.off p hp).2.2) (z.fr.change hs3 a.cL a.c0) (fun p hp => ?_)⟩
  refine ⟨hs3.extBut _ _ ?_ (z.led p hp).1, (z.led p hp).2⟩
  rcases List.mem_cons.mp hp with rfl | hp
  · exact Ne.symm a.cd
  · exact (a.off p hp).2.1
end
end

section
section
variable {prog : Program} {w : World} {A : Around} {E : Value → Shared → Prop} {s : Shared} {h₀ : Heap} {L : Addr} {m : Str → Option Value} {env : Env} {ct elt : Expr} {x : Str} {scope : Scope} {cl : List (Str × Addr)} {S : List (Addr × Obj) → Prop} {P : Nat → Value → Prop} {Fin : List Value → List (Addr × Obj) → Prop} {news : List (Addr × Obj)}
/-- the end of a turn that tests -/
noncomputable def TestEnd (prog : Program) (w : World) (A : Around) (h₀ : Heap) (L : Addr) (m : Str → Option Value) (cenv : Env) (elt : Expr) (s : Shared) (I : Addr) (oI : Obj) (C : Addr) (oC : Obj) (D : Addr) (ys : List Value) (S : List (Addr × Obj) → Prop) (news : List (Addr × Obj)) (J : List Value → Prop) (E' : Value → Shared → Prop) (ok : Bool) (s' : Shared) : Prop :=
  if ok = true then wpAny (model prog w) A (eval elt cenv) (LCg.CompEnd h₀ L m s I oI C oC D (LCg.lst ys) S (fun y news' => news' = news ∧ J (ys ++ [y]))) E' s'
  else LCg.CompEnd h₀ L m s I oI C oC D (LCg.lst ys) S (fun _ news' => news' = news ∧ J ys) Value.none s'
/-- a comprehension with a test, by what holds of the items so far -/
theorem crestT_any {n : Nat} (J : Nat → List Value → Prop) (hJ0 : J 0 [])
    (turn : ∀ i v I oI C oC D m₂ ys h tk (E' : Value → Shared → Prop), i < n → P i v → J i ys → LCg.NsObj oC m₂ → m₂ x = some v → Fr h₀ L h m → News h₀ L h ((I, oI) :: (C, oC) :: (D, LCg.lst ys) :: news) → LCg.Off3 I C D news →
      wpAny (model prog w) A (isTrue ct (compEnvC scope cl C env) (eval ct (compEnvC scope cl C env))) (TestEnd prog w A h₀ L m (compEnvC scope cl C env) elt { s with heap := h, toks := tk } I oI C oC D ys S news (J (i + 1)) E') E' { s with heap := h, toks := tk })
    (fin : ∀ ys : List Value, J n ys → Fin ys news) : LCt.CompRestT prog w A h₀ L m env ct elt x scope cl s S P Fin n 0 [] news := by
  have key : ∀ (j i : Nat) (ys : List Value), i + j = n → J i ys → LCt.CompRestT prog w A h₀ L m env ct elt x scope cl s S P Fin j i ys news := by
    intro j
    induction j with
    | zero =>
      intro i ys hi hJ
      obtain rfl : i = n := hi
      exact LCt.CompRestT.zero (fin ys hJ)
    | succ j ih =>
      intro i ys hi hJ
      refine LCt.CompRestT.succ ?_
      intro v I oI C oC D m₂ h tk E' hv hC hx F N off _
      refine wpAny_mono (turn i v I oI C oC D m₂ ys h tk E' (by omega) hv hJ hC hx F N off) (fun ok s₂ hq => ?_) fun _ _ e => e
      unfold TestEnd at hq
      cases ok with
      | true =>
        simp only [if_true] at hq ⊢
        refine wpAny_mono hq (fun y s₃ h₃ => ?_) fun _ _ e => e
        obtain ⟨h', tk', nw, e, F', N', off', hS, hn, hy'⟩ := h₃
        subst hn
        exact ⟨h', tk', nw, e, F', N', off', hS, ih (i + 1) _ (by omega) hy'⟩
      | false =>
        simp only [Bool.false_eq_true, if_false] at hq ⊢
        obtain ⟨h', tk', nw, e, F', N', off', hS, hn, hy'⟩ := hq
        subst hn
        exact ⟨h', tk', nw, e, F', N', off', hS, ih (i + 1) _ (by omega) hy'⟩
  exact key n 0 [] (by omega) hJ0
end
end

section
noncomputable def NextTo (Mid : Shared → Prop) (f : Flow) (s : Shared) : Prop := f = .next ∧ Mid s
theorem seq_stmt {M : Model} {A : Around} {env : Env} {st : Stmt} {rest : List Stmt} {Q : Flow → Shared → Prop} {E : Value → Shared → Prop} {s : Shared} (Mid : Shared → Prop)
    (h1 : wpAny M A (exec st env) (NextTo Mid) E s) (h2 : ∀ s', Mid s' → wpAny M A (execs rest env) Q E s') : wpAny M A (execs (st :: rest) env) Q E s := by
  refine wpAny_execs_cons (wpAny_mono h1 (fun f s' hf => ?_) fun _ _ e => e)
  obtain ⟨rfl, hm⟩ := hf
  exact h2 s' hm
/-- the frame of law: its names, its ledger -/
structure LF (h₀ : Heap) (L : Addr) (os : OsState) (m : Str → Option Value) (news : List (Addr × Obj)) (s : Shared) : Prop where
  fr : Fr h₀ L s.heap m
  led : News h₀ L s.heap news
  bare : AllBare s.gens
  sys : s.os = os
theorem lf_start {M : Model} {A : Around} {env : Env} {body : List Stmt} {Q : Flow → Shared → Prop} {E : Value → Shared → Prop} {S : Shared} {h₀ : Heap} {L : Addr} {os : OsState} {m : Str → Option Value} {o1 o2 o3 o4 o5 : Obj} {al : Addr} {vs : List Value}
    (hl : h₀.IsList al vs.toArray) (F : Fr h₀ L S.heap m) (N : News h₀ L S.heap [(L + 1 + 1 + 1 + 1 + 1, o5), (L + 1 + 1 + 1 + 1, o4), (L + 1 + 1 + 1, o3), (L + 1 + 1, o2), (L + 1, o1)]) (hb : AllBare S.gens) (hos : S.os = os) (d1 : o1.data = .cell (some (.ref al))) (d2 : o2.data = .cell none) (d3 : o3.data = .cell none) (d4 : o4.data = .cell none) (d5 : o5.data = .cell none)
    (H : ∀ (s : Shared) (o1 o2 o3 o4 o5 : Obj), LF h₀ L os m [(L + 1 + 1 + 1 + 1 + 1, o5), (L + 1 + 1 + 1 + 1, o4), (L + 1 + 1 + 1, o3), (L + 1 + 1, o2), (L + 1, o1)] s → o1.data = .cell (some (.ref al)) → o2.data = .cell none → o3.data = .cell none → o4.data = .cell none → o5.data = .cell none → wpAny M A (execs body env) Q E s) :
    wpAny M A (execs body env) Q E S := H S o1 o2 o3 o4 o5 ⟨F, N, hb, hos⟩ d1 d2 d3 d4 d5
theorem to_ktr {M : Model} {n : Str} {sc : Scope} {L a : Addr} {cd : Value} {body : List Stmt} {Q : Flow → Shared → Prop} {E : Value → Shared → Prop} {s : Shared} (cl : List (Str × Addr)) (hcl : cellsFrom (L + 1) sc.names [] = cl)
    (h : wpAny M (ktrTop (callerA.depth + 1) (callerA.units + 3) callerA.guards n sc L a cd cl []) (execs body (envX n sc L a cd cl)) Q E s) : wpAny M (callerA.deeper (envOfC n sc L a cd)) (execs body (envOfC n sc L a cd)) Q E s := by
  subst hcl; exact h
theorem ints_of : ∀ (l : List Value), (∀ v ∈ l, ∃ (k : Int) (t : Tok), v = .int k t) → ∃ ns, IntsAre l ns
  | [], _ => ⟨_, .nil⟩
  | v :: l, h => by
    obtain ⟨k, t, rfl⟩ := h v (List.mem_cons_self ..)
    obtain ⟨ns, hn⟩ := ints_of l fun u hu => h u (List.mem_cons_of_mem _ hu)
    exact ⟨k :: ns, .cons k t hn⟩
theorem ints_mem {vs : List Value} {ns : List Int} (h : IntsAre vs ns) : ∀ v ∈ vs, ∃ (k : Int) (t : Tok), v = .int k t := by
  intro v hv
  obtain ⟨i, hi⟩ := List.getElem?_of_mem hv
  obtain ⟨k, t, e, _⟩ := IntsAre.at h i v hi
  exact ⟨k, t, e⟩
theorem ints_pick {vs : List Value} {ns : List Int} (h : IntsAre vs ns) (a b c : Option Int) : ∃ ns', IntsAre (slicePick vs.toArray a b c).toList ns' := by
  refine ints_of _ fun v hv => ints_mem h v ?_
  unfold slicePick at hv
  simp only [List.mem_filterMap] at hv
  obtain ⟨i, _, hi⟩ := hv
  have := Array.mem_of_getElem? hi
  simpa using this
theorem size_from0 (n : Nat) (b : Int) (h : b = (n : Int)) : Builtin.Range.rangeSize 0 b 1 = (n : Int) := by
  unfold Builtin.Range.rangeSize
  rw [if_pos (by decide)]
  split <;> omega
theorem svs_of (P : List Nat → Prop) : ∀ (l : List Value), (∀ v ∈ l, ∃ q : List Nat × Tok, v = sv q ∧ P q.1) → ∃ hs : List (List Nat × Tok), l = hs.map sv ∧ ∀ q ∈ hs, P q.1
  | [], _ => ⟨[], rfl, by simp⟩
  | v :: l, h => by
    obtain ⟨q, rfl, hq⟩ := h v (List.mem_cons_self ..)
    obtain ⟨hs, rfl, hh⟩ := svs_of P l fun u hu => h u (List.mem_cons_of_mem _ hu)
    exact ⟨q :: hs, rfl, by
      intro r hr
      rcases List.mem_cons.mp hr with rfl | hr
      · exact hq
      · exact hh r hr⟩
theorem gwg_bool {c : ClaimW} {cl : Str → Option Addr} {mean : ExcName → Option Value} {args : List WData} {s₁ s' : Shared} {L : Addr} {m : Str → Option Value} {b : Bool} (F : Fr s₁.heap L s'.heap m) (hb : AllBare s'.gens) (hos : s'.os = s₁.os) (hn : ∀ cls, c.raises args cls = false) (hp : c.post args (.bool b) args = true) :
    GoodWG c cl mean args s₁ (.ok (.ret (.bool b))) s' :=
  ⟨.inl ⟨.bool b, .bool b, [], rfl, hn, .bool b, hp, fun _ => ⟨.nil, by simp⟩⟩, .of_keep F.keep, hos, hb⟩
end

section
local macro_rules | `(tactic| k_ne) => `(tactic| (refine neN ?_; (try dsimp only); first | assumption | exact Ne.symm (by assumption) | omega))
local macro_rules | `(tactic| k_behind $G $ho $hd $hcd $hD $hmg $hpre $hlay $hrd $hwl $hlo $cd) => `(tactic| (
  have X := (Ground.X $G).1
  have V := (Ground.X $G).2
  try w_nolog (first | (have GL := glob_more (Ground.glob $G (by first | k_qdec | decide +kernel) (by first | k_qdec | decide +kernel)) V) | (have GL := glob_more (Ground.glob $G (by decide +kernel)) V))
  refine Ground.open $G ?_
  intro T B D TE TW
  try (refine guard_noD D (by decide +kernel) ?_; clear D)
  obtain ⟨_, _, M⟩ := bmod_of_top T
  have TA := at_of_top T
  try (obtain ⟨_, _, he, B0⟩ := based_of_top T rfl $hmg $ho $hd; have he' : $cd = _ := he; subst he'; clear he)
  clear $hmg
  wrow_args $hpre $hlay $hrd $hwl $hlo
  all_goals (
    first | refine callC_kw (enter_call ?_) | refine enter_call ?_ | refine callC_kw (enter_callW ?_) | refine enter_callW ?_ | w_how
    w_top on
    have K0 := below_caller (Top.heap T)
    w_call any $ho $hd $hcd $hD T F
    clear $hd TA
    k_drop
    skip)))
theorem law_holds : PySem.Challenge.rw_rw0075_01.Holds := hd (by
  k_with_none
  k_with "mine lit" => (first | (with_reducible exact rfl) | exact lit_e | exact lit_o | exact lit_c | exact lit_b | exact lit_q | exact lit_zy | exact lit_Zx)
  k_with "mine size" => (first | omega | (simp only [List.length_append, List.length_cons, List.length_nil, List.length_replicate, List.length_take, List.length_drop]; omega))
  k_with "binaryOp Add str str" => (k_here; (with_reducible show wpAny _ _ (binaryOp Operator.Add (Value.str _ _) (Value.str _ _)) _ _ _); k_dflt (refine' addS ?zzhx ?zzhy ?zzhz ?_; (case zzhx => walk_at "mine lit"); (case zzhy => walk_at "mine lit"); (case zzhz => walk_at "mine size")); intro _ _)
  k_with "inplaceOp Add str str" => (k_here; (with_reducible show wpAny _ _ (inplaceOp Operator.Add (Value.str _ _) (Value.str _ _)) _ _ _); k_dflt (refine' iaddS ?zzhx ?zzhy ?zzhz ?_; (case zzhx => walk_at "mine lit"); (case zzhy => walk_at "mine lit"); (case zzhz => walk_at "mine size")); intro _ _)
  k_with "binaryOp Mult str int" => (k_here; (with_reducible show wpAny _ _ (binaryOp Operator.Mult (Value.str _ _) (Value.int _ _)) _ _ _); k_dflt (refine' mulS ?zzhx ?zzh0 ?zzh1 ?_; (case zzhx => first | (with_reducible exact rfl) | exact lit_o | exact lit_c); (case zzh0 => omega); (case zzh1 => omega)); intro _ _)
  k_with "compareOp Eq str str" => (k_here; (with_reducible show wpAny _ _ (compareOp CmpOp.Eq (Value.str _ _) (Value.str _ _)) _ _ _); k_dflt (refine' eqS ?zzhx ?zzhy ?_; (case zzhx => walk_at "mine lit"); (case zzhy => walk_at "mine lit")))
  k_with "compareOp NotEq str str" => (k_here; (with_reducible show wpAny _ _ (compareOp CmpOp.NotEq (Value.str _ _) (Value.str _ _)) _ _ _); k_dflt (refine' neS ?zzhx ?zzhy ?_; (case zzhx => walk_at "mine lit"); (case zzhy => walk_at "mine lit")))
  k_with "call builtin:len" => (k_here; (with_reducible show wpAny _ _ (call (Value.builtin "len") [Value.str _ _]) _ _ _); k_dflt (refine' lenS ?zzhx ?zzhz ?_; (case zzhx => first | (with_reducible exact rfl) | exact lit_e); (case zzhz => walk_at "mine size")); intro _ _)
  k_with "truthy str" => (k_here; (with_reducible show wpAny _ _ (PySem.truthy (Value.str _ _)) _ _ _); k_dflt (refine' truthS ?zzhx ?zzhz ?_; (case zzhx => first | (with_reducible exact rfl) | exact lit_e); (case zzhz => walk_at "mine size")); intro _)
  k_with "mine body 0" => (k_here; (with_reducible show wpAny _ _ (subscriptTail _ _ (Value.str _ _) (Value.int _ _)) _ _ _); first | (k_dflt (refine' itemS ?zzhx ?zzhz ?zzh0 ?zzh1 ?_ ?zzhs ?zzht; (case zzhx => with_reducible exact rfl); (case zzhs => with_unfolding_all rfl); (case zzht => kmk_pure); (case zzhz => walk_at "mine size"); (case zzh0 => first | omega | decide); (case zzh1 => first | omega | exact drop_ne (by assumption) (by omega) | (simp only [List.length_append, List.length_cons, List.length_nil, List.length_replicate, List.length_take, List.length_drop]; omega))); intro _ _) | (k_dflt (refine' itemSn ?zzhx ?zzhz ?zzh0 ?zzh1 ?_ ?zzhs ?zzht; (case zzhx => with_reducible exact rfl); (case zzhs => with_unfolding_all rfl); (case zzht => kmk_pure); (case zzhz => walk_at "mine size"); (case zzh0 => first | omega | decide); (case zzh1 => walk_at "mine size")); intro _ _))
  k_with "subscriptTail Name Name str int" => walk_at "mine body 0"
  k_with "subscriptTail Name BinOp str int" => walk_at "mine body 0"
  k_with "subscriptTail Name Constant str int" => walk_at "mine body 0"
  k_with "subscriptTail" => walk_at "mine body 0"
  k_with "mine body 1" => (k_here; (with_reducible show wpAny _ _ (subscriptTail _ (PySem.Expr.Slice _ _ none _) (Value.str _ _) (Value.ref _)) _ _ _); first | (k_dflt (refine' sliceS_run ?zzF ?zzN ?zzhx ?zzhz ?zzh0 ?zzh1 ?_ ?zzhs ?zzht; (case zzF => k_asm); (case zzN => k_asm); (case zzhx => with_reducible exact rfl); (case zzhs => with_unfolding_all rfl); (case zzht => kmk_pure); (case zzhz => walk_at "mine size"); (case zzh0 => omega); (case zzh1 => omega)); intro _ _ _ _ _) | (k_dflt (refine' sliceS_from ?zzF ?zzN ?zzhx ?zzhz ?zzh0 ?_ ?zzhs ?zzht; (case zzF => k_asm); (case zzN => k_asm); (case zzhx => with_reducible exact rfl); (case zzhs => with_unfolding_all rfl); (case zzht => kmk_pure); (case zzhz => walk_at "mine size"); (case zzh0 => omega)); intro _ _ _ _ _) | (k_dflt (refine' sliceS_to ?zzF ?zzN ?zzhx ?zzhz ?zzh0 ?_ ?zzhs ?zzht; (case zzF => k_asm); (case zzN => k_asm); (case zzhx => with_reducible exact rfl); (case zzhs => with_unfolding_all rfl); (case zzht => kmk_pure); (case zzhz => walk_at "mine size"); (case zzh0 => omega)); intro _ _ _ _ _) | (k_dflt (refine' sliceS_nn ?zzF ?zzN ?zzhx ?zzhz ?_ ?zzhs ?zzht; (case zzF => k_asm); (case zzN => k_asm); (case zzhx => with_reducible exact rfl); (case zzhs => with_unfolding_all rfl); (case zzht => kmk_pure); (case zzhz => walk_at "mine size")); intro _ _ _ _ _) | (k_dflt (refine' sliceS_toNeg ?zzF ?zzN ?zzhx ?zzhz ?zzh0 ?_ ?zzhs ?zzht; (case zzF => k_asm); (case zzN => k_asm); (case zzhx => with_reducible exact rfl); (case zzhs => with_unfolding_all rfl); (case zzht => kmk_pure); (case zzhz => walk_at "mine size"); (case zzh0 => omega)); intro _ _ _ _ _) | (k_dflt (refine' sliceS_fromNeg ?zzF ?zzN ?zzhx ?zzhz ?zzh0 ?_ ?zzhs ?zzht; (case zzF => k_asm); (case zzN => k_asm); (case zzhx => with_reducible exact rfl); (case zzhs => with_unfolding_all rfl); (case zzht => kmk_pure); (case zzhz => walk_at "mine size"); (case zzh0 => omega)); intro _ _ _ _ _))
  k_with "subscriptTail Name Slice str ref" => walk_at "mine body 1"
  k_with "subscriptTail" => walk_at "mine body 1"
  k_with "compareOp NotIn str str" => (k_here; (with_reducible show wpAny _ _ (compareOp CmpOp.NotIn (Value.str _ _) (Value.str _ _)) _ _ _); k_dflt (refine' notInS ?zzhx ?zzhy ?_; (case zzhx => with_reducible exact rfl); (case zzhy => first | exact lit_q | exact lit_b)))
  k_with "exec For Tuple Call cons nil" => (k_extra "mine for"; walk_say "MINE for")
  k_with "pyIter ref" => (k_extra "mine iter"; walk_say "MINE iter")
  k_with "call ref" => (k_extra "mine call"; walk_say "MINE call")
  k_with "call builtin:list.append" => (k_extra "mine append"; walk_say "MINE append")
  k_with "call builtin:str.join" => (k_extra "mine join"; walk_say "MINE join")
  k_with "InvEndN" => (refine Hold.out ?_; walk_say "MINE end")
  k_with "CompSrc" => (k_extra "mine compsrc"; walk_say "MINE compsrc")
  k_with "CompEnd" => (k_extra "mine compend"; walk_say "MINE compend")
  k_with "call builtin:sum" => (k_extra "mine sum"; walk_say "MINE sum")
  k_with "subscriptTail" => (k_extra "mine item"; walk_say "MINE item")
  k_with "call builtin:sorted" => (k_extra "mine sorted"; walk_say "MINE sorted")
  k_with "compareOp NotEq ref ref" => (k_extra "mine ne"; walk_say "MINE ne")
  k_with "call builtin:len" => (k_extra "mine len"; walk_say "MINE len")
  k_with "binaryOp Pow int int" => (k_extra "mine pow"; walk_say "MINE pow")
  k_with "subscriptTail Name BinOp ref int" => (k_extra "mine item"; walk_say "MINE item")
  k_with "binaryOp FloorDiv int int" => (k_extra "mine fdiv"; walk_say "MINE fdiv")
  k_with "eval ListComp" => (k_extra "mine comp"; walk_say "MINE comp")
  k_with "Src2" => (k_extra "mine src2"; walk_say "MINE src2")
  k_with "Rg2" => (refine Hold.out ?_; walk_say "MINE rg2")
  k_with "El2" => (refine Hold.out ?_; walk_say "MINE el2")
  k_with "subscriptTail Name Name ref int" => (k_extra "mine item"; walk_say "MINE item")
  k_with "binaryOp Mult int int" => (k_extra "mine mul"; walk_say "MINE mul")
  k_with "exec Assign cons ListComp" => (k_extra "mine acomp"; walk_say "MINE acomp")
  k_with "SrcG" => (k_extra "mine srcg"; walk_say "MINE srcg")
  k_with "ElG" => (refine Hold.out ?_; walk_say "MINE elg")
  k_with "CompSrcT" => (k_extra "mine srct"; walk_say "MINE srct")
  k_with "TestEnd" => (dsimp only [TestEnd])
  k_with "subscriptTail Name Slice ref ref" => (k_extra "mine slice"; walk_say "MINE slice")
  k_with "exec For Name Subscript cons nil" => (k_extra "mine for"; walk_say "MINE for")
  k_with "NextTo" => (refine Hold.out ?_; walk_say "MINE next")
  k_go0
  rename Fr _ _ _ _ => F1
  rename News _ _ _ _ => N1
  rename Below _ _ _ _ => B1
  rename Heap.IsList _ _ _ => hL1
  rename IntsAre _ _ => hI1
  rename Shared.gens _ = _ => hg1
  rename World => w
  rename Top _ _ _ _ _ _ => T1
  generalize hmean : ExcName.means _ = mean at *
  rename Shared => s1
  have hT9 : ∃ mg mb, Top hd.view_39 (looseW hd.view_39 [Str.ofString "insort_right", Str.ofString "bisect_right", Str.ofString "bisect_left"]) mean mg mb s1.heap := ⟨_, _, T1⟩
  obtain ⟨mg, mb, T9⟩ := hT9
  have F2 : Fr s1.heap s1.heap.objs.size _ (fun _ => none) := F1
  clear F1
  refine lf_start hL1 F2 N1 (AllBare.of_eq hg1) rfl ?d1 ?d2 ?d3 ?d4 ?d5 ?_
  (case d1 => assumption)
  (case d2 => assumption)
  (case d3 => assumption)
  (case d4 => assumption)
  (case d5 => assumption)
  clear F2 N1
  intro s o1 o2 o3 o4 o5 Z0 d1 d2 d3 d4 d5
  dsimp only
  refine to_ktr [(Str.ofString "parts", s1.heap.objs.size + 1 + 1 + 1 + 1 + 1), (Str.ofString "kinds", s1.heap.objs.size + 1 + 1 + 1 + 1), (Str.ofString "cells", s1.heap.objs.size + 1 + 1 + 1), (Str.ofString "start", s1.heap.objs.size + 1 + 1), (Str.ofString "script", s1.heap.objs.size + 1)] (by rfl) ?_
  generalize hLL : s1.heap.objs.size = L at *
  refine seq_stmt (fun s' => ∃ (p : Nat) (t : Tok), (p = 3 ∨ p = 4) ∧ LF s1.heap L s1.os (fun y => if y = Str.ofString "pairs" then some (.int (p : Int) t) else none) [(L + 1 + 1 + 1 + 1 + 1, o5), (L + 1 + 1 + 1 + 1, o4), (L + 1 + 1 + 1, o3), (L + 1 + 1, o2), (L + 1, o1)] s') ?_ ?_
  · obtain ⟨F0, N0, hb0, hos0⟩ := Z0
    k_fold
    k_steps
    · refine Hold.mk ?_
      exact ⟨rfl, 3, _, .inl rfl, by assumption, by assumption, hb0, hos0⟩
    · refine Hold.mk ?_
      exact ⟨rfl, 4, _, .inr rfl, by assumption, by assumption, hb0, hos0⟩
  clear Z0
  rintro s ⟨p, tp, hp, Z0⟩
  refine seq_stmt (fun s' => ∃ (lS : Addr) (vs : List Value) (n : Nat) (o : Obj), L + 1 + 1 + 1 + 1 + 1 < lS ∧ vs.length = 5 ∧ (∃ ns, IntsAre vs ns) ∧ o.data = .cell (some (.ref lS)) ∧ LF s1.heap L s1.os (fun y => if y = Str.ofString "pairs" then some (.int (p : Int) tp) else none) [(lS, listOf vs.toArray n), (L + 1 + 1 + 1 + 1 + 1, o5), (L + 1 + 1 + 1 + 1, o4), (L + 1 + 1 + 1, o3), (L + 1 + 1, o), (L + 1, o1)] s') ?_ ?_
  · obtain ⟨F0, N0, hb0, hos0⟩ := Z0
    k_fold
    k_steps
    refine Hold.mk ?_
    rename News _ _ _ _ => lN
    exact ⟨rfl, _, _, _, _, by omega, rfl, ⟨_, by l_ints⟩, by assumption, by assumption, fun p hp => lN p hp, hb0, hos0⟩
  clear Z0
  rintro s ⟨lS, vS, nS, oS, hgS, hlS, ⟨nsS, hIS⟩, dS, Z0⟩
  refine seq_stmt (fun s' => ∃ (lC : Addr) (vs : List Value) (cs : List Int) (n : Nat) (o : Obj), IntsAre vs cs ∧ cs.length = 5 ∧ (L + 1 + 1 + 1 + 1 + 1 ≠ lC ∧ L + 1 + 1 + 1 + 1 ≠ lC ∧ L + 1 + 1 + 1 ≠ lC) ∧ o.data = .cell (some (.ref lC)) ∧ LF s1.heap L s1.os (fun y => if y = Str.ofString "pairs" then some (.int (p : Int) tp) else none) [(lC, listOf vs.toArray n), (L + 1 + 1 + 1 + 1 + 1, o5), (L + 1 + 1 + 1 + 1, o4), (L + 1 + 1 + 1, o)] s') ?_ ?_
  · obtain ⟨F0, N0, hb0, hos0⟩ := Z0
    k_with "mine compsrc" => refine Hold.out ?_
    k_with "mine sum" => refine Hold.out ?_
    k_with "mine compend" => refine Hold.out ?_
    k_fold
    k_steps
    refine Hold.mk ?_
    refine LCg.CompSrc.range (n := 5) (by rfl) (by k_asm) (by k_asm) (by assumption) (by decide) (by rfl) (by rw [PySem.sizeLine_eq]; decide) ?_
    intro g
    refine crest_any (fun _ v => ∃ (k : Int) (t : Tok), v = .int k t) ?_ ?_
    · intro i v I oI C oC D m₂ ys h tk E' hi hv hC hx F9 N9 off9
      obtain ⟨t9, rfl⟩ := hv
      have hi0 : (0 : Int) ≤ 0 + (i : Int) := by omega
      have hi1 : (0 : Int) + (i : Int) < 5 := by omega
      have hi2 : (0 : Int) + (i : Int) < (vS.length : Int) := by omega
      k_steps
      refine Hold.mk ?_
      k_here
      obtain ⟨ns9, hns9⟩ := ints_pick hI1 (some (0 + (i : Int))) none (some 5)
      k_dflt (refine' sumK ?k0 ?k1 ?k2 (kso_isList ?k3 ?k4 rfl) hns9 ?_)
      (case k0 => with_unfolding_all rfl)
      (case k1 => k_asm)
      (case k2 => k_asm)
      (case k3 => k_asm)
      (case k4 => k_mem)
      intro h8 tk8 t8 F8 N8
      (try dsimp only [qk])
      (try k_fold)
      k_steps
      refine Hold.mk ?_
      rename News _ _ _ _ => nE
      exact LCg.CompEnd.intro (by assumption) nE _ (fun p hp => by first | exact hp | exact .tail _ hp) off9 trivial ⟨rfl, _, _, rfl⟩
    · intro ys hl hy D h tk F9 N9 off9
      simp only [LCg.Off1, and_true] at off9
      obtain ⟨e1, e2, e3, e4, e5, e6⟩ := off9
      (try dsimp only [qk])
      (try k_fold)
      k_steps
      refine Hold.mk ?_
      rename News _ _ _ _ => nE
      obtain ⟨cs, hcs⟩ := ints_of ys (fun v hv => by obtain ⟨j, hj⟩ := List.getElem?_of_mem hv; exact hy j v hj)
      exact ⟨rfl, D, ys, cs, ys.length, _, hcs, by rw [← hcs.length]; exact hl, ⟨e2, e3, e4⟩, by assumption, by assumption, (fun p hp => nE p (by simp only [List.mem_cons, List.not_mem_nil, or_false] at hp ⊢; rcases hp with h | h | h | h <;> simp [h])), hb0, hos0⟩
  clear Z0 hIS
  rintro s ⟨lC, vC, cs, nC, oC, hIC, hlC, ⟨c1, c2, c3⟩, dC, Z0⟩
  refine seq_stmt (fun s' => ∃ (lK : Addr) (hs : List (List Nat × Tok)) (n : Nat) (o : Obj), hs.map (·.1) = kindsL ∧ (L + 1 + 1 + 1 + 1 + 1 < lK ∧ @LT.lt Nat _ lC lK) ∧ o.data = .cell (some (.ref lK)) ∧ LF s1.heap L s1.os (fun y => if y = Str.ofString "pairs" then some (.int (p : Int) tp) else none) [(lK, listOf (hs.map sv).toArray n), (lC, listOf vC.toArray nC), (L + 1 + 1 + 1 + 1 + 1, o5), (L + 1 + 1 + 1 + 1, o), (L + 1 + 1 + 1, oC)] s') ?_ ?_
  · obtain ⟨F0, N0, hb0, hos0⟩ := Z0
    k_fold
    k_steps
    refine Hold.mk ?_
    rename News _ _ _ _ => nE
    refine ⟨rfl, _, [([], _), ([34, 40, 34], _), ([92, 41], _), ([92, 92], _), ([92, 34], _), ([34, 92, 34, 41, 34], _), ([92, 40], _)], _, _, rfl, ?_, by assumption, by assumption, fun p hp => nE p hp, hb0, hos0⟩
    exact ⟨by omega, by omega⟩
  clear Z0
  rintro s ⟨lK, hK, nK, oK, eK, hgK, dK, Z0⟩
  have hR : ∃ k0 : Int, k0 = cs.getD (Int.toNat 0) 0 := ⟨_, rfl⟩
  obtain ⟨k0, hk0⟩ := hR
  refine seq_stmt (fun s' => ∃ (tr : Tok), LF s1.heap L s1.os (fun y => if y = Str.ofString "row" then some (.str (S (rowOf k0 p)) tr) else if y = Str.ofString "pairs" then some (.int (p : Int) tp) else none) [(lK, listOf (hK.map sv).toArray nK), (lC, listOf vC.toArray nC), (L + 1 + 1 + 1 + 1 + 1, o5), (L + 1 + 1 + 1 + 1, oK), (L + 1 + 1 + 1, oC)] s') ?_ ?_
  · obtain ⟨F0, N0, hb0, hos0⟩ := Z0
    k_with "mine call" => refine Hold.out ?_
    k_fold
    k_steps
    refine Hold.mk ?_
    k_here
    k_dflt (refine' use_gives (row_gives w mean mg mb _ _ p _ (by rcases hp with h | h <;> omega)) ?k1 ?k2 ?k3 ?k4 ?k5 rfl trivial ?k7 ?k8 ?_)
    (case k1 => k_asm)
    (case k2 => k_asm)
    (case k3 => k_asm)
    (case k4 => k_asm)
    (case k5 => k_asm)
    (case k7 => ktr_room)
    (case k8 => ktr_units)
    intro t9 h9 tk9 F9 N9
    (try dsimp only [qk])
    (try k_fold)
    k_steps
    refine Hold.mk ?_
    rename News _ _ _ _ => nE
    rw [hk0]
    exact ⟨rfl, _, by assumption, nE, hb0, hos0⟩
  clear Z0
  rintro s ⟨tr, Z0⟩
  have hrow := rowOf_mem k0 p
  have hrl : (rowOf k0 p).length = 2 * p := (rows_plain p (by rcases hp with rfl | rfl <;> simp) _ hrow).2
  have hrp : Plain (rowOf k0 p) := by
    intro c hc
    have h1 := (rows_plain p (by rcases hp with rfl | rfl <;> simp) _ hrow).1
    unfold plainB at h1
    have h2 := List.all_eq_true.mp h1 c hc
    simp at h2; omega
  generalize hrw : rowOf k0 p = row at *
  refine seq_stmt (fun s' => ∃ (lG : Addr) (xs : List (List Nat × Tok)) (nG : Nat), xs.map (·.1) = grown row ∧ (@LT.lt Nat _ lK lG ∧ @LT.lt Nat _ lC lG ∧ @LT.lt Nat _ (L + 1 + 1 + 1 + 1 + 1) lG) ∧ LF s1.heap L s1.os (fun y => if y = Str.ofString "kept" then some (.ref lG) else if y = Str.ofString "row" then some (.str (S row) tr) else if y = Str.ofString "pairs" then some (.int (p : Int) tp) else none) [(lG, listOf (xs.map sv).toArray nG), (lK, listOf (hK.map sv).toArray nK), (lC, listOf vC.toArray nC), (L + 1 + 1 + 1 + 1 + 1, o5), (L + 1 + 1 + 1 + 1, oK), (L + 1 + 1 + 1, oC)] s') ?_ ?_
  · obtain ⟨F0, N0, hb0, hos0⟩ := Z0
    k_with "mine call" => refine Hold.out ?_
    k_fold
    k_steps
    refine Hold.mk ?_
    k_here
    k_dflt (refine' (grown_gives w mean mg mb row tr hrp (by rcases hp with h | h <;> omega)) _ _ _ _ _ _ _ _ _ _ _ _ _ _ _ _ _ _ ?k1 ?k2 ?k3 ?k4 ?k5 rfl ?k7 ?k8 ?_)
    (case k1 => k_asm)
    (case k2 => k_asm)
    (case k3 => k_asm)
    (case k4 => k_asm)
    (case k5 => k_asm)
    (case k7 => ktr_room)
    (case k8 => ktr_units)
    intro lG nG xs h9 tk9 ex l9 F9 N9
    (try dsimp only [qk])
    (try k_fold)
    k_steps
    refine Hold.mk ?_
    rename News _ _ _ _ => nE
    exact ⟨rfl, lG, xs, nG, ex, ⟨l9 _ (.head _), l9 _ (.tail _ (.head _)), l9 _ (.tail _ (.tail _ (.head _)))⟩, by assumption, nE, hb0, hos0⟩
  clear Z0
  rintro s ⟨lG, xs, nG, ex, hgG, Z0⟩
  have hOK : rowOK p row = true := by
    rcases hp with rfl | rfl
    · exact rowsOK3 row hrow
    · exact rowsOK4 row hrow
  simp only [rowOK, Bool.and_eq_true, beq_iff_eq] at hOK
  obtain ⟨⟨⟨hris, hlenG⟩, hbisG⟩, hcntG⟩ := hOK
  have hokG : ∀ q ∈ xs, OkT q.1 := fun q hq => (gFold_good hrp (by rcases hp with h | h <;> omega) (row.length + 1)).2 q.1 (by show q.1 ∈ grown row; rw [← ex]; exact List.mem_map_of_mem hq)
  have hlenX : xs.length = 1 + (p + 1) * (p + 1) := by rw [← hlenG, ← ex, List.length_map]
  have hlenX2 : xs.length < 64 := by rw [hlenX]; rcases hp with rfl | rfl <;> decide
  refine seq_stmt (fun s' => LF s1.heap L s1.os (fun y => if y = Str.ofString "kept" then some (.ref lG) else if y = Str.ofString "row" then some (.str (S row) tr) else if y = Str.ofString "pairs" then some (.int (p : Int) tp) else none) [(lG, listOf (xs.map sv).toArray nG), (lK, listOf (hK.map sv).toArray nK), (lC, listOf vC.toArray nC), (L + 1 + 1 + 1 + 1 + 1, o5), (L + 1 + 1 + 1 + 1, oK), (L + 1 + 1 + 1, oC)] s') ?_ ?_
  · obtain ⟨F0, N0, hb0, hos0⟩ := Z0
    k_fold
    replace hp := Hold.mk hp
    k_with "mine call" => refine Hold.out ?_
    k_with "mine sorted" => refine Hold.out ?_
    k_with "mine ne" => refine Hold.out ?_
    k_with "mine len" => refine Hold.out ?_
    k_steps
    refine Hold.mk ?_
    k_here
    k_dflt (refine' sorted_sv (xs := xs) (n := nG) ?k1 ?k2 (.head _) (by rw [ex]; exact hris) hlenX2 ?_)
    (case k1 => k_asm)
    (case k2 => k_asm)
    intro D9 h9 e9 ys9 ey9 F9 N9
    (try dsimp only [qk])
    (try k_fold)
    k_steps
    refine Hold.mk ?_
    k_here
    k_dflt (refine' ne_same_sv (xs := xs) (ys := ys9) (n := nG) (n2 := e9) ?k2 (.tail _ (.head _)) (.head _) ey9 hokG ?k8 ?_)
    (case k2 => k_asm)
    (case k8 => ktr_units)
    have hl1 : (xs.length : Int) = 1 + ((p : Int) + 1) ^ (Int.toNat 2) := by
      rw [hlenX]
      have : ((p : Int) + 1) ^ (Int.toNat 2) = (((p + 1) * (p + 1) : Nat) : Int) := by
        show ((p : Int) + 1) ^ 2 = _
        rw [Int.pow_succ, Int.pow_succ, Int.pow_zero, Int.one_mul]; push_cast; rfl
      rw [this]; push_cast; rfl
    have hb1 : (bisL (xs.map (·.1)) [41, 41] : Int) = (bisL (xs.map (·.1)) [41] : Int) + ((p : Int) + 1) := by
      rw [ex]; omega
    have hpw : ((p : Int) + 1).natAbs < 2 ^ 64 := by
      have : p = 3 ∨ p = 4 := hp
      omega
    k_with "mine pow" =>
      k_here
      k_dflt (refine' pow_int_small ?a ?b ?c ?_)
      (case a => decide)
      (case b => decide)
      (case c => exact hpw)
    k_steps
    refine Hold.mk ?_
    k_here
    k_dflt (refine' len_xs (xs := xs) (n := nG) ?k2 (.tail _ (.head _)) (by omega) ?_)
    (case k2 => k_asm)
    intro t9 tk9
    (try dsimp only [qk])
    (try k_fold)
    k_steps
    · exact absurd hl1 (by assumption)
    refine Hold.mk ?_
    k_here
    rw [lit_cc]
    k_dflt (refine' use_gives (bisl_gives w mean mg mb lG xs nG [41, 41] _ (by omega)) ?k1 ?k2 ?k3 ?k4 ?k5 rfl (.tail _ (.head _)) ?k7 ?k8 ?_)
    (case k1 => k_asm)
    (case k2 => k_asm)
    (case k3 => k_asm)
    (case k4 => k_asm)
    (case k5 => k_asm)
    (case k7 => ktr_room)
    (case k8 => ktr_units)
    intro t8 h8 tk8 F8 N8
    (try dsimp only [qk])
    (try k_fold)
    k_steps
    refine Hold.mk ?_
    k_here
    rw [lit_c]
    k_dflt (refine' use_gives (bisl_gives w mean mg mb lG xs nG [41] _ (by omega)) ?k1 ?k2 ?k3 ?k4 ?k5 rfl (.tail _ (.head _)) ?k7 ?k8 ?_)
    (case k1 => k_asm)
    (case k2 => k_asm)
    (case k3 => k_asm)
    (case k4 => k_asm)
    (case k5 => k_asm)
    (case k7 => ktr_room)
    (case k8 => ktr_units)
    intro t7 h7 tk7 F7 N7
    (try dsimp only [qk])
    (try k_fold)
    k_steps
    · have h : (bisL (xs.map (·.1)) [41, 41] : Int) - (bisL (xs.map (·.1)) [41] : Int) ≠ (p : Int) + 1 := by assumption
      omega
    refine Hold.mk ?_
    rename News _ _ _ _ => nE
    exact ⟨rfl, by assumption, fun p hp => nE p (.tail _ hp), hb0, hos0⟩
  clear Z0
  intro s Z0
  refine seq_stmt (fun s' => ∃ (lP : Addr) (ps : List (Int × Tok)) (nP : Nat) (oP : Obj), ps.map (·.1) = partsL row p ∧ (@Ne Nat (L + 1 + 1 + 1 + 1 + 1) lP ∧ @Ne Nat lG lP ∧ @Ne Nat lC lP) ∧ oP.data = .cell (some (.ref lP)) ∧ LF s1.heap L s1.os (fun y => if y = Str.ofString "kept" then some (.ref lG) else if y = Str.ofString "row" then some (.str (S row) tr) else if y = Str.ofString "pairs" then some (.int (p : Int) tp) else none) [(lP, listOf (ps.map av).toArray nP), (lG, listOf (xs.map sv).toArray nG), (lC, listOf vC.toArray nC), (L + 1 + 1 + 1 + 1 + 1, oP), (L + 1 + 1 + 1, oC)] s') ?_ ?_
  · obtain ⟨F0, N0, hb0, hos0⟩ := Z0
    k_fold
    replace hp := Hold.mk hp
    k_with "mine compsrc" => refine Hold.out ?_
    k_with "mine compend" => refine Hold.out ?_
    k_with "mine call" => refine Hold.out ?_
    k_steps
    refine Hold.mk ?_
    have hp8 : 2 * p ≤ 8 := by
      have : p = 3 ∨ p = 4 := hp
      omega
    have hIx : 1 < cs.length := by omega
    refine LCg.CompSrc.range (n := 2 * p) (by rfl) (by k_asm) (by k_asm) (by assumption) (small_one (by omega) (by omega) (by omega) (by omega)) (size_from0 _ _ (by push_cast; rfl)) (by rw [PySem.sizeLine_eq]; omega) ?_
    intro g
    refine crest_any (fun _ v => ∃ q : List Nat × Tok, v = sv q ∧ q.1 ∈ kindsL) ?_ ?_
    · intro i v I oI C oC9 D m₂ ys h tk E' hi hv hC hx F9 N9 off9
      obtain ⟨t9, rfl⟩ := hv
      have hi0 : (0 : Int) ≤ 0 + (i : Int) := by omega
      have hi1 : (0 : Int) + (i : Int) ≤ 1000000 := by omega
      have hpw0 : (7 : Int) ^ (0 + (i : Int)).toNat > 0 := Int.pow_pos (by decide)
      have hpw1 : (7 : Int) ^ (0 + (i : Int)).toNat ≠ 0 := by omega
      replace hi := Hold.mk hi
      replace hp8 := Hold.mk hp8
      k_with "mine pow" =>
        k_here
        k_dflt (refine' pow_int_small ?a ?b ?c ?_)
        (case a => exact hi0)
        (case b => exact hi1)
        (case c => decide)
      k_with "mine fdiv" =>
        k_here
        (refine floordiv_int_or rfl (fun h0 => absurd h0 hpw1) (fun _ => ?_))
      k_with "mine item" => refine Hold.out ?_
      k_steps
      refine Hold.mk ?_
      k_here
      have hm0 := Int.fmod_nonneg_of_pos ((cs.getD (Int.toNat 1) 0).fdiv (7 ^ (0 + (i : Int)).toNat)) (b := 7) (by decide)
      have hm1 := Int.fmod_lt_of_pos ((cs.getD (Int.toNat 1) 0).fdiv (7 ^ (0 + (i : Int)).toNat)) (b := 7) (by decide)
      have hkl : hK.length = 7 := by rw [← List.length_map (f := fun q : List Nat × Tok => q.1), eK]; rfl
      k_dflt (refine' item_xs (xs := hK) (n := nK) ?k1 ?k2 ?k3 ?k4 ?k5 ?_ ?k6)
      (case k1 => k_asm)
      (case k2 => k_mem)
      (case k6 => with_unfolding_all rfl)
      (case k3 => omega)
      (case k4 => omega)
      (case k5 => omega)
      k_steps
      refine Hold.mk ?_
      rename News _ _ _ _ => nE
      refine LCg.CompEnd.intro (by assumption) nE _ (fun p hp => by first | exact hp | exact .tail _ hp) off9 trivial ⟨rfl, hK.getD (((cs.getD (Int.toNat 1) 0).fdiv (7 ^ (0 + (i : Int)).toNat)).fmod 7).toNat ([], 0), rfl, ?_⟩
      rw [getD_fst, eK]
      exact kind_at (fun q hq => hq) _
    · intro ys hl hy D h tk F9 N9 off9
      simp only [LCg.Off1, and_true] at off9
      obtain ⟨e1, e2, e3, e4, e5, e6⟩ := off9
      (try dsimp only [qk])
      (try k_fold)
      obtain ⟨hs, rfl, hhs⟩ := svs_of (fun q => q ∈ kindsL) ys (fun v hv => by obtain ⟨j, hj⟩ := List.getElem?_of_mem hv; exact hy j v hj)
      rw [List.length_map] at hl
      have hh5 : ∀ q ∈ hs, q.1.length ≤ 5 := fun q hq => by
        have h9 : ∀ k ∈ kindsL, k.length ≤ 5 := by decide
        exact h9 _ (hhs q hq)
      have hp4 : p ≤ 4 := by omega
      have hpb := parts_bare (p := p) (hs := hs.map (·.1)) (rows_plain p (by have : p = 3 ∨ p = 4 := hp; rcases this with rfl | rfl <;> simp) _ hrow).1 (by intro q hq; obtain ⟨r, hr, rfl⟩ := List.mem_map.mp hq; exact hhs r hr) hrl
      replace hp4 := Hold.mk hp4
      replace hp8 := Hold.mk hp8
      k_steps
      refine Hold.mk ?_
      k_here
      k_dflt (refine' (parts_gives w mean mg mb row tr p hrl hp4 D hs (List.map sv hs).length hl hh5) _ _ _ _ _ _ _ _ _ _ _ _ _ _ _ _ _ _ ?k1 ?k2 ?k3 ?k4 ?k5 rfl (.head _) ?k7 ?k8 hb0 ?_)
      (case k1 => k_asm)
      (case k2 => k_asm)
      (case k3 => k_asm)
      (case k4 => k_asm)
      (case k5 => k_asm)
      (case k7 => ktr_room)
      (case k8 => ktr_units)
      intro lP nP ps h8 tk8 gs8 hb8 eP l8 F8 N8
      have hgP1 : @LT.lt Nat _ (L + 1 + 1 + 1 + 1 + 1) lP := l8 (L + 1 + 1 + 1 + 1 + 1, o5) (by simp)
      have hgP2 : @LT.lt Nat _ lG lP := l8 (lG, listOf (xs.map sv).toArray nG) (by simp)
      have hgP3 : @LT.lt Nat _ lC lP := l8 (lC, listOf vC.toArray nC) (by simp)
      have hgP4 : @LT.lt Nat _ D lP := l8 _ (.head _)
      have hgP5 : @LT.lt Nat _ lK lP := l8 (lK, listOf (hK.map sv).toArray nK) (by simp)
      (try dsimp only [qk])
      (try k_fold)
      k_steps
      refine Hold.mk ?_
      rename News _ _ _ _ => nE
      refine ⟨rfl, lP, ps, nP, _, by rw [eP, hpb], ?_, by assumption, by assumption, (fun p hp => nE p (by simp only [List.mem_cons, List.not_mem_nil, or_false] at hp ⊢; rcases hp with h | h | h | h | h <;> simp [h])), hb8, hos0⟩
      exact ⟨Nat.ne_of_lt hgP1, Nat.ne_of_lt hgP2, Nat.ne_of_lt hgP3⟩
  clear Z0
  rintro s ⟨lP, ps, nP, oP, eP, hgP, dP, Z0⟩
  clear hgP c1 c2 c3 hgK hgG
  obtain ⟨hpl4, hpk4⟩ := rows_parts p (by rcases hp with rfl | rfl <;> simp) row hrow
  rw [← eP] at hpl4 hpk4 hcntG
  have hpl : ps.length ≤ 4 := by rw [List.length_map] at hpl4; exact hpl4
  have hpl5 : (ps.map (·.1)).length = ps.length := List.length_map ..
  generalize hks : ps.map (·.1) = ks at *
  refine seq_stmt (fun s' => ∃ (td : Tok), LF s1.heap L s1.os (fun y => if y = Str.ofString "due" then some (.int (1 + (prodsL ks).sum) td) else if y = Str.ofString "kept" then some (.ref lG) else if y = Str.ofString "row" then some (.str (S row) tr) else if y = Str.ofString "pairs" then some (.int (p : Int) tp) else none) [(lG, listOf (xs.map sv).toArray nG), (lC, listOf vC.toArray nC), (L + 1 + 1 + 1, oC)] s') ?_ ?_
  · obtain ⟨F0, N0, hb0, hos0⟩ := Z0
    k_fold
    replace hp := Hold.mk hp
    replace hpl := Hold.mk hpl
    replace hpl4 := Hold.mk hpl4
    k_with "mine comp" =>
      k_here
      k_dflt (refine ListComp_2 (F₀ := by k_asm) (by with_unfolding_all rfl) (by decide) (by rfl) (by decide) (by rfl) (by rfl) (by decide) ?_)
    k_with "mine len" => refine Hold.out ?_
    k_with "mine src2" => refine Hold.out ?_
    k_with "mine item" => refine Hold.out ?_
    k_with "mine sum" => refine Hold.out ?_
    k_steps
    refine Hold.mk ?_
    k_here
    have hpl9 : ps.length ≤ 4 := hpl
    k_dflt (refine' len_av (xs := ps) (n := nP) ?k2 (.head _) (by omega) ?_)
    (case k2 => k_asm)
    intro t9 tk9
    (try dsimp only [qk])
    (try k_fold)
    k_steps
    refine Hold.mk ?_
    rename Fr _ _ _ _ => lF
    rename News _ _ _ _ => lN
    rename IsRange _ _ _ _ _ _ _ _ => rgX
    refine ⟨_, _, _, _, ps.length, _, fun i j ys => IntsAre ys (prodsTo ks i j), rfl, by rfl, by omega, lF, lN, rgX, .nil, ?_, ?_, ?_, ?_, ?_⟩
    · intro i j ys hi hj hJ
      rw [hJ.length]; exact prodsTo_len ks i j (by omega) hj
    · intro i ys hi hJ
      rw [← prodsTo_next]; exact hJ
    · intro h i t I oI C oC9 D m₂ ys h9 tk E' hi hC hx F9 N9
      replace hpl9 := Hold.mk hpl9
      k_steps
      refine Hold.mk ?_
      rename News _ _ _ _ => nE
      rename IsRange _ _ _ _ _ _ _ _ => rgE
      exact rg2_end (by assumption) nE (fun p hp => hp) rgE rfl (by push_cast; rfl) rfl
    · intro h i j t1 t2 I2 oI2 I oI C oC9 D m₂ ys h9 tk E' hi hj hJ hC hx1 hx2 F9 N9
      have hb1 := getD_small hpk4 i
      have hb2 := getD_small hpk4 j
      have hmul : IntMulOk (ks.getD i 0) (ks.getD j 0) := IntMulOk.of_left (small_bits hb1.1 hb1.2)
      k_with "mine mul" =>
        k_here
        (refine mul_int ?_ hmul)
      k_steps
      refine Hold.mk ?_
      k_here
      k_dflt (refine' item_av (xs := ps) (n := nP) ?k1 ?k2 ?k3 ?k4 ?k5 ?_ ?k6)
      (case k1 => k_asm)
      (case k2 => k_mem)
      (case k6 => with_unfolding_all rfl)
      (case k3 => omega)
      (case k4 => omega)
      (case k5 => omega)
      intro t8
      rw [hks, Int.toNat_natCast]
      (try dsimp only [qk])
      k_steps
      refine Hold.mk ?_
      k_here
      k_dflt (refine' item_av (xs := ps) (n := nP) ?k1 ?k2 ?k3 ?k4 ?k5 ?_ ?k6)
      (case k1 => k_asm)
      (case k2 => k_mem)
      (case k6 => with_unfolding_all rfl)
      (case k3 => omega)
      (case k4 => omega)
      (case k5 => omega)
      intro t7
      rw [hks, Int.toNat_natCast]
      replace hpl9 := Hold.mk hpl9
      k_steps
      refine Hold.mk ?_
      rename News _ _ _ _ => nE
      refine el2_end (by assumption) nE (fun p hp => hp) ?_
      rw [prodsTo_in]
      exact hJ.append (.cons _ _ .nil)
    · intro ys D h9 tk hJ off9 F9 N9
      rw [← hpl5] at hJ
      rw [prodsTo_end] at hJ
      (try dsimp only [qk])
      (try k_fold)
      k_steps
      refine Hold.mk ?_
      k_here
      k_dflt (refine' sumK ?k0 ?k1 ?k2 (kso_isList ?k3 ?k4 rfl) hJ ?_)
      (case k0 => with_unfolding_all rfl)
      (case k1 => k_asm)
      (case k2 => k_asm)
      (case k3 => k_asm)
      (case k4 => exact .head _)
      intro h8 tk8 t8 F8 N8
      (try dsimp only [qk])
      (try k_fold)
      k_steps
      refine Hold.mk ?_
      rename News _ _ _ _ => nE
      exact ⟨rfl, _, by assumption, (fun p hp => nE p (by simp only [List.mem_cons, List.not_mem_nil, or_false] at hp ⊢; rcases hp with h | h | h <;> simp [h])), hb0, hos0⟩
  clear Z0
  rintro s ⟨td, Z0⟩
  have hlenT : ∀ q ∈ xs, q.1.length ≤ 12 := fun q hq => by
    have h1 := List.all_eq_true.mp (rows_len p (by rcases hp with rfl | rfl <;> simp) row hrow) q.1 (by rw [← ex]; exact List.mem_map_of_mem hq)
    simpa using h1
  refine seq_stmt (fun s' => ∃ (lT : Addr) (nT : Nat), LF s1.heap L s1.os (fun y => if y = Str.ofString "told" then some (.ref lT) else if y = Str.ofString "due" then some (.int (1 + (prodsL ks).sum) td) else if y = Str.ofString "kept" then some (.ref lG) else if y = Str.ofString "row" then some (.str (S row) tr) else if y = Str.ofString "pairs" then some (.int (p : Int) tp) else none) [(lT, listOf (xs.map fun q => Value.bool (chk q.1)).toArray nT), (lG, listOf (xs.map sv).toArray nG), (lC, listOf vC.toArray nC), (L + 1 + 1 + 1, oC)] s') ?_ ?_
  · obtain ⟨F0, N0, hb0, hos0⟩ := Z0
    k_fold
    replace hp := Hold.mk hp
    k_with "mine acomp" =>
      k_here
      k_dflt (refine Assign_ListComp_G (F₀ := by k_asm) (by rfl) (by with_unfolding_all rfl) (by with_unfolding_all rfl) (by decide) (by rfl) (by decide) (by rfl) (by rfl) (by rfl) ?_)
    k_with "mine srcg" => refine Hold.out ?_
    k_with "mine call" => refine Hold.out ?_
    k_steps
    refine Hold.mk ?_
    rename Fr _ _ _ _ => lF
    rename News _ _ _ _ => lN
    refine ⟨lG, xs.map sv, nG, _, fun i ys => ys = (xs.take i).map fun q => Value.bool (chk q.1), rfl, by rfl, lF, lN, hb0, .head _, by rw [List.length_map, PySem.sizeLine_eq]; omega, by simp, ?_, ?_⟩
    · intro h i v I oI C oC9 D m₂ ys h9 tk gs E' hv hJ hC hx hb9 F9 N9
      rw [List.getElem?_map] at hv
      obtain ⟨q, hq, rfl⟩ := Option.map_eq_some_iff.mp hv
      replace hx : m₂ (Str.ofString "text") = some (.str (S q.1) q.2) := hx
      have hql : q.1.length ≤ 200 := Nat.le_trans (hlenT q (List.mem_of_getElem? hq)) (by decide)
      k_steps
      refine Hold.mk ?_
      k_here
      k_dflt (refine' use_givesG (check_gives w mean mg mb q.1 _ hql) ?k1 ?k2 ?k3 ?k4 ?k5 rfl trivial ?k7 ?k8 hb9 ?_)
      (case k1 => k_asm)
      (case k2 => k_asm)
      (case k3 => k_asm)
      (case k4 => k_asm)
      (case k5 => k_asm)
      (case k7 => ktr_room)
      (case k8 => ktr_units)
      intro t8 h8 tk8 gs8 hb8 F8 N8
      (try dsimp only [qk])
      k_steps
      refine Hold.mk ?_
      refine elg_end hb8 F8 N8 (fun p hp => hp) ?_
      rw [hJ, List.take_add_one, hq]
      simp
    · intro ys D h9 tk gs hJ hb9 off9 F9 N9
      (try dsimp only [qk])
      (try k_fold)
      k_steps
      refine Hold.mk ?_
      rw [List.length_map, List.take_length] at hJ
      subst hJ
      exact ⟨rfl, D, _, F9, N9, hb9, hos0⟩
  clear Z0
  rintro s ⟨lT, nT, Z0⟩
  refine seq_stmt (fun s' => LF s1.heap L s1.os (fun y => if y = Str.ofString "told" then some (.ref lT) else if y = Str.ofString "due" then some (.int (1 + (prodsL ks).sum) td) else if y = Str.ofString "kept" then some (.ref lG) else if y = Str.ofString "row" then some (.str (S row) tr) else if y = Str.ofString "pairs" then some (.int (p : Int) tp) else none) [(lG, listOf (xs.map sv).toArray nG), (lC, listOf vC.toArray nC), (L + 1 + 1 + 1, oC)] s') ?_ ?_
  · obtain ⟨F0, N0, hb0, hos0⟩ := Z0
    k_fold
    replace hp := Hold.mk hp
    k_with "mine comp" =>
      k_here
      k_dflt (refine LCt.ListComp_T (F₀ := by k_asm) (by with_unfolding_all rfl) (by decide) (by rfl) (by decide) (by rfl) ?_)
    k_with "mine srct" => refine Hold.out ?_
    k_with "mine len" => refine Hold.out ?_
    k_with "mine ne" => refine Hold.out ?_
    k_with "mine compend" => refine Hold.out ?_
    k_steps
    refine Hold.mk ?_
    refine LCt.CompSrcT.ledger (by rfl) (by k_asm) (by k_asm) (.head _) (by rw [PySem.sizeLine_eq, List.size_toArray, List.length_map]; omega) ?_
    intro g
    rw [List.size_toArray, List.length_map]
    refine crestT_any (fun i ys => ys.length = (xs.take i).countP fun q => chk q.1) rfl ?_ ?_
    · intro i v I oI C oC9 D m₂ ys h9 tk E' hi hv hJ hC hx F9 N9 off9
      have hq : xs[i]? = some (xs[i]'hi) := List.getElem?_eq_getElem hi
      obtain rfl : v = Value.bool (chk (xs[i]'hi).1) := by
        simp [hi] at hv; exact hv.symm
      generalize xs[i]'hi = q at hq hx
      k_steps
      · have hc : chk q.1 = true := by
          have h : (chk q.1 == true) = true := by assumption
          simpa using h
        refine Hold.mk ?_
        rename News _ _ _ _ => nE
        exact LCg.CompEnd.intro (by assumption) nE _ (fun p hp => hp) off9 (.inr ⟨_, .head _, rfl, _, rfl⟩) ⟨rfl, by rw [List.length_append, hJ, count_step _ hq, if_pos hc]; rfl⟩
      · have hc : ¬ chk q.1 = true := by
          have h : (chk q.1 == true) = false := by assumption
          simpa using h
        refine Hold.mk ?_
        rename News _ _ _ _ => nE
        exact LCg.CompEnd.intro (by assumption) nE _ (fun p hp => hp) off9 (.inr ⟨_, .head _, rfl, _, rfl⟩) ⟨rfl, by rw [hJ, count_step _ hq, if_neg hc]; rfl⟩
    intro ysT hJT D h9 tk F9 N9 off9
    rw [List.take_length] at hJT
    have hT1 : ysT.length ≤ 64 := by rw [hJT]; exact Nat.le_trans (List.countP_le_length ..) (by omega)
    (try dsimp only [qk])
    (try k_fold)
    k_steps
    refine Hold.mk ?_
    k_here
    k_dflt (refine' kst_len (k := ysT.length) ?k2 (.head _) rfl (by omega) ?_)
    (case k2 => k_asm)
    (try dsimp only [qk])
    (try k_fold)
    k_steps
    refine Hold.mk ?_
    refine LCt.CompSrcT.ledger (by rfl) (by k_asm) (by k_asm) (.tail _ (.head _)) (by rw [PySem.sizeLine_eq, List.size_toArray, List.length_map]; omega) ?_
    intro g
    rw [List.size_toArray, List.length_map]
    refine crestT_any (fun i ys => ys.length = (xs.take i).countP fun q => !chk q.1) rfl ?_ ?_
    · intro i v I oI C oC9 D m₂ ys h9 tk E' hi hv hJ hC hx F9 N9 off9
      have hq : xs[i]? = some (xs[i]'hi) := List.getElem?_eq_getElem hi
      obtain rfl : v = Value.bool (chk (xs[i]'hi).1) := by
        simp [hi] at hv; exact hv.symm
      generalize xs[i]'hi = q at hq hx
      k_steps
      · have hc : (!chk q.1) = true := by
          have h : (chk q.1 == false) = true := by assumption
          simpa using h
        refine Hold.mk ?_
        rename News _ _ _ _ => nE
        exact LCg.CompEnd.intro (by assumption) nE _ (fun p hp => hp) off9 (.inr ⟨_, .tail _ (.head _), rfl, _, rfl⟩) ⟨rfl, by rw [List.length_append, hJ, count_step _ hq, if_pos hc]; rfl⟩
      · have hc : ¬ (!chk q.1) = true := by
          have h : (chk q.1 == false) = false := by assumption
          simpa using h
        refine Hold.mk ?_
        rename News _ _ _ _ => nE
        exact LCg.CompEnd.intro (by assumption) nE _ (fun p hp => hp) off9 (.inr ⟨_, .tail _ (.head _), rfl, _, rfl⟩) ⟨rfl, by rw [hJ, count_step _ hq, if_neg hc]; rfl⟩
    intro ysF hJF D2 h8 tk8 F8 N8 off8
    rw [List.take_length] at hJF
    have hF1 : ysF.length ≤ 64 := by rw [hJF]; exact Nat.le_trans (List.countP_le_length ..) (by omega)
    (try dsimp only [qk])
    (try k_fold)
    k_steps
    refine Hold.mk ?_
    k_here
    k_dflt (refine' kst_len (k := ysF.length) ?k2 (.head _) rfl (by omega) ?_)
    (case k2 => k_asm)
    (try dsimp only [qk])
    (try k_fold)
    k_steps
    refine Hold.mk ?_
    k_here
    k_dflt (refine' len_xs (xs := xs) (n := nG) ?k2 ?k3 (by omega) ?_)
    (case k2 => k_asm)
    (case k3 => k_mem)
    intro t7 tk7
    (try dsimp only [qk])
    (try k_fold)
    k_steps
    refine Hold.mk ?_
    k_here
    have hcT : (ysT.length : Int) = 1 + (prodsL ks).sum := by
      rw [hJT, ← hcntG, ← ex, List.countP_map]; rfl
    have hcF : (ysF.length : Int) = (xs.length : Int) - (1 + (prodsL ks).sum) := by
      have h1 := count_both (fun q : List Nat × Tok => chk q.1) xs
      rw [← hJT, ← hJF] at h1
      omega
    have he : [(ysT.length : Int), (ysF.length : Int)] = [1 + (prodsL ks).sum, (xs.length : Int) - (1 + (prodsL ks).sum)] := by rw [hcT, hcF]
    k_dflt (refine' ke_ne_ints (kso_isList ?k2 (.tail _ (.head _)) rfl) (kso_isList ?k3 (.head _) rfl) (.cons (ysT.length : Int) _ (.cons (ysF.length : Int) _ .nil)) (.cons (1 + (prodsL ks).sum) _ (.cons ((xs.length : Int) - (1 + (prodsL ks).sum)) _ .nil)) ?k8 ?_)
    (case k2 => k_asm)
    (case k3 => k_asm)
    (case k8 => ktr_units)
    rw [decide_eq_true he]
    (try dsimp only [qk, Bool.not_true])
    (try k_fold)
    k_steps
    refine Hold.mk ?_
    rename News _ _ _ _ => nE
    exact ⟨rfl, by assumption, (fun p hp => nE p (by simp only [List.mem_cons, List.not_mem_nil, or_false] at hp ⊢; rcases hp with h | h | h <;> simp [h])), hb0, hos0⟩
  clear Z0
  intro s Z0
  have hlevO : levOK p row = true := by
    rcases hp with rfl | rfl
    · exact levOK3 row hrow
    · exact levOK4 row hrow
  have hcom := rows_com p (by rcases hp with rfl | rfl <;> simp) row hrow
  have hplW := rows_plain (p + 1) (by rcases hp with rfl | rfl <;> simp)
  have hrowP := (rows_plain p (by rcases hp with rfl | rfl <;> simp) row hrow).1
  refine seq_stmt (fun s' => ∃ (m : Str → Option Value), LF s1.heap L s1.os m [] s') ?_ ?_
  · obtain ⟨F0, N0, hb0, hos0⟩ := Z0
    k_fold
    have hp4 : p ≤ 4 := by omega
    replace hp := Hold.mk hp
    replace hp4 := Hold.mk hp4
    k_with "mine slice" => refine Hold.out ?_
    k_with "mine iter" => refine Hold.out ?_
    k_with "mine call" => refine Hold.out ?_
    k_with "mine for" =>
      k_here
      rename Fr _ _ _ _ => lF'
      with_unfolding_all refine' For_invVF lF' ?k1 ?k2 ?_
      (case k1 => exact rfl)
      (case k2 => exact rfl)
    k_steps
    refine Hold.mk ?_
    k_here
    obtain ⟨ns9, hns9⟩ := ints_pick hIC (some 2) (some ((p : Int) + 1)) none
    k_dflt (refine' kmk_slice_ints (ns := cs) (ms := ns9) (c := ns9.length) (vs := vC) ?F ?N ?hl (IsPart.int _ _) (IsPart.int _ _) hIC hns9 rfl ?_ ?hs ?ht ?hz)
    (case F => k_asm)
    (case N => k_asm)
    (case hl => exact ⟨_, (N0 _ (.tail _ (.head _))).1, rfl, _, rfl⟩)
    (case hs => with_unfolding_all rfl)
    (case ht => kmk_pure)
    (case hz => rw [PySem.sizeLine_eq, List.size_toArray, hIC.length]; omega)
    intro lD wsD h9 F9 N9 l9 hI9 _ _
    (try dsimp only [qk])
    (try k_fold)
    k_steps
    refine Hold.mk ?_
    k_here
    rename Fr _ _ _ _ => lF
    rename News _ _ _ _ => lN
    with_unfolding_all refine' kst_listL (fun _ : Unit => [(lD, listOf wsD.toArray 0), (lG, listOf (xs.map sv).toArray nG), (lC, listOf vC.toArray nC), (L + 1 + 1 + 1, oC)]) (fun _ => []) (fun _ => True) [Str.ofString "wider"] (fun _ _ => True) () ?hh (fun _ => .head _) hI9 lF ?kn trivial ?kk trivial ?_ ?_
    (case hh => rfl)
    (case kn => (with_unfolding_all exact lN))
    (case kk => kst_all)
    · clear lF lN
      intro _ pre post v t u8 h8 tk8 own _ _ hoff8 _ _ F8 N8
      dsimp only at F8 N8
      have hqm := rowOf_mem v (p + 1)
      obtain ⟨hqP, hqL⟩ := hplW _ hqm
      have hpair := pair_of hlevO hqm
      have hqc := List.all_eq_true.mp hcom _ hqm
      simp only [decide_eq_true_eq] at hqc
      k_steps
      refine Hold.mk ?_
      k_here
      k_dflt (refine' use_gives (row_gives w mean mg mb v _ (p + 1) _ (by have : p ≤ 4 := hp4; omega)) ?k1 ?k2 ?k3 ?k4 ?k5 rfl trivial ?k7 ?k8 ?_)
      (case k1 => k_asm)
      (case k2 => k_asm)
      (case k3 => k_asm)
      (case k4 => k_asm)
      (case k5 => k_asm)
      (case k7 => ktr_room)
      (case k8 => ktr_units)
      intro t7 h7 tk7 F7 N7
      generalize rowOf v (p + 1) = q at hqm hqP hqL hpair hqc F7 N7 ⊢
      have hr8 : row.length ≤ 8 := by have : p ≤ 4 := hp4; omega
      have hq10 : q.length ≤ 10 := by have : p ≤ 4 := hp4; omega
      (try dsimp only [qk])
      (try k_fold)
      k_steps
      refine Hold.mk ?_
      k_here
      have hL1 : (row ++ [122, 121]).length = row.length + 2 := by simp
      have hL2 : (q ++ [90, 120]).length = q.length + 2 := by simp
      have hab : (row ++ [122, 121]).drop (comL (row ++ [122, 121]) (q ++ [90, 120])) ≠ [] := by
        intro e
        have := congrArg List.length e
        rw [List.length_drop, hL1] at this
        simp only [List.length_nil] at this
        omega
      k_dflt (refine' use_gives (levx_gives w mean mg mb (row ++ [122, 121]) (q ++ [90, 120]) _ _ _ (by omega) (by omega) (fun e => by have := congrArg List.length e; omega) hab (plain6z hrowP) (plain6x hqP) (by simp) (by simp)) ?k1 ?k2 ?k3 ?k4 ?k5 rfl trivial ?k7 ?k8 ?_)
      (case k1 => k_asm)
      (case k2 => k_asm)
      (case k3 => k_asm)
      (case k4 => k_asm)
      (case k5 => k_asm)
      (case k7 => ktr_room)
      (case k8 => ktr_units)
      intro t6 h6 tk6 F6 N6
      replace hpair : decide (levAB ((row ++ [122, 121]).drop (comL (row ++ [122, 121]) (q ++ [90, 120]))) ((q ++ [90, 120]).drop (comL (row ++ [122, 121]) (q ++ [90, 120]))) = 7) = decide ((grown row)[bisL (grown row) q]? = some q) := hpair
      generalize levAB ((row ++ [122, 121]).drop (comL (row ++ [122, 121]) (q ++ [90, 120]))) ((q ++ [90, 120]).drop (comL (row ++ [122, 121]) (q ++ [90, 120]))) = lev at hpair ⊢
      (try dsimp only [qk])
      (try k_fold)
      k_steps
      refine Hold.mk ?_
      k_here
      k_dflt (refine' use_gives (found_gives w mean mg mb lG xs nG q _ (by omega) hokG (plainOk hqP (by omega))) ?k1 ?k2 ?k3 ?k4 ?k5 rfl ?k6 ?k7 ?k8 ?_)
      (case k1 => k_asm)
      (case k2 => k_asm)
      (case k3 => k_asm)
      (case k4 => k_asm)
      (case k5 => k_asm)
      (case k6 => k_mem)
      (case k7 => ktr_room)
      (case k8 => ktr_units)
      intro t5 h5 tk5 F5 N5
      rw [ex, ← hpair]
      (try dsimp only [qk])
      (try k_fold)
      have hbb : (lev == 7) = decide (lev = 7) := by
        by_cases h : lev = 7
        · subst h; rfl
        · rw [decide_eq_false h]; exact beq_eq_false_iff_ne.mpr h
      rw [hbb]
      generalize decide (lev = 7) = bb at *
      cases bb
      · k_steps
        refine Hold.mk ?_
        rename News _ _ _ _ => nE
        exact kst_end () (by assumption) nE (by first | kst_in | kst_inAny) (by first | (intro p hp; kst_mem) | kst_anyIn) (by rfl) trivial (by kst_all) (by intro z h1 h2 h3; simp only [List.contains_cons, List.contains_nil, Bool.or_false, beq_eq_false_iff_ne, ne_eq] at h3; simp [kstB, h1, h3]) trivial
      · k_steps
        refine Hold.mk ?_
        rename News _ _ _ _ => nE
        exact kst_end () (by assumption) nE (by first | kst_in | kst_inAny) (by first | (intro p hp; kst_mem) | kst_anyIn) (by rfl) trivial (by kst_all) (by intro z h1 h2 h3; simp only [List.contains_cons, List.contains_nil, Bool.or_false, beq_eq_false_iff_ne, ne_eq] at h3; simp [kstB, h1, h3]) trivial
    · intro _ u8 h8 tk8 _ _ F8 N8
      dsimp only at F8 N8
      (try k_fold)
      k_steps
      refine Hold.mk ?_
      exact ⟨rfl, _, by assumption, fun p hp => (nomatch hp), hb0, hos0⟩
  clear Z0
  rintro s ⟨m0, F0, N0, hb0, hos0⟩
  k_fold
  k_steps
  dsimp only [qk]
  refine gwg_bool F0 hb0 hos0 (raisesW_false ?_) ?_
  · wrow_none_raised
  · kc_post)
end

end Mine
theorem PySem.Challenge.cw_rw0075_01_holds : PySem.Challenge.rw_rw0075_01.Holds :=
  Mine.law_holds
