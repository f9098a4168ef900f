import PyProof.Rows.All
import Wide.All
import OpenK.AllK
import Wide.FinOn
import PySem.Challenge.RW_re0092_01
/-! part HeadOnly -/
open PySem PySem.W PyProof.Rows
set_option Elab.async false
set_option maxRecDepth 100000
set_option maxHeartbeats 8000000
namespace Mine
open_top hd for PySem.Challenge.rw_re0092_01
end Mine

/-! part Base1 -/
open PySem PySem.W PyProof.Rows PySem.Spec PySem.Calls
set_option Elab.async false
set_option maxRecDepth 100000
set_option maxHeartbeats 8000000
namespace Mine
theorem reset_Base1 : True := by
  w_top off
  trivial

noncomputable abbrev LS : List Str := (looseW hd.view_39
            [Str.ofString "insort_right", Str.ofString "bisect_right", Str.ofString "insort_left",
              Str.ofString "bisect_left"] ++
          List.map (fun x => x.name) (recsOf hd.view_39) ++
        List.map (fun x => x.fst) (litsOf hd.view_39) ++
      List.map (fun x => x.name)
        (clssOf hd.view_39
          (looseW hd.view_39
            [Str.ofString "insort_right", Str.ofString "bisect_right", Str.ofString "insort_left",
              Str.ofString "bisect_left"])))

noncomputable abbrev tup2 (a b : Value) : Obj := { cls := .type "tuple", data := .seq #[a, b] }
noncomputable abbrev tup3 (a b c : Value) : Obj := { cls := .type "tuple", data := .seq #[a, b, c] }
abbrev Led := List (Addr × Obj)

/-- a contract: the call, in every frame; `n` frames deep -/
noncomputable abbrev Cl (w : World) (n : Nat) (f : Addr) (vs : List Value) (kw : List (Str × Value)) (news : Led)
    (Ret : Heap → Addr → (Str → Option Value) → Shared → (Value → Shared → Prop) → Prop) : Prop :=
  ∀ (mean : ExcName → Option Value) (mg mb : Str → Option Value) (dp un : Nat) (gd : Option (List Code)) (cn : Str) (cs : Scope) (a : Addr) (ccd : Value) (cl : List (Str × Addr)) (outer : List Env) (A₀ : Around) (base h₀ : Heap) (L : Addr) (m : Str → Option Value) (s : Shared) (Q E : Value → Shared → Prop),
    Below A₀ base outer h₀ → Fr h₀ L s.heap m → (hd.heap_39 w.params).In h₀ → News h₀ L s.heap news → Top topProg LS mean mg mb h₀ → cs.kind = .function →
    dp + n < recursionLimit → un + 8 * n < cLine → Ret h₀ L m s Q →
      wpAny (model PySem.Challenge.rw_re0092_01.row.prog w) (ktrTop dp un gd cn cs L a ccd cl outer) (call (.ref f) vs kw) Q E s

theorem Cl.use {w : World} {n : Nat} {f : Addr} {vs : List Value} {kw : List (Str × Value)} {news : Led} {Ret : Heap → Addr → (Str → Option Value) → Shared → (Value → Shared → Prop) → Prop} (C : Cl w n f vs kw news Ret)
    {mean : ExcName → Option Value} {mg mb : Str → Option Value} {dp un : Nat} {gd : Option (List Code)} {cn : Str} {cs : Scope} {a : Addr} {ccd : Value} {cl : List (Str × Addr)} {outer : List Env} {A₀ : Around} {base h₀ : Heap} {L : Addr} {m : Str → Option Value} {s : Shared} {Q E : Value → Shared → Prop}
    (B : Below A₀ base outer h₀) (F : Fr h₀ L s.heap m) (X : (hd.heap_39 w.params).In h₀) (N : News h₀ L s.heap news) (T : Top topProg LS mean mg mb h₀) (hk : cs.kind = .function)
    (hd : dp + n < recursionLimit) (hu : un + 8 * n < cLine) (R : Ret h₀ L m s Q) :
      wpAny (model PySem.Challenge.rw_re0092_01.row.prog w) (ktrTop dp un gd cn cs L a ccd cl outer) (call (.ref f) vs kw) Q E s :=
  C mean mg mb dp un gd cn cs a ccd cl outer A₀ base h₀ L m s Q E B F X N T hk hd hu R

/-- names for the frame, the ledger and what is to come: a term that stands under many binders is then one variable -/
theorem foldK {M : Model} {α : Type} {t : Sem α} {A : Around} {Q : α → Shared → Prop} {E : Value → Shared → Prop} {h₀ h : Heap} {L : Addr} {m : Str → Option Value} {news : Led} {g d k os} (F : Fr h₀ L h m)
    (N : News h₀ L h news) (r : let m1 := m; let n1 := news; Fr h₀ L h m1 → News h₀ L h n1 → wpAny M A t Q E (Shared.mk h g d k os)) : wpAny M A t Q E (Shared.mk h g d k os) := r F N
theorem lt_lit {n k : Nat} {c : Int} (h : n ≤ k) (hc : (k : Int) < c) : (n : Int) < c := Int.lt_of_le_of_lt (Int.ofNat_le.mpr h) hc
theorem le_lit {n k : Nat} {c : Int} (h : n ≤ k) (hc : (k : Int) ≤ c) : (n : Int) ≤ c := Int.le_trans (Int.ofNat_le.mpr h) hc
theorem lt_lit0 {n k : Nat} {c : Int} (h : n ≤ k) (hc : (k : Int) < c) : 0 + (n : Int) < c := by rw [Int.zero_add]; exact lt_lit h hc
theorem nn0 {n : Nat} : 0 ≤ 0 + (n : Int) := by rw [Int.zero_add]; exact Int.natCast_nonneg n
theorem le_flip {n m k : Nat} (h : m ≤ k) (h' : n ≤ m) : n ≤ k := Nat.le_trans h' h
theorem room3 {d n a b c : Nat} (h : d + n < c) (hk : a + b ≤ n) : d + a + b < c := Nat.lt_of_le_of_lt (by rw [Nat.add_assoc]; exact Nat.add_le_add_left hk d) h
theorem room1 {d n c : Nat} (h : d + n < c) : d < c := Nat.lt_of_le_of_lt (Nat.le_add_right d n) h
theorem foldE {M : Model} {A : Around} {env : Env} {body : List Stmt} {Q : Flow → Shared → Prop} {E : Value → Shared → Prop} {s : Shared} (r : let e1 := env; let A1 := A.deeper e1; wpAny M A1 (execs body e1) Q E s) : wpAny M (A.deeper env) (execs body env) Q E s := r
theorem foldM {M : Model} {α : Type} {t : Sem α} {A : Around} {Q : α → Shared → Prop} {E : Value → Shared → Prop} {h₀ h : Heap} {L : Addr} {m : Str → Option Value} {g d k os} (F : Fr h₀ L h m)
    (r : let m1 := m; Fr h₀ L h m1 → wpAny M A t Q E (Shared.mk h g d k os)) : wpAny M A t Q E (Shared.mk h g d k os) := r F
theorem foldT {M : Model} {α : Type} {t : Sem α} {A : Around} {Q : α → Shared → Prop} {E : Value → Shared → Prop} {h : Heap} {g d k os} (r : let k1 := k; wpAny M A t Q E (Shared.mk h g d k1 os)) : wpAny M A t Q E (Shared.mk h g d k os) := r
theorem foldQ {M : Model} {α : Type} {t : Sem α} {A : Around} {Q : α → Shared → Prop} {E : Value → Shared → Prop} {s : Shared} (r : let q := Q; wpAny M A t q E s) : wpAny M A t Q E s := r

/-- gives a plain value back, the ledger stays -/
abbrev Gives (news : Led) (R : Tok → Value) (h₀ : Heap) (L : Addr) (m : Str → Option Value) (s : Shared) (Q : Value → Shared → Prop) : Prop :=
  ∀ (t : Tok) (h' : Heap) (tk' : Nat), Fr h₀ L h' m → News h₀ L h' news → Q (R t) { s with heap := h', toks := tk' }

theorem c_strcoll (w : World) (x y : Str) (ta tb : Tok) (news : Led) : Cl w 1 71 [.str x ta, .str y tb] [] news
    (Gives news fun t => .int (b2i (decide (y.cps.toList < x.cps.toList)) - b2i (decide (x.cps.toList < y.cps.toList))) t) := by
  unfold Cl
  k_fill
  intro mean mg mb dp un gd cn cs a ccd cl outer A₀ base h₀ L m s Q E B F X N T hk hd hu hret
  refine wpAny_call ?_
  k_dflt cell_enter
  k_steps
  all_goals exact hret _ _ _ (by assumption) (by assumption)

theorem c_strxfrm (w : World) (x : Value) (news : Led) : Cl w 1 78 [x] [] news (Gives news fun _ => x) := by
  unfold Cl
  k_fill
  intro mean mg mb dp un gd cn cs a ccd cl outer A₀ base h₀ L m s Q E B F X N T hk hd hu hret
  refine wpAny_call ?_
  k_dflt cell_enter
  k_steps
  all_goals exact hret 0 _ _ (by assumption) (by assumption)

theorem c_first (w : World) (l : Addr) (x y : Value) (news : Led) (hpre : (l, tup2 x y) ∈ news) : Cl w 1 92 [.ref l] [] news (Gives news fun _ => x) := by
  unfold Cl
  k_fill
  intro mean mg mb dp un gd cn cs a ccd cl outer A₀ base h₀ L m s Q E B F X N T hk hd hu hret
  refine wpAny_call ?_
  k_dflt cell_enter
  k_steps
  all_goals exact hret 0 _ _ (by assumption) (by assumption)
end Mine

/-! part Bis -/
open PySem PySem.W PyProof.Rows PySem.Spec PySem.Calls
set_option Elab.async false
set_option maxRecDepth 100000
set_option maxHeartbeats 4000000
namespace Mine
theorem reset_Bis : True := by
  w_top off
  trivial
local macro_rules | `(tactic| news_mem) => `(tactic| assumption)

section
variable {prog : Program} {w : World} {A : Around} {E : Value → Shared → Prop} {Q : Flow → Shared → Prop} {s : Shared} {env : Env} {h₀ : Heap} {L : Addr}

theorem my_len {l : Addr} {vs : List Value} {Q : Value → Shared → Prop} (hl : s.heap.IsList l vs.toArray) (hfit : vs.length ≤ 1000)
    (h : Q (.int vs.length (s.toks + 1)) { s with toks := s.toks + 1 + 1 }) : wpAny (model prog w) A (call (.builtin "len") [.ref l]) Q E s :=
  len_list hl (by simp; omega) (by simpa using h)

noncomputable abbrev fLt (x y : UInt64) : Bool := Float64.cmp x y == some Ordering.lt
noncomputable abbrev sLt (x y : Str) : Bool := decide (x.cps.toList < y.cps.toList)
/-- every object of the ledger is older -/
def Under (d : Addr) (news : Led) : Prop := ∀ p ∈ news, p.1 < d
theorem Under.ne {d : Addr} {news : Led} (h : Under d news) {c : Addr} (hc : @LE.le Nat _ d c) : ∀ p ∈ news, p.1 ≠ c := fun p hp e => by
  have h1 : p.1 < d := h p hp
  rw [e] at h1
  exact absurd (Nat.lt_of_lt_of_le h1 hc) (Nat.lt_irrefl _)
/-- the ledger with one object changed -/
noncomputable def ledSet (news : Led) (D : Addr) (o : Obj) : Led := (D, o) :: news.filter fun p => decide (p.1 ≠ D)
theorem ledSet_at {news : Led} {D : Addr} {o : Obj} : (D, o) ∈ ledSet news D o := .head _
theorem ledSet_ne {news : Led} {D : Addr} {o : Obj} {p : Addr × Obj} (h : p ∈ news) (hn : p.1 ≠ D) : p ∈ ledSet news D o := .tail _ (List.mem_filter.mpr ⟨h, by simpa using hn⟩)
theorem ledSet_up {h₀ h : Heap} {L D : Addr} {news : Led} {o : Obj} (N : News h₀ L h news) (hm : (D, o) ∈ news) : News h₀ L h ((D, o) :: news.filter fun p => decide (p.1 ≠ D)) := by
  intro p hp
  rcases List.mem_cons.mp hp with rfl | hp
  · exact N _ hm
  · exact N _ (List.mem_filter.mp hp).1
theorem ledSet_upd {D : Addr} {o o' : Obj} {news : Led} : Upd D o o' ((D, o) :: news.filter fun p => decide (p.1 ≠ D)) (ledSet news D o') :=
  .head fun p hp => by simpa using (List.mem_filter.mp hp).2

theorem my_insert {D : Addr} {m : Str → Option Value} {news : Led} {li : List Value} {n r : Nat} {u : Tok} {y : Value} {Q : Value → Shared → Prop} (F : Fr h₀ L s.heap m) (N : News h₀ L s.heap news) (hm : (D, listOf li.toArray n) ∈ news)
    (hr : r ≤ li.length) (hz : li.length ≤ 1000)
    (h : ∀ h', Fr h₀ L h' m → News h₀ L h' (ledSet news D (listOf (li.take r ++ y :: li.drop r).toArray (n + 1))) → Q .none { s with heap := h' }) :
    wpAny (model prog w) A (call (.builtin "list.insert") [.ref D, .int r u, y]) Q E s := by
  refine kl_insert F (ledSet_up N hm) ?_ ?_ ledSet_upd ?_ h
  · unfold Builtin.List.listFitsIndex; simp; omega
  · unfold kl_ins
    rw [if_neg (by omega)]
    simp only [Int.toNat_natCast, Nat.min_eq_left hr]
  · simp only [sizeLine]; omega

def BisStep (h₀ : Heap) (L : Addr) (s : Shared) (m₀ : Str → Option Value) (news : Led) (I : Nat → Nat → Prop) (n : Nat) (f : Flow) (s₃ : Shared) : Prop :=
  f = .next ∧ ∃ h' tk m₂ lo hi tl th, s₃ = { s with heap := h', toks := tk } ∧ Fr h₀ L h' m₂ ∧ News h₀ L h' news ∧
    (∀ y, y ≠ Str.ofString "mid" → y ≠ Str.ofString "hi" → y ≠ Str.ofString "lo" → m₂ y = m₀ y) ∧
    m₂ (Str.ofString "lo") = some (.int (lo : Nat) tl) ∧ m₂ (Str.ofString "hi") = some (.int (hi : Nat) th) ∧ I lo hi ∧ hi - lo < n

theorem While_bis {test : Expr} {body : List Stmt} {pos : Pos} {m₀ : Str → Option Value} {news : Led} (I : Nat → Nat → Prop) {lo₀ hi₀ : Nat} {tl₀ th₀ : Tok}
    (F : Fr h₀ L s.heap m₀) (N : News h₀ L s.heap news) (hlo : m₀ (Str.ofString "lo") = some (.int lo₀ tl₀)) (hhi : m₀ (Str.ofString "hi") = some (.int hi₀ th₀)) (hI : I lo₀ hi₀)
    (turn : ∀ (lo hi : Nat) tl th md h₁ tk₁, Fr h₀ L h₁ (fun y => if y = Str.ofString "mid" then md else if y = Str.ofString "hi" then some (.int hi th) else if y = Str.ofString "lo" then some (.int lo tl) else m₀ y) → News h₀ L h₁ news → I lo hi →
      wpAny (model prog w) A (isTrue test env (eval test env)) (fun b s₂ =>
        if b = true then wpAny (model prog w) A (execs body env) (BisStep h₀ L s m₀ news I (hi - lo)) E s₂ else Q .next s₂) E { s with heap := h₁, toks := tk₁ })
    (hE : PassesOwn (model prog w) A env E := by passes_own) :
    wpAny (model prog w) A (exec (.While test body [] pos) env) Q E s := by
  refine While_inv (fun n m₁ nw => ∃ (lo hi : Nat) (tl th : Tok) (md : Option Value), n = hi - lo ∧ I lo hi ∧ nw = news ∧ m₁ = fun y => if y = Str.ofString "mid" then md else if y = Str.ofString "hi" then some (.int hi th) else if y = Str.ofString "lo" then some (.int lo tl) else m₀ y)
    (n₀ := hi₀ - lo₀) F N ⟨lo₀, hi₀, tl₀, th₀, m₀ (Str.ofString "mid"), rfl, hI, rfl, ?_⟩ ?_ hE
  · funext y
    by_cases h1 : y = Str.ofString "mid"
    · simp [h1]
    · by_cases h2 : y = Str.ofString "hi"
      · simp only [h2]; rw [hhi]; rfl
      · by_cases h3 : y = Str.ofString "lo"
        · simp only [h3]; rw [hlo]; rfl
        · simp only [if_neg h1, if_neg h2, if_neg h3]
  · rintro n m₁ nw h₁ tk₁ F₁ N₁ ⟨lo, hi, tl, th, md, rfl, hI', rfl, rfl⟩
    refine wpAny_mono (turn lo hi tl th md h₁ tk₁ F₁ N₁ hI') (fun b s₂ h₂ => ?_) fun _ _ e => e
    cases b with
    | false => exact h₂
    | true =>
      simp only [if_true] at h₂ ⊢
      refine wpAny_mono h₂ (fun f s₃ h₃ => ?_) fun _ _ e => e
      obtain ⟨rfl, h', tk, m₂, lo', hi', tl', th', rfl, F₂, N₂, hm, hl2, hh2, hI2, hn⟩ := h₃
      refine ⟨rfl, h', tk, m₂, nw, hi' - lo', rfl, F₂, N₂, hn, lo', hi', tl', th', m₂ (Str.ofString "mid"), rfl, hI2, rfl, ?_⟩
      funext y
      by_cases h1 : y = Str.ofString "mid"
      · simp [h1]
      · by_cases h2 : y = Str.ofString "hi"
        · simp only [h2]; rw [hh2]; rfl
        · by_cases h3 : y = Str.ofString "lo"
          · simp only [h3]; rw [hl2]; rfl
          · simp only [if_neg h1, if_neg h2, if_neg h3]; exact hm y h1 h2 h3
end
end Mine

/-! part BisG -/
open PySem PySem.W PyProof.Rows PySem.Spec PySem.Calls
set_option Elab.async false
set_option maxRecDepth 100000
set_option maxHeartbeats 4000000

namespace Mine
theorem reset_BisG : True := by
  w_top off
  trivial
local macro_rules | `(tactic| news_mem) => `(tactic| assumption)
local macro_rules | `(tactic| k_mem) => `(tactic| assumption)
theorem words_BisG : True := by
  k_with_none
  k_with "fold" => ((with_reducible show wpAny _ _ (execs (_ :: _) _) _ _ _); (try k_gentoks); (refine foldK (by with_reducible assumption) (by with_reducible assumption) ?_); intro _ _ _ _; (with_reducible refine wpAny_execs_cons ?_); (try dsimp only); (refine foldQ ?_); intro _)
  k_with "om" => (first | (with_reducible first | assumption | exact Int.natCast_nonneg _ | exact Nat.le_trans (by assumption) (by decide) | exact Nat.lt_of_le_of_lt (by assumption) (by decide) | exact lt_lit (by assumption) (by decide) | exact le_lit (by assumption) (by decide) | exact le_flip (by assumption) (by decide) | exact lt_lit0 (by assumption) (by decide) | exact nn0) | decide | omega)
  k_with "u1" => ((with_reducible show wpAny _ _ (call (Value.builtin "len") [Value.ref _]) _ _ _); refine my_len (by is_list) (by k_extra "om") ?_)
  k_with "u2" => ((with_reducible show wpAny _ _ (binaryOp Operator.FloorDiv (Value.int (_ + _) _) (Value.int 2 _)) _ _ _); refine my_mid ?_; dsimp only)
  k_with "u3" => ((with_reducible show wpAny _ _ (call (Value.ref 92) [Value.ref _] []) _ _ _); k_dflt (refine' Cl.use (c_first _ _ _ _ _ ?p1) ?k1 ?k2 ?k3 ?k4 ?k5 ?k6 ?k7 ?k8 ?_; (case p1 => assumption); (case k1 => k_asm); (case k2 => k_asm); (case k3 => k_asm); (case k4 => k_asm); (case k5 => k_asm); (case k6 => first | exact rfl | assumption); (case k7 => ktr_room); (case k8 => ktr_units); k_whole); intro _ _ _ _ _; (try dsimp only); (try k_fold))
  k_with "u4" => ((with_reducible show wpAny _ _ (call (Value.ref 78) [_] []) _ _ _); k_dflt (refine' Cl.use (c_strxfrm _ _ _) ?k1 ?k2 ?k3 ?k4 ?k5 ?k6 ?k7 ?k8 ?_;  (case k1 => k_asm); (case k2 => k_asm); (case k3 => k_asm); (case k4 => k_asm); (case k5 => k_asm); (case k6 => first | exact rfl | assumption); (case k7 => ktr_room); (case k8 => ktr_units); k_whole); intro _ _ _ _ _; (try dsimp only); (try k_fold))
  trivial
/-- the search's invariant -/
structure BI (gt : Nat → Bool) (n lo hi : Nat) : Prop where
  le : lo ≤ hi
  hn : hi ≤ n
  a : ∀ i, i < lo → gt i = false
  b : ∀ i, hi ≤ i → i < n → gt i = true
theorem BI.start {gt : Nat → Bool} {n : Nat} : BI gt n 0 n := ⟨Nat.zero_le _, Nat.le_refl _, fun _ h => absurd h (Nat.not_lt_zero _), fun _ h1 h2 => absurd h2 (Nat.not_lt.mpr h1)⟩
theorem mid_lt {lo hi : Nat} (h : lo < hi) : (lo + hi) / 2 < hi := Nat.div_lt_of_lt_mul (by rw [Nat.two_mul]; exact Nat.add_lt_add_right h hi)
theorem le_mid {lo hi : Nat} (h : lo < hi) : lo ≤ (lo + hi) / 2 := (Nat.le_div_iff_mul_le Nat.two_pos).mpr (by rw [Nat.mul_two]; exact Nat.add_le_add_left (Nat.le_of_lt h) lo)
theorem BI.up {gt : Nat → Bool} {n lo hi mid : Nat} (h : BI gt n lo hi) (hl : lo < hi) (hq : (lo + hi) / 2 = mid) (hm : ∀ i j, i ≤ j → j < n → gt i = true → gt j = true) (hg : gt mid = true) : BI gt n lo mid ∧ mid - lo < hi - lo := by
  subst hq
  exact ⟨⟨le_mid hl, Nat.le_trans (Nat.le_of_lt (mid_lt hl)) h.hn, h.a, fun i h1 h2 => hm _ i h1 h2 hg⟩, Nat.sub_lt_sub_right (le_mid hl) (mid_lt hl)⟩
theorem BI.dn {gt : Nat → Bool} {n lo hi mid : Nat} (h : BI gt n lo hi) (hl : lo < hi) (hq : (lo + hi) / 2 = mid) (hm : ∀ i j, i ≤ j → j < n → gt i = true → gt j = true) (hg : gt mid = false) : BI gt n (mid + 1) hi ∧ hi - (mid + 1) < hi - lo := by
  subst hq
  refine ⟨⟨mid_lt hl, h.hn, fun i h1 => ?_, h.b⟩, Nat.sub_lt_sub_left hl (Nat.lt_succ_of_le (le_mid hl))⟩
  cases hf : gt i with
  | false => rfl
  | true => exact absurd (hm i _ (Nat.le_of_lt_succ h1) (Nat.lt_of_lt_of_le (mid_lt hl) h.hn) hf) (by rw [hg]; exact Bool.noConfusion)
theorem my_mid {prog : Program} {w : World} {A : Around} {E : Value → Shared → Prop} {s : Shared} {Q : Value → Shared → Prop} {lo hi : Nat} {t u : Tok} (h : Q (.int ((((lo + hi) / 2 : Nat)) : Int) s.toks) { s with toks := s.toks + 1 }) :
    wpAny (model prog w) A (binaryOp .FloorDiv (.int ((lo : Int) + (hi : Int)) t) (.int 2 u)) Q E s := by
  refine PyProof.Rows.floordiv_int (by decide) ?_
  rw [show Int.fdiv ((lo : Int) + hi) 2 = (((lo + hi) / 2 : Nat) : Int) by rw [Int.fdiv_eq_ediv_of_nonneg _ (by decide)]; rfl]
  exact h
noncomputable def fdOf : Option Obj → FuncData
  | some ⟨_, _, .func fd, _⟩ => fd
  | _ => default
noncomputable def fdAt (w : World) (a : Addr) : FuncData := fdOf ((hd.heap_39 w.params).lookup a)
theorem lookE {w : World} {a : Addr} {oc : Value} {od : Option Addr} {fd : FuncData} {sl : Array (Option Value)} {s : Shared} {args : Args} {binds : List (Str × Value)} (e : (hd.heap_39 w.params).lookup a = some ⟨oc, od, .func fd, sl⟩) (h : BindsTo s fd args binds) : BindsTo s (fdAt w a) args binds := by
  unfold fdAt; rw [e]; exact h
theorem Cl.mono {w : World} {n : Nat} {f : Addr} {vs : List Value} {kw : List (Str × Value)} {news : Led} {Ret Ret' : Heap → Addr → (Str → Option Value) → Shared → (Value → Shared → Prop) → Prop} (C : Cl w n f vs kw news Ret) (h : ∀ h₀ L m s Q, Ret' h₀ L m s Q → Ret h₀ L m s Q) : Cl w n f vs kw news Ret' :=
  fun mean mg mb dp un gd cn cs a ccd cl outer A₀ base h₀ L m s Q E B F X N T hk hd hu R => C mean mg mb dp un gd cn cs a ccd cl outer A₀ base h₀ L m s Q E B F X N T hk hd hu (h _ _ _ _ _ R)
abbrev BisRet (gt : Nat → Bool) (vs : List Value) (news : Led) (h₀ : Heap) (L : Addr) (m : Str → Option Value) (s : Shared) (Q : Value → Shared → Prop) : Prop := ∀ r : Nat, r ≤ vs.length → (∀ i, i < r → gt i = false) → (∀ i, r ≤ i → i < vs.length → gt i = true) → Gives news (fun t => .int r t) h₀ L m s Q

theorem c_bis_r (w : World) (nk n : Nat) (hnk : nk + 1 ≤ n) (args : List Value) (kw : List (Str × Value)) (l : Addr) (nn : Nat) (vs : List Value) (kf : Addr) (xv : Value) (t0 : Tok) (gt : Nat → Bool) (news : Led)
    (hb : ∀ s : Shared, (hd.heap_39 w.params).In s.heap → BindsTo s (fdAt w 46) ⟨args, kw⟩ [(Str.ofString "a", .ref l), (Str.ofString "x", xv), (Str.ofString "lo", .int 0 t0), (Str.ofString "hi", .none), (Str.ofString "key", .ref kf)])
    (hl : (l, listOf vs.toArray nn) ∈ news) (hlen : vs.length ≤ 100)
    (hfn : ∀ h₀ L h, (hd.heap_39 w.params).In h → News h₀ L h news → FnAt kf h)
    (hkey : ∀ (i : Nat) (v : Value), vs[i]? = some v → ∃ K : Tok → Value, Cl w nk kf [v] [] news (Gives news K) ∧
      ∀ (t : Tok) (A : Around) (E : Value → Shared → Prop) (s : Shared) (Q : Value → Shared → Prop), Q (.bool (gt i)) s → wpAny (model PySem.Challenge.rw_re0092_01.row.prog w) A (compareOp .Lt xv (K t)) Q E s)
    (hmono : ∀ i j, i ≤ j → j < vs.length → gt i = true → gt j = true) :
    Cl w n 46 args kw news (BisRet gt vs news) := by
  unfold Cl
  k_fill
  intro mean mg mb dp un gd cn cs a ccd cl outer A₀ base h₀ L m s Q E B F X N T hk hd hu hret
  refine wpAny_call ?_
  k_dflt (refine' code_def ?k1 ?k2 ?k3 ?k4 ?k5 ?kA ?kF ?kK ?k6 ?k7 ?k8 ?k9 ?kB ?_ ?c2 ?c3 ?c4 ?c5; (case kA => exact rfl); (case kF => exact rfl); (case kK => assumption); (case k1 => k_asm); (case k2 => k_asm); (case k3 => k_asm); (case k4 => k_asm); (case k5 => k_asm); (case k6 => k_is); (case k7 => k_is); (case k8 => ktr_room); (case k9 => exact hb _ (by k_in)); (case c5 => decide); (case kB => exact locs rfl); (case c2 => exact rfl); (case c3 => exact rfl); (case c4 => exact rfl); k_whole; intro g' L' h' FG' F' N' B' X' T'; (try dsimp only); (try k_lift B'); (try k_fold))
  refine foldE ?_
  intro _ _
  repeat' ((fail_if_success (with_reducible show wpAny _ _ (exec (Stmt.While _ _ _ _) _) _ _ _)); first | (k_unfold; (try dsimp only)) | (k_end; wrow_close) | k_extra "fold" | k_extra "u2" | k_extra "u1" | walk1 | (dsimp only; (first | k_extra "fold" | k_extra "u2" | k_extra "u1" | walk1)) | (leave1; walk_say "STEP leave1"; try dsimp only) | fail "no step")
  refine While_bis (BI gt vs.length) (lo₀ := 0) (hi₀ := vs.length) (by assumption) (by assumption) (by exact rfl) (by exact rfl) BI.start ?turn ?pass
  case pass => passes_own
  case turn =>
    rintro lo hi tl th md h₁ tk₁ F₁ N₁ hI
    repeat' ((fail_if_success (with_reducible show wpAny _ _ (callWith _ (Value.ref kf) _ _ _) _ _ _)); first | (k_unfold; (try dsimp only)) | (k_end; wrow_close) | k_extra "fold" | k_extra "u2" | k_extra "u1" | walk1 | (dsimp only; (first | k_extra "fold" | k_extra "u2" | k_extra "u1" | walk1)) | (leave1; walk_say "STEP leave1"; try dsimp only) | fail "no step")
    · have hlt : lo < hi := Int.ofNat_lt.mp (by assumption)
      refine callWith_F (hfn _ _ _ (by k_in) (by k_asm)) ?_
      repeat' ((fail_if_success (with_reducible show wpAny _ _ (subscriptTail _ _ _ _) _ _ _)); first | (k_unfold; (try dsimp only)) | (k_end; wrow_close) | k_extra "fold" | k_extra "u2" | k_extra "u1" | walk1 | (dsimp only; (first | k_extra "fold" | k_extra "u2" | k_extra "u1" | walk1)) | (leave1; walk_say "STEP leave1"; try dsimp only) | fail "no step")
      obtain ⟨mid, hmq⟩ : ∃ mid, (lo + hi) / 2 = mid := ⟨_, rfl⟩
      have hml : mid < vs.length := hmq ▸ Nat.lt_of_lt_of_le (mid_lt hlt) hI.hn
      obtain ⟨v, hv⟩ : ∃ v, vs[mid]? = some v := ⟨_, List.getElem?_eq_getElem hml⟩
      refine item_listL (News.isList (by assumption) hl) (Int.natCast_nonneg _) (by rw [hmq]; exact lt_lit (Nat.le_trans (Nat.le_of_lt hml) hlen) (by decide)) (x := v) (by rw [Int.toNat_natCast, hmq]; exact hv) ?_
      obtain ⟨K, hK, hC⟩ := hkey mid v hv
      repeat' ((fail_if_success (with_reducible show wpAny _ _ (call (Value.ref kf) _ _) _ _ _)); first | (k_unfold; (try dsimp only)) | (k_end; wrow_close) | k_extra "fold" | k_extra "u2" | k_extra "u1" | walk1 | (dsimp only; (first | k_extra "fold" | k_extra "u2" | k_extra "u1" | walk1)) | (leave1; walk_say "STEP leave1"; try dsimp only) | fail "no step")
      · exact hfn _ _ _ (by k_in) (by k_asm)
      k_dflt (refine' Cl.use hK ?k1 ?k2 ?k3 ?k4 ?k5 ?k6 ?k7 ?k8 ?_; (case k1 => k_asm); (case k2 => k_asm); (case k3 => k_asm); (case k4 => k_asm); (case k5 => k_asm); (case k6 => exact rfl); (case k7 => ktr_room); (case k8 => ktr_units))
      intro t9 h9 tk9 F9 N9
      repeat' ((fail_if_success (with_reducible show wpAny _ _ (compareOp CmpOp.Lt _ _) _ _ _)); first | (k_unfold; (try dsimp only)) | (k_end; wrow_close) | k_extra "fold" | k_extra "u2" | k_extra "u1" | walk1 | (dsimp only; (first | k_extra "fold" | k_extra "u2" | k_extra "u1" | walk1)) | (leave1; walk_say "STEP leave1"; try dsimp only) | fail "no step")
      refine hC _ _ _ _ _ ?_
      cases hg : gt mid with
      | true =>
        repeat' (first | (k_unfold; (try dsimp only)) | (k_end; wrow_close) | k_extra "fold" | k_extra "u2" | k_extra "u1" | walk1 | (dsimp only; (first | k_extra "fold" | k_extra "u2" | k_extra "u1" | walk1)) | (leave1; walk_say "STEP leave1"; try dsimp only) | fail "no step")
        obtain ⟨j1, j2⟩ := hI.up hlt hmq hmono hg
        refine ⟨rfl, _, _, _, lo, (lo + hi) / 2, _, _, rfl, by assumption, by assumption, ?_, rfl, rfl, hmq ▸ j1, hmq ▸ j2⟩
        intro y h1 h2 h3
        dsimp +zetaDelta only
        simp only [if_neg h1, if_neg h2, if_neg h3]
      | false =>
        repeat' (first | (k_unfold; (try dsimp only)) | (k_end; wrow_close) | k_extra "fold" | k_extra "u2" | k_extra "u1" | walk1 | (dsimp only; (first | k_extra "fold" | k_extra "u2" | k_extra "u1" | walk1)) | (leave1; walk_say "STEP leave1"; try dsimp only) | fail "no step")
        obtain ⟨j1, j2⟩ := hI.dn hlt hmq hmono hg
        refine ⟨rfl, _, _, _, (lo + hi) / 2 + 1, hi, _, _, rfl, by assumption, by assumption, ?_, rfl, rfl, hmq ▸ j1, hmq ▸ j2⟩
        intro y h1 h2 h3
        dsimp +zetaDelta only
        simp only [if_neg h1, if_neg h2, if_neg h3]
    · exact hret lo (Nat.le_trans hI.le hI.hn) hI.a (fun i h1 h2 => hI.b i (Nat.le_trans (Int.ofNat_le.mp (Int.not_lt.mp (by assumption))) h1) h2) _ _ _ (by assumption) (by assumption)

theorem c_bis_l (w : World) (nk n : Nat) (hnk : nk + 1 ≤ n) (args : List Value) (kw : List (Str × Value)) (l : Addr) (nn : Nat) (vs : List Value) (kf : Addr) (xv : Value) (t0 : Tok) (gt : Nat → Bool) (news : Led)
    (hb : ∀ s : Shared, (hd.heap_39 w.params).In s.heap → BindsTo s (fdAt w 64) ⟨args, kw⟩ [(Str.ofString "a", .ref l), (Str.ofString "x", xv), (Str.ofString "lo", .int 0 t0), (Str.ofString "hi", .none), (Str.ofString "key", .ref kf)])
    (hl : (l, listOf vs.toArray nn) ∈ news) (hlen : vs.length ≤ 100)
    (hfn : ∀ h₀ L h, (hd.heap_39 w.params).In h → News h₀ L h news → FnAt kf h)
    (hkey : ∀ (i : Nat) (v : Value), vs[i]? = some v → ∃ K : Tok → Value, Cl w nk kf [v] [] news (Gives news K) ∧
      ∀ (t : Tok) (A : Around) (E : Value → Shared → Prop) (s : Shared) (Q : Value → Shared → Prop), Q (.bool (!gt i)) s → wpAny (model PySem.Challenge.rw_re0092_01.row.prog w) A (compareOp .Lt (K t) xv) Q E s)
    (hmono : ∀ i j, i ≤ j → j < vs.length → gt i = true → gt j = true) :
    Cl w n 64 args kw news (BisRet gt vs news) := by
  unfold Cl
  k_fill
  intro mean mg mb dp un gd cn cs a ccd cl outer A₀ base h₀ L m s Q E B F X N T hk hd hu hret
  refine wpAny_call ?_
  k_dflt (refine' code_def ?k1 ?k2 ?k3 ?k4 ?k5 ?kA ?kF ?kK ?k6 ?k7 ?k8 ?k9 ?kB ?_ ?c2 ?c3 ?c4 ?c5; (case kA => exact rfl); (case kF => exact rfl); (case kK => assumption); (case k1 => k_asm); (case k2 => k_asm); (case k3 => k_asm); (case k4 => k_asm); (case k5 => k_asm); (case k6 => k_is); (case k7 => k_is); (case k8 => ktr_room); (case k9 => exact hb _ (by k_in)); (case c5 => decide); (case kB => exact locs rfl); (case c2 => exact rfl); (case c3 => exact rfl); (case c4 => exact rfl); k_whole; intro g' L' h' FG' F' N' B' X' T'; (try dsimp only); (try k_lift B'); (try k_fold))
  refine foldE ?_
  intro _ _
  repeat' ((fail_if_success (with_reducible show wpAny _ _ (exec (Stmt.While _ _ _ _) _) _ _ _)); first | (k_unfold; (try dsimp only)) | (k_end; wrow_close) | k_extra "fold" | k_extra "u2" | k_extra "u1" | walk1 | (dsimp only; (first | k_extra "fold" | k_extra "u2" | k_extra "u1" | walk1)) | (leave1; walk_say "STEP leave1"; try dsimp only) | fail "no step")
  refine While_bis (BI gt vs.length) (lo₀ := 0) (hi₀ := vs.length) (by assumption) (by assumption) (by exact rfl) (by exact rfl) BI.start ?turn ?pass
  case pass => passes_own
  case turn =>
    rintro lo hi tl th md h₁ tk₁ F₁ N₁ hI
    repeat' ((fail_if_success (with_reducible show wpAny _ _ (callWith _ (Value.ref kf) _ _ _) _ _ _)); first | (k_unfold; (try dsimp only)) | (k_end; wrow_close) | k_extra "fold" | k_extra "u2" | k_extra "u1" | walk1 | (dsimp only; (first | k_extra "fold" | k_extra "u2" | k_extra "u1" | walk1)) | (leave1; walk_say "STEP leave1"; try dsimp only) | fail "no step")
    · have hlt : lo < hi := Int.ofNat_lt.mp (by assumption)
      refine callWith_F (hfn _ _ _ (by k_in) (by k_asm)) ?_
      repeat' ((fail_if_success (with_reducible show wpAny _ _ (subscriptTail _ _ _ _) _ _ _)); first | (k_unfold; (try dsimp only)) | (k_end; wrow_close) | k_extra "fold" | k_extra "u2" | k_extra "u1" | walk1 | (dsimp only; (first | k_extra "fold" | k_extra "u2" | k_extra "u1" | walk1)) | (leave1; walk_say "STEP leave1"; try dsimp only) | fail "no step")
      obtain ⟨mid, hmq⟩ : ∃ mid, (lo + hi) / 2 = mid := ⟨_, rfl⟩
      have hml : mid < vs.length := hmq ▸ Nat.lt_of_lt_of_le (mid_lt hlt) hI.hn
      obtain ⟨v, hv⟩ : ∃ v, vs[mid]? = some v := ⟨_, List.getElem?_eq_getElem hml⟩
      refine item_listL (News.isList (by assumption) hl) (Int.natCast_nonneg _) (by rw [hmq]; exact lt_lit (Nat.le_trans (Nat.le_of_lt hml) hlen) (by decide)) (x := v) (by rw [Int.toNat_natCast, hmq]; exact hv) ?_
      obtain ⟨K, hK, hC⟩ := hkey mid v hv
      repeat' ((fail_if_success (with_reducible show wpAny _ _ (call (Value.ref kf) _ _) _ _ _)); first | (k_unfold; (try dsimp only)) | (k_end; wrow_close) | k_extra "fold" | k_extra "u2" | k_extra "u1" | walk1 | (dsimp only; (first | k_extra "fold" | k_extra "u2" | k_extra "u1" | walk1)) | (leave1; walk_say "STEP leave1"; try dsimp only) | fail "no step")
      · exact hfn _ _ _ (by k_in) (by k_asm)
      k_dflt (refine' Cl.use hK ?k1 ?k2 ?k3 ?k4 ?k5 ?k6 ?k7 ?k8 ?_; (case k1 => k_asm); (case k2 => k_asm); (case k3 => k_asm); (case k4 => k_asm); (case k5 => k_asm); (case k6 => exact rfl); (case k7 => ktr_room); (case k8 => ktr_units))
      intro t9 h9 tk9 F9 N9
      repeat' ((fail_if_success (with_reducible show wpAny _ _ (compareOp CmpOp.Lt _ _) _ _ _)); first | (k_unfold; (try dsimp only)) | (k_end; wrow_close) | k_extra "fold" | k_extra "u2" | k_extra "u1" | walk1 | (dsimp only; (first | k_extra "fold" | k_extra "u2" | k_extra "u1" | walk1)) | (leave1; walk_say "STEP leave1"; try dsimp only) | fail "no step")
      refine hC _ _ _ _ _ ?_
      cases hg : gt mid with
      | true =>
        repeat' (first | (k_unfold; (try dsimp only)) | (k_end; wrow_close) | k_extra "fold" | k_extra "u2" | k_extra "u1" | walk1 | (dsimp only; (first | k_extra "fold" | k_extra "u2" | k_extra "u1" | walk1)) | (leave1; walk_say "STEP leave1"; try dsimp only) | fail "no step")
        obtain ⟨j1, j2⟩ := hI.up hlt hmq hmono hg
        refine ⟨rfl, _, _, _, lo, (lo + hi) / 2, _, _, rfl, by assumption, by assumption, ?_, rfl, rfl, hmq ▸ j1, hmq ▸ j2⟩
        intro y h1 h2 h3
        dsimp +zetaDelta only
        simp only [if_neg h1, if_neg h2, if_neg h3]
      | false =>
        repeat' (first | (k_unfold; (try dsimp only)) | (k_end; wrow_close) | k_extra "fold" | k_extra "u2" | k_extra "u1" | walk1 | (dsimp only; (first | k_extra "fold" | k_extra "u2" | k_extra "u1" | walk1)) | (leave1; walk_say "STEP leave1"; try dsimp only) | fail "no step")
        obtain ⟨j1, j2⟩ := hI.dn hlt hmq hmono hg
        refine ⟨rfl, _, _, _, (lo + hi) / 2 + 1, hi, _, _, rfl, by assumption, by assumption, ?_, rfl, rfl, hmq ▸ j1, hmq ▸ j2⟩
        intro y h1 h2 h3
        dsimp +zetaDelta only
        simp only [if_neg h1, if_neg h2, if_neg h3]
    · exact hret lo (Nat.le_trans hI.le hI.hn) hI.a (fun i h1 h2 => hI.b i (Nat.le_trans (Int.ofNat_le.mp (Int.not_lt.mp (by assumption))) h1) h2) _ _ _ (by assumption) (by assumption)

/-- the keys' answer, by the place -/
noncomputable def gI {α : Type} (ks : List α) (gt : α → Bool) (i : Nat) : Bool := match ks[i]? with
  | some k => gt k
  | none => true
theorem gI_some {α : Type} {ks : List α} {gt : α → Bool} {i : Nat} {k : α} (h : ks[i]? = some k) : gI ks gt i = gt k := by unfold gI; rw [h]
theorem gI_lt {α : Type} {ks : List α} {vs : List Value} (hlen : vs.length = ks.length) {i : Nat} (h : i < vs.length) : ∃ k, ks[i]? = some k := ⟨_, List.getElem?_eq_getElem (hlen ▸ h)⟩
abbrev KeyRet {α : Type} (ks : List α) (gt : α → Bool) (vs : List Value) (news : Led) (h₀ : Heap) (L : Addr) (m : Str → Option Value) (s : Shared) (Q : Value → Shared → Prop) : Prop := ∀ r : Nat, r ≤ vs.length →
      (∀ (i : Nat) (k : α), i < r → ks[i]? = some k → gt k = false) → (∀ (i : Nat) (k : α), r ≤ i → ks[i]? = some k → gt k = true) → Gives news (fun t => .int r t) h₀ L m s Q
theorem gI_ret {α : Type} {ks : List α} {gt : α → Bool} {vs : List Value} {news : Led} (hlen : vs.length = ks.length) (h₀ : Heap) (L : Addr) (m : Str → Option Value) (s : Shared) (Q : Value → Shared → Prop) (R : KeyRet ks gt vs news h₀ L m s Q) : BisRet (gI ks gt) vs news h₀ L m s Q :=
  fun r hr h1 h2 => R r hr (fun i _ hi hk => (gI_some hk).symm.trans (h1 i hi)) (fun i _ hi hk => (gI_some hk).symm.trans (h2 i hi (hlen ▸ (List.getElem?_eq_some_iff.mp hk).1)))
theorem gI_mono {α : Type} {ks : List α} {gt : α → Bool} {vs : List Value} (hlen : vs.length = ks.length) (hmono : ∀ (i j : Nat) (a b : α), ks[i]? = some a → ks[j]? = some b → i ≤ j → gt a = true → gt b = true) (i j : Nat) (h : i ≤ j) (hj : j < vs.length) (hg : gI ks gt i = true) : gI ks gt j = true := by
  obtain ⟨a, ha⟩ := gI_lt hlen (Nat.lt_of_le_of_lt h hj)
  obtain ⟨b, hb⟩ := gI_lt hlen hj
  rw [gI_some ha] at hg
  rw [gI_some hb]
  exact hmono i j a b ha hb h hg
theorem fnFrag {w : World} {h : Heap} {a : Addr} {oc : Value} {od : Option Addr} {fd : FuncData} {sl : Array (Option Value)} (X : (hd.heap_39 w.params).In h) (e : (hd.heap_39 w.params).lookup a = some ⟨oc, od, .func fd, sl⟩) : FnAt a h := ⟨_, _, _, _, X _ _ e⟩

theorem c_bisect_right_f (w : World) (l : Addr) (nn : Nat) (vs : List Value) (ks : List UInt64) (x : UInt64) (tx t0 : Tok) (news : Led) (hl : (l, listOf vs.toArray nn) ∈ news)
    (hlen : vs.length = ks.length) (hlen2 : ks.length ≤ 100)
    (hv : ∀ (i : Nat) (k : UInt64), ks[i]? = some k → ∃ t tk nm, vs[i]? = some (Value.ref t) ∧ (t, tup2 (Value.float k tk) nm) ∈ news)
    (gt : UInt64 → Bool) (hgt : ∀ k, gt k = (fLt x k))
    (hmono : ∀ (i j : Nat) (a b : UInt64), ks[i]? = some a → ks[j]? = some b → i ≤ j → gt a = true → gt b = true) :
    Cl w 3 46 [.ref l, .float x tx, .int 0 t0, .none] [(Str.ofString "key", .ref 92)] news (KeyRet ks gt vs news) := by
  refine Cl.mono (c_bis_r w 1 3 (by decide) _ _ l nn vs 92 (.float x tx) t0 (gI ks gt) news (fun s X => by refine' lookE ?e ?_; (case e => k_is); exact binds_K X rfl (by k_is) rfl rfl rfl) hl (hlen ▸ hlen2) (fun _ _ _ X _ => fnFrag X (by k_is)) (fun i v hvi => ?_) (gI_mono hlen hmono)) (gI_ret hlen)
  obtain ⟨k, hk⟩ := gI_lt hlen (List.getElem?_eq_some_iff.mp hvi).1
  obtain ⟨t, tk, nm, hvt, hmem⟩ := hv i k hk
  cases Option.some.inj (hvi.symm.trans hvt)
  exact ⟨fun _ => .float k tk, c_first w t _ _ news hmem, fun t' A E s Q h => AutoFloatOps.lt_0 (by rw [gI_some hk, hgt] at h; exact h)⟩

theorem c_bisect_left_s (w : World) (l : Addr) (nn : Nat) (vs : List Value) (ks : List Str) (x : Str) (tx t0 : Tok) (news : Led) (hl : (l, listOf vs.toArray nn) ∈ news)
    (hlen : vs.length = ks.length) (hlen2 : ks.length ≤ 100)
    (hv : ∀ (i : Nat) (k : Str), ks[i]? = some k → ∃ tk, vs[i]? = some (Value.str k tk))
    (gt : Str → Bool) (hgt : ∀ k, gt k = (!(sLt k x)))
    (hmono : ∀ (i j : Nat) (a b : Str), ks[i]? = some a → ks[j]? = some b → i ≤ j → gt a = true → gt b = true) :
    Cl w 3 64 [.ref l, .str x tx, .int 0 t0, .none] [(Str.ofString "key", .ref 78)] news (KeyRet ks gt vs news) := by
  refine Cl.mono (c_bis_l w 1 3 (by decide) _ _ l nn vs 78 (.str x tx) t0 (gI ks gt) news (fun s X => by refine' lookE ?e ?_; (case e => k_is); exact binds_K X rfl (by k_is) rfl rfl rfl) hl (hlen ▸ hlen2) (fun _ _ _ X _ => fnFrag X (by k_is)) (fun i v hvi => ?_) (gI_mono hlen hmono)) (gI_ret hlen)
  obtain ⟨k, hk⟩ := gI_lt hlen (List.getElem?_eq_some_iff.mp hvi).1
  obtain ⟨tk, hvt⟩ := hv i k hk
  cases Option.some.inj (hvi.symm.trans hvt)
  exact ⟨fun _ => .str k tk, c_strxfrm w _ news, fun t' A E s Q h => PyProof.Rows.lt_str (by rw [gI_some hk, hgt, Bool.not_not] at h; exact h)⟩

theorem c_bisect_left_f2 (w : World) (l : Addr) (nn : Nat) (vs : List Value) (ks : List UInt64) (x : UInt64) (tx : Tok) (news : Led) (hl : (l, listOf vs.toArray nn) ∈ news)
    (hlen : vs.length = ks.length) (hlen2 : ks.length ≤ 100)
    (hv : ∀ (i : Nat) (k : UInt64), ks[i]? = some k → ∃ t tk nm, vs[i]? = some (Value.ref t) ∧ (t, tup2 (Value.float k tk) nm) ∈ news)
    (gt : UInt64 → Bool) (hgt : ∀ k, gt k = (!(fLt k x)))
    (hmono : ∀ (i j : Nat) (a b : UInt64), ks[i]? = some a → ks[j]? = some b → i ≤ j → gt a = true → gt b = true) :
    Cl w 3 64 [.ref l, .float x tx] [(Str.ofString "key", .ref 92)] news (KeyRet ks gt vs news) := by
  refine Cl.mono (c_bis_l w 1 3 (by decide) _ _ l nn vs 92 (.float x tx) _ (gI ks gt) news (fun s X => by refine' lookE ?e ?_; (case e => k_is); exact binds_K X rfl (by k_is) rfl rfl rfl) hl (hlen ▸ hlen2) (fun _ _ _ X _ => fnFrag X (by k_is)) (fun i v hvi => ?_) (gI_mono hlen hmono)) (gI_ret hlen)
  obtain ⟨k, hk⟩ := gI_lt hlen (List.getElem?_eq_some_iff.mp hvi).1
  obtain ⟨t, tk, nm, hvt, hmem⟩ := hv i k hk
  cases Option.some.inj (hvi.symm.trans hvt)
  exact ⟨fun _ => .float k tk, c_first w t _ _ news hmem, fun t' A E s Q h => AutoFloatOps.lt_0 (by rw [gI_some hk, hgt, Bool.not_not] at h; exact h)⟩

theorem c_bisect_right_k (w : World) (l : Addr) (nn : Nat) (vs : List Value) (ks : List Str) (kf : Addr) (oc : Value) (od : Option Addr) (fd : FuncData) (sl : Array (Option Value)) (gk : Str → Int) (tx : Tok) (news : Led) (hl : (l, listOf vs.toArray nn) ∈ news)
    (hlen : vs.length = ks.length) (hlen2 : ks.length ≤ 100)
    (hv : ∀ (i : Nat) (k : Str), ks[i]? = some k → ∃ tk, vs[i]? = some (Value.str k tk))
    (gt : Str → Bool) (hgt : ∀ k, gt k = (decide (0 < gk k)))
    (hkm : (kf, (⟨oc, od, .func fd, sl⟩ : Obj)) ∈ news)
    (hkey : ∀ (x : Str) (t : Tok), x ∈ ks → Cl w 2 kf [.str x t] [] news (Gives news fun t => .int (gk x) t))
    (hmono : ∀ (i j : Nat) (a b : Str), ks[i]? = some a → ks[j]? = some b → i ≤ j → gt a = true → gt b = true) :
    Cl w 4 46 [.ref l, .int 0 tx] [(Str.ofString "key", .ref kf)] news (KeyRet ks gt vs news) := by
  refine Cl.mono (c_bis_r w 2 4 (by decide) _ _ l nn vs kf (.int 0 tx) _ (gI ks gt) news (fun s X => by refine' lookE ?e ?_; (case e => k_is); exact binds_K X rfl (by k_is) rfl rfl rfl) hl (hlen ▸ hlen2) (fun _ _ _ _ N => FnAt.of N hkm) (fun i v hvi => ?_) (gI_mono hlen hmono)) (gI_ret hlen)
  obtain ⟨k, hk⟩ := gI_lt hlen (List.getElem?_eq_some_iff.mp hvi).1
  obtain ⟨tk, hvt⟩ := hv i k hk
  cases Option.some.inj (hvi.symm.trans hvt)
  exact ⟨fun t => .int (gk k) t, hkey k tk (List.mem_of_getElem? hk), fun t' A E s Q h => PyProof.Rows.lt_int (by rw [gI_some hk, hgt] at h; exact h)⟩

theorem c_bisect_left_k (w : World) (l : Addr) (nn : Nat) (vs : List Value) (ks : List Str) (kf : Addr) (oc : Value) (od : Option Addr) (fd : FuncData) (sl : Array (Option Value)) (gk : Str → Int) (tx : Tok) (news : Led) (hl : (l, listOf vs.toArray nn) ∈ news)
    (hlen : vs.length = ks.length) (hlen2 : ks.length ≤ 100)
    (hv : ∀ (i : Nat) (k : Str), ks[i]? = some k → ∃ tk, vs[i]? = some (Value.str k tk))
    (gt : Str → Bool) (hgt : ∀ k, gt k = (!(decide (gk k < 0))))
    (hkm : (kf, (⟨oc, od, .func fd, sl⟩ : Obj)) ∈ news)
    (hkey : ∀ (x : Str) (t : Tok), x ∈ ks → Cl w 2 kf [.str x t] [] news (Gives news fun t => .int (gk x) t))
    (hmono : ∀ (i j : Nat) (a b : Str), ks[i]? = some a → ks[j]? = some b → i ≤ j → gt a = true → gt b = true) :
    Cl w 4 64 [.ref l, .int 0 tx] [(Str.ofString "key", .ref kf)] news (KeyRet ks gt vs news) := by
  refine Cl.mono (c_bis_l w 2 4 (by decide) _ _ l nn vs kf (.int 0 tx) _ (gI ks gt) news (fun s X => by refine' lookE ?e ?_; (case e => k_is); exact binds_K X rfl (by k_is) rfl rfl rfl) hl (hlen ▸ hlen2) (fun _ _ _ _ N => FnAt.of N hkm) (fun i v hvi => ?_) (gI_mono hlen hmono)) (gI_ret hlen)
  obtain ⟨k, hk⟩ := gI_lt hlen (List.getElem?_eq_some_iff.mp hvi).1
  obtain ⟨tk, hvt⟩ := hv i k hk
  cases Option.some.inj (hvi.symm.trans hvt)
  exact ⟨fun t => .int (gk k) t, hkey k tk (List.mem_of_getElem? hk), fun t' A E s Q h => PyProof.Rows.lt_int (by rw [gI_some hk, hgt, Bool.not_not] at h; exact h)⟩

theorem c_insort_right (w : World) (l : Addr) (nn : Nat) (vs : List Value) (ks : List UInt64) (x : UInt64) (tx : Tok) (news : Led) (hl : (l, listOf vs.toArray nn) ∈ news)
    (hlen : vs.length = ks.length) (hlen2 : ks.length ≤ 100)
    (hv : ∀ (i : Nat) (k : UInt64), ks[i]? = some k → ∃ t tk nm, vs[i]? = some (Value.ref t) ∧ (t, tup2 (Value.float k tk) nm) ∈ news)
    (gt : UInt64 → Bool) (hgt : ∀ k, gt k = (fLt x k))
    (hmono : ∀ (i j : Nat) (a b : UInt64), ks[i]? = some a → ks[j]? = some b → i ≤ j → gt a = true → gt b = true) (xa : Addr) (xnm : Value) (hxa : (xa, tup2 (Value.float x tx) xnm) ∈ news) :
    Cl w 5 37 [.ref l, .ref xa] [(Str.ofString "key", .ref 92)] news (fun h₀ L m s Q => ∀ r : Nat, r ≤ vs.length →
      (∀ (i : Nat) (k : UInt64), i < r → ks[i]? = some k → gt k = false) → (∀ (i : Nat) (k : UInt64), r ≤ i → ks[i]? = some k → gt k = true) →
      ∀ (h' : Heap) (tk' : Nat), Fr h₀ L h' m → News h₀ L h' (ledSet news l (listOf (vs.take r ++ .ref xa :: vs.drop r).toArray (nn + 1))) → Q .none { s with heap := h', toks := tk' }) := by
  unfold Cl
  k_fill
  intro mean mg mb dp un gd cn cs a ccd cl outer A₀ base h₀ L m s Q E B F X N T hk hd hu hret
  refine wpAny_call ?_
  k_dflt (refine' code_def ?k1 ?k2 ?k3 ?k4 ?k5 ?kA ?kF ?kK ?k6 ?k7 ?k8 ?k9 ?kB ?_ ?c2 ?c3 ?c4 ?c5; (case kA => exact rfl); (case kF => exact rfl); (case kK => assumption); (case k1 => k_asm); (case k2 => k_asm); (case k3 => k_asm); (case k4 => k_asm); (case k5 => k_asm); (case k6 => k_is); (case k7 => k_is); (case k8 => ktr_room); (case k9 => first | exact BindsTo.of_eq rfl | exact binds_K (by k_in) rfl (by k_is) rfl rfl rfl); (case c5 => decide); (case kB => exact locs rfl); (case c2 => exact rfl); (case c3 => exact rfl); (case c4 => exact rfl); k_whole; intro g' L' h' FG' F' N' B' X' T'; (try dsimp only); (try k_lift B'); (try k_fold))
  refine foldE ?_
  intro _ _
  repeat' ((fail_if_success (with_reducible show wpAny _ _ (call (Value.ref 46) _ _) _ _ _)); first | (k_unfold; (try dsimp only)) | (k_end; wrow_close) | k_extra "fold" | k_extra "u4" | k_extra "u3" | k_extra "u2" | k_extra "u1" | walk1 | (dsimp only; (first | k_extra "fold" | k_extra "u4" | k_extra "u3" | k_extra "u2" | k_extra "u1" | walk1)) | (leave1; walk_say "STEP leave1"; try dsimp only) | fail "no step")
  k_dflt (refine' Cl.use (c_bisect_right_f w l nn vs ks x _ _ news hl hlen hlen2 hv gt hgt hmono) ?k1 ?k2 ?k3 ?k4 ?k5 ?k6 ?k7 ?k8 ?_; (case k1 => k_asm); (case k2 => k_asm); (case k3 => k_asm); (case k4 => k_asm); (case k5 => k_asm); (case k6 => exact rfl); (case k7 => ktr_room); (case k8 => ktr_units))
  intro r hr hb1 hb2 t9 h9 tk9 F9 N9
  repeat' (first | (k_unfold; (try dsimp only)) | (k_end; wrow_close) | k_extra "fold" | k_extra "u4" | k_extra "u3" | k_extra "u2" | k_extra "u1" | walk1 | (dsimp only; (first | k_extra "fold" | k_extra "u4" | k_extra "u3" | k_extra "u2" | k_extra "u1" | walk1)) | (leave1; walk_say "STEP leave1"; try dsimp only) | fail "no step")
  refine my_insert (by assumption) (by assumption) hl hr (Nat.le_trans (Nat.le_of_eq hlen) (Nat.le_trans hlen2 (by decide))) ?_
  intro h8 F8 N8
  repeat' (first | (k_unfold; (try dsimp only)) | (k_end; wrow_close) | k_extra "fold" | k_extra "u4" | k_extra "u3" | k_extra "u2" | k_extra "u1" | walk1 | (dsimp only; (first | k_extra "fold" | k_extra "u4" | k_extra "u3" | k_extra "u2" | k_extra "u1" | walk1)) | (leave1; walk_say "STEP leave1"; try dsimp only) | fail "no step")
  exact hret r hr hb1 hb2 _ _ (by assumption) (by assumption)


theorem c_insort_left (w : World) (l : Addr) (nn : Nat) (vs : List Value) (ks : List Str) (x : Str) (tx : Tok) (news : Led) (hl : (l, listOf vs.toArray nn) ∈ news)
    (hlen : vs.length = ks.length) (hlen2 : ks.length ≤ 100)
    (hv : ∀ (i : Nat) (k : Str), ks[i]? = some k → ∃ tk, vs[i]? = some (Value.str k tk))
    (gt : Str → Bool) (hgt : ∀ k, gt k = (!(sLt k x)))
    (hmono : ∀ (i j : Nat) (a b : Str), ks[i]? = some a → ks[j]? = some b → i ≤ j → gt a = true → gt b = true)  :
    Cl w 5 55 [.ref l, .str x tx] [(Str.ofString "key", .ref 78)] news (fun h₀ L m s Q => ∀ r : Nat, r ≤ vs.length →
      (∀ (i : Nat) (k : Str), i < r → ks[i]? = some k → gt k = false) → (∀ (i : Nat) (k : Str), r ≤ i → ks[i]? = some k → gt k = true) →
      ∀ (h' : Heap) (tk' : Nat), Fr h₀ L h' m → News h₀ L h' (ledSet news l (listOf (vs.take r ++ .str x tx :: vs.drop r).toArray (nn + 1))) → Q .none { s with heap := h', toks := tk' }) := by
  unfold Cl
  k_fill
  intro mean mg mb dp un gd cn cs a ccd cl outer A₀ base h₀ L m s Q E B F X N T hk hd hu hret
  refine wpAny_call ?_
  k_dflt (refine' code_def ?k1 ?k2 ?k3 ?k4 ?k5 ?kA ?kF ?kK ?k6 ?k7 ?k8 ?k9 ?kB ?_ ?c2 ?c3 ?c4 ?c5; (case kA => exact rfl); (case kF => exact rfl); (case kK => assumption); (case k1 => k_asm); (case k2 => k_asm); (case k3 => k_asm); (case k4 => k_asm); (case k5 => k_asm); (case k6 => k_is); (case k7 => k_is); (case k8 => ktr_room); (case k9 => first | exact BindsTo.of_eq rfl | exact binds_K (by k_in) rfl (by k_is) rfl rfl rfl); (case c5 => decide); (case kB => exact locs rfl); (case c2 => exact rfl); (case c3 => exact rfl); (case c4 => exact rfl); k_whole; intro g' L' h' FG' F' N' B' X' T'; (try dsimp only); (try k_lift B'); (try k_fold))
  refine foldE ?_
  intro _ _
  repeat' ((fail_if_success (with_reducible show wpAny _ _ (call (Value.ref 64) _ _) _ _ _)); first | (k_unfold; (try dsimp only)) | (k_end; wrow_close) | k_extra "fold" | k_extra "u4" | k_extra "u3" | k_extra "u2" | k_extra "u1" | walk1 | (dsimp only; (first | k_extra "fold" | k_extra "u4" | k_extra "u3" | k_extra "u2" | k_extra "u1" | walk1)) | (leave1; walk_say "STEP leave1"; try dsimp only) | fail "no step")
  k_dflt (refine' Cl.use (c_bisect_left_s w l nn vs ks x _ _ news hl hlen hlen2 hv gt hgt hmono) ?k1 ?k2 ?k3 ?k4 ?k5 ?k6 ?k7 ?k8 ?_; (case k1 => k_asm); (case k2 => k_asm); (case k3 => k_asm); (case k4 => k_asm); (case k5 => k_asm); (case k6 => exact rfl); (case k7 => ktr_room); (case k8 => ktr_units))
  intro r hr hb1 hb2 t9 h9 tk9 F9 N9
  repeat' (first | (k_unfold; (try dsimp only)) | (k_end; wrow_close) | k_extra "fold" | k_extra "u4" | k_extra "u3" | k_extra "u2" | k_extra "u1" | walk1 | (dsimp only; (first | k_extra "fold" | k_extra "u4" | k_extra "u3" | k_extra "u2" | k_extra "u1" | walk1)) | (leave1; walk_say "STEP leave1"; try dsimp only) | fail "no step")
  refine my_insert (by assumption) (by assumption) hl hr (Nat.le_trans (Nat.le_of_eq hlen) (Nat.le_trans hlen2 (by decide))) ?_
  intro h8 F8 N8
  repeat' (first | (k_unfold; (try dsimp only)) | (k_end; wrow_close) | k_extra "fold" | k_extra "u4" | k_extra "u3" | k_extra "u2" | k_extra "u1" | walk1 | (dsimp only; (first | k_extra "fold" | k_extra "u4" | k_extra "u3" | k_extra "u2" | k_extra "u1" | walk1)) | (leave1; walk_say "STEP leave1"; try dsimp only) | fail "no step")
  exact hret r hr hb1 hb2 _ _ (by assumption) (by assumption)

end Mine

/-! part Flo -/
open PySem PySem.W PyProof.Rows PySem.Spec PySem.Calls
set_option Elab.async false
set_option maxRecDepth 100000
set_option maxHeartbeats 4000000

namespace Mine
theorem reset_Flo : True := by
  w_top off
  trivial
local macro_rules | `(tactic| news_mem) => `(tactic| assumption)
noncomputable abbrev fGt (x y : UInt64) : Bool := Float64.cmp x y == some Ordering.gt
noncomputable abbrev fEq (x y : UInt64) : Bool := Float64.cmp x y == some Ordering.eq
noncomputable def max3 (a b c : UInt64) : UInt64 := if fGt b a = true then (if fGt c b = true then c else b) else (if fGt c a = true then c else a)
noncomputable def min3 (a b c : UInt64) : UInt64 := if fLt b a = true then (if fLt c b = true then c else b) else (if fLt c a = true then c else a)
section
variable {prog : Program} {w : World} {A : Around} {E : Value → Shared → Prop} {s : Shared} {h₀ : Heap} {L : Addr} {m : Str → Option Value} {news : Led}

theorem cmp_floats_gt {P : Nat → Value → Prop} (val : Nat → UInt64) (hval : ∀ i v, P i v → ∃ t, v = .float (val i) t) :
    CmpOf prog w A .Gt P (fun i j => fGt (val i) (val j)) := fun i j vi vj s Q E hi hj h => by
  obtain ⟨t, rfl⟩ := hval i vi hi
  obtain ⟨u, rfl⟩ := hval j vj hj
  exact richCompare_gives (op := .Gt) (typeIs_float s _ t) (typeIs_float s _ u) F.slot_float_gt F.entry_float_gt (F.args_float_gt_2 _ _) (AutoFloatG4.float___gt___float_float_0 _ t _ u) (fun x => nomatch x) h
theorem cmp_floats_lt {P : Nat → Value → Prop} (val : Nat → UInt64) (hval : ∀ i v, P i v → ∃ t, v = .float (val i) t) :
    CmpOf prog w A .Lt P (fun i j => fLt (val i) (val j)) := fun i j vi vj s Q E hi hj h => by
  obtain ⟨t, rfl⟩ := hval i vi hi
  obtain ⟨u, rfl⟩ := hval j vj hj
  exact richCompare_gives (op := .Lt) (typeIs_float s _ t) (typeIs_float s _ u) F.slot_float_lt F.entry_float_lt (F.args_float_lt_2 _ _) (AutoFloatG5.float___lt___float_float_0 _ t _ u) (fun x => nomatch x) h

noncomputable def fl3 (a b c : UInt64) : Nat → UInt64
  | 0 => a
  | 1 => b
  | _ => c
theorem fl3_at {a b c : UInt64} {t u x : Tok} : ∀ (i : Nat) (v : Value), (#[Value.float a t, Value.float b u, Value.float c x] : Array Value)[i]? = some v → ∃ t, v = .float (fl3 a b c i) t
  | 0, v, h => ⟨t, by simpa [fl3] using h.symm⟩
  | 1, v, h => ⟨u, by simpa [fl3] using h.symm⟩
  | 2, v, h => ⟨x, by simpa [fl3] using h.symm⟩
  | n + 3, v, h => by simp at h

theorem my_max {a b c : UInt64} {t u x : Tok} {Q : Value → Shared → Prop} (hh : A.handled = none) (F : Fr h₀ L s.heap m) (N : News h₀ L s.heap news)
    (h : ∀ tt h' tk, Fr h₀ L h' m → News h₀ L h' news → Q (.float (max3 a b c) tt) { s with heap := h', toks := tk }) :
    wpAny (model prog w) A (call (.builtin "max") [.float a t, .float b u, .float c x]) Q E s := by
  have hT : (s.heap.push { cls := .type "tuple", data := .seq #[.float a t, .float b u, .float c x] }).IsTuple s.heap.objs.size #[.float a t, .float b u, .float c x] := ⟨_, Heap.get?_push_size _ rfl, rfl, 0, rfl⟩
  refine call_max_three (wpAny_pyIter_tuple hT ?_)
  have hsz : (s.heap.push { cls := .type "tuple", data := .seq #[.float a t, .float b u, .float c x] }).objs.size = s.heap.objs.size + 1 := Heap.size_push ..
  refine ⟨_, [_, s.heap.objs.size], [_], _, _, _, _, rfl, Walks.tuple (A := A.in1) hh _ s.heap.objs.size (by rw [hsz]; exact Nat.ne_of_lt (Nat.lt_succ_self _)) #[.float a t, .float b u, .float c x],
    ⟨⟨_, Heap.get?_push_size _ rfl, rfl, rfl⟩, hT.push _⟩, fun d hd => ?_, by simp, cmp_floats_gt (fl3 a b c) fl3_at, fun v h' tk hP hk => ?_⟩
  · show d < ((s.heap.push _).push _).objs.size
    rw [Heap.size_push, hsz]
    rcases List.mem_cons.mp hd with rfl | hd
    · rw [hsz]; exact Nat.lt_succ_self _
    · rcases List.mem_cons.mp hd with rfl | hd
      · exact Nat.lt_succ_of_lt (Nat.lt_succ_self _)
      · cases hd
  · have hold : ∀ d o, s.heap.get? d = some o → h'.get? d = some o := fun d o e => by
      refine hk d o (fun hm => ?_) (Heap.get?_push_of_some _ (Heap.get?_push_of_some _ e))
      rcases List.mem_cons.mp hm with e1 | hm
      · have := Heap.lt_size e; rw [e1, hsz] at this; exact Nat.lt_irrefl _ (Nat.lt_of_succ_lt this)
      · cases hm
    have hv : ∃ tt, v = .float (max3 a b c) tt := by
      have hP' : (#[Value.float a t, Value.float b u, Value.float c x] : Array Value)[argBest (fun i j => fGt (fl3 a b c i) (fl3 a b c j)) 2]? = some v := hP
      unfold max3
      by_cases hba : fGt b a = true
      · by_cases hc : fGt c b = true
        · have e : argBest (fun i j => fGt (fl3 a b c i) (fl3 a b c j)) 2 = 2 := by simp [argBest, fl3, hba, hc]
          rw [e] at hP'
          exact ⟨x, by simpa [hba, hc] using hP'.symm⟩
        · have e : argBest (fun i j => fGt (fl3 a b c i) (fl3 a b c j)) 2 = 1 := by simp [argBest, fl3, hba, hc]
          rw [e] at hP'
          exact ⟨u, by simpa [hba, hc] using hP'.symm⟩
      · by_cases hc : fGt c a = true
        · have e : argBest (fun i j => fGt (fl3 a b c i) (fl3 a b c j)) 2 = 2 := by simp [argBest, fl3, hba, hc]
          rw [e] at hP'
          exact ⟨x, by simpa [hba, hc] using hP'.symm⟩
        · have e : argBest (fun i j => fGt (fl3 a b c i) (fl3 a b c j)) 2 = 0 := by simp [argBest, fl3, hba, hc]
          rw [e] at hP'
          exact ⟨t, by simpa [hba, hc] using hP'.symm⟩
    obtain ⟨tt, rfl⟩ := hv
    exact h tt h' tk (F.grownK hold) (N.grown hold)

theorem my_min {a b c : UInt64} {t u x : Tok} {Q : Value → Shared → Prop} (hh : A.handled = none) (F : Fr h₀ L s.heap m) (N : News h₀ L s.heap news)
    (h : ∀ tt h' tk, Fr h₀ L h' m → News h₀ L h' news → Q (.float (min3 a b c) tt) { s with heap := h', toks := tk }) :
    wpAny (model prog w) A (call (.builtin "min") [.float a t, .float b u, .float c x]) Q E s := by
  have hT : (s.heap.push { cls := .type "tuple", data := .seq #[.float a t, .float b u, .float c x] }).IsTuple s.heap.objs.size #[.float a t, .float b u, .float c x] := ⟨_, Heap.get?_push_size _ rfl, rfl, 0, rfl⟩
  refine call_min_three (wpAny_pyIter_tuple hT ?_)
  have hsz : (s.heap.push { cls := .type "tuple", data := .seq #[.float a t, .float b u, .float c x] }).objs.size = s.heap.objs.size + 1 := Heap.size_push ..
  refine ⟨_, [_, s.heap.objs.size], [_], _, _, _, _, rfl, Walks.tuple (A := A.in1) hh _ s.heap.objs.size (by rw [hsz]; exact Nat.ne_of_lt (Nat.lt_succ_self _)) #[.float a t, .float b u, .float c x],
    ⟨⟨_, Heap.get?_push_size _ rfl, rfl, rfl⟩, hT.push _⟩, fun d hd => ?_, by simp, cmp_floats_lt (fl3 a b c) fl3_at, fun v h' tk hP hk => ?_⟩
  · show d < ((s.heap.push _).push _).objs.size
    rw [Heap.size_push, hsz]
    rcases List.mem_cons.mp hd with rfl | hd
    · rw [hsz]; exact Nat.lt_succ_self _
    · rcases List.mem_cons.mp hd with rfl | hd
      · exact Nat.lt_succ_of_lt (Nat.lt_succ_self _)
      · cases hd
  · have hold : ∀ d o, s.heap.get? d = some o → h'.get? d = some o := fun d o e => by
      refine hk d o (fun hm => ?_) (Heap.get?_push_of_some _ (Heap.get?_push_of_some _ e))
      rcases List.mem_cons.mp hm with e1 | hm
      · have := Heap.lt_size e; rw [e1, hsz] at this; exact Nat.lt_irrefl _ (Nat.lt_of_succ_lt this)
      · cases hm
    have hv : ∃ tt, v = .float (min3 a b c) tt := by
      have hP' : (#[Value.float a t, Value.float b u, Value.float c x] : Array Value)[argBest (fun i j => fLt (fl3 a b c i) (fl3 a b c j)) 2]? = some v := hP
      unfold min3
      by_cases hba : fLt b a = true
      · by_cases hc : fLt c b = true
        · have e : argBest (fun i j => fLt (fl3 a b c i) (fl3 a b c j)) 2 = 2 := by simp [argBest, fl3, hba, hc]
          rw [e] at hP'
          exact ⟨x, by simpa [hba, hc] using hP'.symm⟩
        · have e : argBest (fun i j => fLt (fl3 a b c i) (fl3 a b c j)) 2 = 1 := by simp [argBest, fl3, hba, hc]
          rw [e] at hP'
          exact ⟨u, by simpa [hba, hc] using hP'.symm⟩
      · by_cases hc : fLt c a = true
        · have e : argBest (fun i j => fLt (fl3 a b c i) (fl3 a b c j)) 2 = 2 := by simp [argBest, fl3, hba, hc]
          rw [e] at hP'
          exact ⟨x, by simpa [hba, hc] using hP'.symm⟩
        · have e : argBest (fun i j => fLt (fl3 a b c i) (fl3 a b c j)) 2 = 0 := by simp [argBest, fl3, hba, hc]
          rw [e] at hP'
          exact ⟨t, by simpa [hba, hc] using hP'.symm⟩
    obtain ⟨tt, rfl⟩ := hv
    exact h tt h' tk (F.grownK hold) (N.grown hold)
end
end Mine

/-! part FloPure -/
open PySem PySem.W PyProof.Rows PySem.Spec PySem.Calls
set_option Elab.async false
set_option maxRecDepth 100000
set_option maxHeartbeats 4000000

namespace Mine
theorem reset_FloPure : True := by
  w_top off
  trivial
/-- the quotient of two ints, as the model tells it -/
noncomputable def frac (a b : Int) : UInt64 := Float64.ofFrac (decide (a < 0) != decide (b < 0)) a.natAbs b.natAbs
noncomputable abbrev sixOf (a : UInt64) : UInt64 := Float64.mul a 4618441417868443648
noncomputable abbrev iOf (a : UInt64) : Int := Flt.toInt Float64.truncOf (sixOf a)
noncomputable abbrev fOf (a : UInt64) : UInt64 := Float64.sub (sixOf a) (Float64.ofInt (iOf a))
noncomputable abbrev pOf (b c : UInt64) : UInt64 := Float64.mul c (Float64.sub 4607182418800017408 b)
noncomputable abbrev qOf (a b c : UInt64) : UInt64 := Float64.mul c (Float64.sub 4607182418800017408 (Float64.mul b (fOf a)))
noncomputable abbrev tOf (a b c : UInt64) : UInt64 := Float64.mul c (Float64.sub 4607182418800017408 (Float64.mul b (Float64.sub 4607182418800017408 (fOf a))))
noncomputable def hsvF (a b c : UInt64) : UInt64 × UInt64 × UInt64 :=
  if (iOf a).fmod 6 = 0 then (c, tOf a b c, pOf b c) else if (iOf a).fmod 6 = 1 then (qOf a b c, c, pOf b c)
  else if (iOf a).fmod 6 = 2 then (pOf b c, c, tOf a b c) else if (iOf a).fmod 6 = 3 then (pOf b c, qOf a b c, c)
  else if (iOf a).fmod 6 = 4 then (tOf a b c, pOf b c, c) else (c, pOf b c, qOf a b c)
noncomputable def hsvOk (a b : UInt64) : Bool := !(fEq b 0) && !(Float64.isNaN (sixOf a)) && !(Float64.isInf (sixOf a)) && decide ((iOf a).natAbs < 1000)
noncomputable abbrev sumOf (r g b : UInt64) : UInt64 := Float64.add (max3 r g b) (min3 r g b)
noncomputable abbrev ranOf (r g b : UInt64) : UInt64 := Float64.sub (max3 r g b) (min3 r g b)
noncomputable abbrev lOf (r g b : UInt64) : UInt64 := Float64.div (sumOf r g b) 4611686018427387904
noncomputable abbrev cOf (r g b x : UInt64) : UInt64 := Float64.div (Float64.sub (max3 r g b) x) (ranOf r g b)
noncomputable abbrev lowL (x : UInt64) : Bool := Float64.cmp x 4602678819172646912 == some Ordering.lt || Float64.cmp x 4602678819172646912 == some Ordering.eq
noncomputable def hueOf (r g b : UInt64) : UInt64 :=
  if fEq r (max3 r g b) = true then Float64.sub (cOf r g b b) (cOf r g b g)
  else if fEq g (max3 r g b) = true then Float64.sub (Float64.add 4611686018427387904 (cOf r g b r)) (cOf r g b b)
  else Float64.sub (Float64.add 4616189618054758400 (cOf r g b g)) (cOf r g b r)
noncomputable def rgbF (r g b : UInt64) : UInt64 × UInt64 × UInt64 :=
  ((Float64.divmod (Float64.div (hueOf r g b) 4618441417868443648) 4607182418800017408).snd, lOf r g b,
    if lowL (lOf r g b) = true then Float64.div (ranOf r g b) (sumOf r g b) else Float64.div (ranOf r g b) (Float64.sub (Float64.sub 4611686018427387904 (max3 r g b)) (min3 r g b)))
noncomputable def rgbOk (r g b : UInt64) : Bool := !(fEq (min3 r g b) (max3 r g b)) && !(Float64.isZero (sumOf r g b)) && !(Float64.isZero (Float64.sub (Float64.sub 4611686018427387904 (max3 r g b)) (min3 r g b))) && !(Float64.isZero (ranOf r g b))
noncomputable def toldF (p s v : Int) : UInt64 × UInt64 × UInt64 :=
  (frac p 32, frac (v * (8 - s)) 32, if v * (8 - s) ≤ 16 then frac s (8 - s) else frac (v * s) (32 - 8 * v + v * s))
noncomputable def check (p s v t : Int) : Bool :=
  let a := Float64.add (frac p 32) (Float64.ofInt t)
  let x := hsvF a (frac s 4) (frac v 4)
  hsvOk a (frac s 4) && rgbOk x.1 x.2.1 x.2.2 && decide (rgbF x.1 x.2.1 x.2.2 = toldF p s v)
/-- one number after the other, each reckoned once -/
noncomputable def force (n : Nat) (f : Nat → Bool) : Bool := Nat.rec (f 0) (fun k _ => f (k + 1)) n
theorem force_eq (n : Nat) (f : Nat → Bool) : force n f = f n := by cases n <;> rfl
noncomputable def frc (x : UInt64) (f : UInt64 → Bool) : Bool := force x.toNat fun n => f (UInt64.ofNat n)
theorem frc_eq (x : UInt64) (f : UInt64 → Bool) : frc x f = f x := by unfold frc; rw [force_eq, UInt64.ofNat_toNat]
noncomputable def frcI (x : Int) (f : Int → Bool) : Bool := if x < 0 then f x else force x.toNat fun n => f (n : Int)
theorem frcI_eq (x : Int) (f : Int → Bool) : frcI x f = f x := by
  unfold frcI
  split
  · rfl
  · rw [force_eq, Int.toNat_of_nonneg (by omega)]
noncomputable def rgbQ (r g b : UInt64) (told : UInt64 × UInt64 × UInt64) : Bool :=
  frc (max3 r g b) fun mx => frc (min3 r g b) fun mn => frc (Float64.add mx mn) fun sm => frc (Float64.sub mx mn) fun ran => frc (Float64.div sm 4611686018427387904) fun l =>
  frc (Float64.sub (Float64.sub 4611686018427387904 mx) mn) fun two =>
  !(fEq mn mx) && !(Float64.isZero sm) && !(Float64.isZero two) && !(Float64.isZero ran) &&
  frc (Float64.div (Float64.sub mx r) ran) fun rc => frc (Float64.div (Float64.sub mx g) ran) fun gc => frc (Float64.div (Float64.sub mx b) ran) fun bc =>
  frc (Float64.div (if fEq r mx = true then Float64.sub bc gc else if fEq g mx = true then Float64.sub (Float64.add 4611686018427387904 rc) bc else Float64.sub (Float64.add 4616189618054758400 gc) rc) 4618441417868443648) fun h =>
  decide ((Float64.divmod h 4607182418800017408).snd = told.1) && decide (l = told.2.1) && decide ((if lowL l = true then Float64.div ran sm else Float64.div ran two) = told.2.2)
theorem rgbQ_eq (r g b : UInt64) (told : UInt64 × UInt64 × UInt64) : rgbQ r g b told = (rgbOk r g b && decide (rgbF r g b = told)) := by
  obtain ⟨t1, t2, t3⟩ := told
  simp only [rgbQ, frc_eq, rgbOk, rgbF, hueOf, Prod.mk.injEq, Bool.decide_and, Bool.and_assoc]
/-- one of six, by the hue's sixth -/
noncomputable def six6 {α : Type} (m : Int) (a b c d e f : α) : α := if m = 0 then a else if m = 1 then b else if m = 2 then c else if m = 3 then d else if m = 4 then e else f
theorem six6_map {α β : Type} (g : α → β) (m : Int) (a b c d e f : α) : six6 m (g a) (g b) (g c) (g d) (g e) (g f) = g (six6 m a b c d e f) := by
  unfold six6
  (repeat' split) <;> rfl
noncomputable def checkQ (p s v t : Int) : Bool :=
  frc (frac p 32) fun p32 => frc (Float64.add p32 (Float64.ofInt t)) fun a => frc (frac s 4) fun b => frc (frac v 4) fun c =>
  frc (sixOf a) fun six => frcI (Flt.toInt Float64.truncOf six) fun i => frc (Float64.sub six (Float64.ofInt i)) fun f =>
  frc (pOf b c) fun pp => frc (Float64.mul c (Float64.sub 4607182418800017408 (Float64.mul b f))) fun q => frc (Float64.mul c (Float64.sub 4607182418800017408 (Float64.mul b (Float64.sub 4607182418800017408 f)))) fun tt =>
  !(fEq b 0) && !(Float64.isNaN six) && !(Float64.isInf six) && decide (i.natAbs < 1000) &&
  six6 (i.fmod 6) (rgbQ c tt pp (toldF p s v)) (rgbQ q c pp (toldF p s v)) (rgbQ pp c tt (toldF p s v)) (rgbQ pp q c (toldF p s v)) (rgbQ tt pp c (toldF p s v)) (rgbQ c pp q (toldF p s v))
theorem checkQ_eq (p s v t : Int) : checkQ p s v t = check p s v t := by
  simp only [checkQ, frc_eq, frcI_eq]
  refine Eq.trans (congrArg (fun z => _ && z) (six6_map (fun x : UInt64 × UInt64 × UInt64 => rgbQ x.1 x.2.1 x.2.2 (toldF p s v)) _ (_, _, _) (_, _, _) (_, _, _) (_, _, _) (_, _, _) (_, _, _))) ?_
  simp only [rgbQ_eq, check, hsvOk, Bool.and_assoc]
  rfl
noncomputable def checkAll (n k : Nat) : Bool := (List.range' n k).all fun p => (List.range 4).all fun s => (List.range 4).all fun v => checkQ p (s + 1) (v + 1) 0
noncomputable abbrev aOf (p t : Int) : UInt64 := Float64.add (frac p 32) (Float64.ofInt t)
noncomputable def sameT : Bool := (List.range 32).all fun p => (List.range 3).all fun t => frc (frac p 32) fun p32 => frc (Float64.add p32 (Float64.ofInt t)) fun a => frc (Float64.add p32 (Float64.ofInt 0)) fun a0 => frc (sixOf a) fun six => frc (sixOf a0) fun six0 =>
  frcI (Flt.toInt Float64.truncOf six) fun i => frcI (Flt.toInt Float64.truncOf six0) fun i0 => (decide (Float64.sub six (Float64.ofInt i) = Float64.sub six0 (Float64.ofInt i0)) && decide (i.fmod 6 = i0.fmod 6)) &&
  (!(Float64.isNaN six) && (!(Float64.isInf six) && decide (i.natAbs < 1000)))
set_option maxRecDepth 1000000
theorem ca0 : checkAll 0 8 = true := by decide +kernel
theorem ca1 : checkAll 8 8 = true := by decide +kernel
theorem ca2 : checkAll 16 8 = true := by decide +kernel
theorem ca3 : checkAll 24 8 = true := by decide +kernel
theorem sameT_ok : sameT = true := by decide +kernel
theorem all_range {n : Nat} {f : Nat → Bool} (h : (List.range n).all f = true) {i : Nat} (hi : i < n) : f i = true := List.all_eq_true.mp h i (List.mem_range.mpr hi)
theorem all_range' {n k : Nat} {f : Nat → Bool} (h : (List.range' n k).all f = true) {i : Nat} (h1 : n ≤ i) (h2 : i < n + k) : f i = true :=
  List.all_eq_true.mp h i (List.mem_range'_1.mpr ⟨h1, h2⟩)
theorem check0 {p s v : Nat} (hp : p < 32) (hs : s < 4) (hv : v < 4) : check p (s + 1) (v + 1) 0 = true := by
  rw [← checkQ_eq]
  have H : ((List.range 4).all fun s => (List.range 4).all fun v => checkQ p (s + 1) (v + 1) 0) = true := by
    rcases Nat.lt_or_ge p 8 with h | h
    · exact all_range' ca0 (Nat.zero_le p) h
    rcases Nat.lt_or_ge p 16 with h1 | h1
    · exact all_range' ca1 h h1
    rcases Nat.lt_or_ge p 24 with h2 | h2
    · exact all_range' ca2 h1 h2
    exact all_range' ca3 h2 hp
  exact all_range (all_range H hs) hv
theorem float_law {p s v t : Int} (hp : 0 ≤ p) (hp' : p < 32) (hs : 1 ≤ s) (hs' : s ≤ 4) (hv : 1 ≤ v) (hv' : v ≤ 4) (ht : 0 ≤ t) (ht' : t < 3) {x : UInt64 × UInt64 × UInt64} (hx : hsvF (aOf p t) (frac s 4) (frac v 4) = x) :
    hsvOk (aOf p t) (frac s 4) = true ∧ rgbOk x.1 x.2.1 x.2.2 = true ∧ rgbF x.1 x.2.1 x.2.2 = toldF p s v := by
  subst hx
  obtain ⟨p, rfl⟩ := Int.eq_ofNat_of_zero_le hp
  obtain ⟨t, rfl⟩ := Int.eq_ofNat_of_zero_le ht
  obtain ⟨s, rfl⟩ : ∃ n : Nat, s = n + 1 := ⟨(s - 1).toNat, by omega⟩
  obtain ⟨v, rfl⟩ : ∃ n : Nat, v = n + 1 := ⟨(v - 1).toNat, by omega⟩
  have h0 := check0 (p := p) (s := s) (v := v) (by omega) (by omega) (by omega)
  have h1 := all_range (all_range sameT_ok (by omega : p < 32)) (by omega : t < 3)
  simp only [frc_eq, frcI_eq, Bool.and_eq_true, decide_eq_true_eq] at h1
  obtain ⟨⟨hf, hi⟩, hn, hinf, hb⟩ := h1
  have e : hsvF (aOf p t) (frac (s + 1) 4) (frac (v + 1) 4) = hsvF (aOf p 0) (frac (s + 1) 4) (frac (v + 1) 4) := by
    have hf' : fOf (aOf (p : Int) (t : Int)) = fOf (aOf (p : Int) 0) := hf
    have hi' : (iOf (aOf (p : Int) (t : Int))).fmod 6 = (iOf (aOf (p : Int) 0)).fmod 6 := hi
    unfold hsvF qOf tOf
    rw [hf', hi']
  unfold check at h0
  simp only [Bool.and_eq_true, decide_eq_true_eq] at h0
  obtain ⟨⟨ho, hr⟩, hq⟩ := h0
  rw [e]
  refine ⟨?_, hr, hq⟩
  unfold hsvOk at ho ⊢
  simp only [Bool.and_eq_true, decide_eq_true_eq, Bool.and_assoc] at ho ⊢
  exact ⟨ho.1, hn, hinf, hb⟩
noncomputable def noInf : Bool := ((List.range 32).all fun p => !(Float64.isInf (frac p 32))) && (List.range 4).all fun s => (List.range 4).all fun v =>
  !(Float64.isInf (frac ((v + 1) * (8 - (s + 1))) 32)) && (!(Float64.isInf (frac (s + 1) (8 - (s + 1)))) && !(Float64.isInf (frac ((v + 1) * (s + 1)) (32 - 8 * (v + 1) + (v + 1) * (s + 1)))))
theorem noInf_ok : noInf = true := by decide +kernel
theorem noInf_p {p : Int} (hp : 0 ≤ p) (hp' : p < 32) : Float64.isInf (frac p 32) = false := by
  obtain ⟨p, rfl⟩ := Int.eq_ofNat_of_zero_le hp
  have h := (Bool.and_eq_true_iff.mp noInf_ok).1
  simpa using all_range h (by omega : p < 32)
theorem noInf_sv {s v : Int} (hs : 1 ≤ s) (hs' : s ≤ 4) (hv : 1 ≤ v) (hv' : v ≤ 4) : Float64.isInf (frac (v * (8 - s)) 32) = false ∧ Float64.isInf (frac s (8 - s)) = false ∧ Float64.isInf (frac (v * s) (32 - 8 * v + v * s)) = false := by
  obtain ⟨s, rfl⟩ : ∃ n : Nat, s = n + 1 := ⟨(s - 1).toNat, by omega⟩
  obtain ⟨v, rfl⟩ : ∃ n : Nat, v = n + 1 := ⟨(v - 1).toNat, by omega⟩
  have h := all_range (all_range (Bool.and_eq_true_iff.mp noInf_ok).2 (by omega : s < 4)) (by omega : v < 4)
  simpa only [Bool.and_eq_true, Bool.not_eq_true'] using h
noncomputable def hueF (p : Int) : UInt64 := frac p 32
noncomputable def hueLtAll : Bool := (List.range 32).all fun p => frc (frac p 32) fun x => (List.range 32).all fun q => (fLt x (frac q 32) == decide (p < q))
theorem hueLtAll_ok : hueLtAll = true := by decide +kernel
theorem hue_lt {p q : Int} (hp : 0 ≤ p) (hp' : p < 32) (hq : 0 ≤ q) (hq' : q < 32) : fLt (frac p 32) (frac q 32) = decide (p < q) := by
  obtain ⟨p, rfl⟩ := Int.eq_ofNat_of_zero_le hp
  obtain ⟨q, rfl⟩ := Int.eq_ofNat_of_zero_le hq
  have h := all_range hueLtAll_ok (by omega : p < 32)
  rw [frc_eq] at h
  have h2 := all_range h (by omega : q < 32)
  have h3 : fLt (frac p 32) (frac q 32) = decide (p < q) := by simpa using h2
  rw [h3]
  simp
end Mine

/-! part Flo2 -/
open PySem PySem.W PyProof.Rows PySem.Spec PySem.Calls
set_option Elab.async false
set_option maxRecDepth 100000
set_option maxHeartbeats 4000000

namespace Mine
theorem reset_Flo2 : True := by
  w_top off
  trivial
local macro_rules | `(tactic| news_mem) => `(tactic| assumption)

theorem words_Flo2 : True := by
  k_with_none
  k_with "fold" => ((with_reducible show wpAny _ _ (execs (_ :: _) _) _ _ _); (refine foldT ?_); intro _; (refine foldK (by with_reducible assumption) (by with_reducible assumption) ?_); intro _ _ _ _; (with_reducible refine wpAny_execs_cons ?_); (try dsimp only); (refine foldQ ?_); intro _)
  k_with "om" => (first | (with_reducible first | assumption | exact Int.natCast_nonneg _ | exact Nat.le_trans (by assumption) (by decide) | exact Nat.lt_of_le_of_lt (by assumption) (by decide) | exact lt_lit (by assumption) (by decide) | exact le_lit (by assumption) (by decide) | exact le_flip (by assumption) (by decide) | exact lt_lit0 (by assumption) (by decide) | exact nn0) | decide | omega)
  k_with "u1" => ((with_reducible show wpAny _ _ (call (Value.builtin "max") [Value.float _ _, Value.float _ _, Value.float _ _]) _ _ _); refine my_max (by exact rfl) (by assumption) (by assumption) ?_; intro _ _ _ _ _; (try dsimp only))
  k_with "u2" => ((with_reducible show wpAny _ _ (call (Value.builtin "min") [Value.float _ _, Value.float _ _, Value.float _ _]) _ _ _); refine my_min (by exact rfl) (by assumption) (by assumption) ?_; intro _ _ _ _ _; (try dsimp only))
  k_with "u3" => ((with_reducible refine wpAny_execs_nil ?_); try dsimp only)
  trivial
/-- gives a new tuple of three floats back -/
abbrev Gives3 (news : Led) (x : UInt64 × UInt64 × UInt64) (h₀ : Heap) (L : Addr) (m : Str → Option Value) (s : Shared) (Q : Value → Shared → Prop) : Prop :=
  ∀ (t1 t2 t3 : Tok) (D : Addr) (h' : Heap) (tk' : Nat), Fr h₀ L h' m → News h₀ L h' ((D, tup3 (.float x.1 t1) (.float x.2.1 t2) (.float x.2.2 t3)) :: news) → (∀ p ∈ news, p.1 < D) → Q (.ref D) { s with heap := h', toks := tk' }

/-- the same, no mark nought -/
abbrev Gives3p (news : Led) (x : UInt64 × UInt64 × UInt64) (h₀ : Heap) (L : Addr) (m : Str → Option Value) (s : Shared) (Q : Value → Shared → Prop) : Prop :=
  ∀ (t1 t2 t3 : Tok) (D : Addr) (h' : Heap) (tk' : Nat), Fr h₀ L h' m → News h₀ L h' ((D, tup3 (.float x.1 t1) (.float x.2.1 t2) (.float x.2.2 t3)) :: news) → (∀ p ∈ news, p.1 < D) → (@Ne Nat t1 0) → (@Ne Nat t2 0) → (@Ne Nat t3 0) → Q (.ref D) { s with heap := h', toks := tk' }

theorem ff {b : Bool} (h : b = false) : ¬ b = true := by rw [h]; decide
theorem c_hsv (w : World) (a b c : UInt64) (ta tb tc : Tok) (news : Led) (hok : hsvOk a b = true) : Cl w 1 28 [.float a ta, .float b tb, .float c tc] [] news (Gives3 news (hsvF a b c)) := by
  simp only [hsvOk, Bool.and_eq_true, Bool.not_eq_true', decide_eq_true_eq] at hok
  obtain ⟨⟨⟨hb0, hnan⟩, hinf⟩, hbig⟩ := hok
  unfold Cl
  k_fill
  intro mean mg mb dp un gd cn cs a' ccd cl outer A₀ base h₀ L m s Q E B F X N T hk hd hu hret
  refine wpAny_call ?_
  k_dflt (refine' code_def ?k1 ?k2 ?k3 ?k4 ?k5 ?kA ?kF ?kK ?k6 ?k7 ?k8 ?k9 ?kB ?_ ?c2 ?c3 ?c4 ?c5; (case kA => exact rfl); (case kF => exact rfl); (case kK => assumption); (case k1 => k_asm); (case k2 => k_asm); (case k3 => k_asm); (case k4 => k_asm); (case k5 => k_asm); (case k6 => k_is); (case k7 => k_is); (case k8 => ktr_room); (case k9 => first | exact BindsTo.of_eq rfl | exact binds_K (by k_in) rfl (by k_is) rfl rfl rfl); (case c5 => decide); (case kB => exact locs rfl); (case c2 => exact rfl); (case c3 => exact rfl); (case c4 => exact rfl); k_whole; intro g' L' h' FG' F' N' B' X' T'; (try dsimp only); (try k_lift B'); (try k_fold))
  refine foldE ?_
  intro _ _
  repeat' (first | (k_unfold; (try dsimp only)) | (k_end; wrow_close) | k_extra "fold" | k_extra "u2" | k_extra "u1" | walk1 | (dsimp only; (first | k_extra "fold" | k_extra "u2" | k_extra "u1" | walk1)) | (leave1; walk_say "STEP leave1"; try dsimp only) | fail "no step")
  · exact absurd ‹2 ^ 1024 - 2 ^ 970 ≤ (iOf a).natAbs› (Nat.not_le.mpr (Nat.lt_trans hbig (by decide +kernel)))
  · rename News h₀ L _ _ => kN
    have e : hsvF a b c = (c, tOf a b c, pOf b c) := by unfold hsvF; rw [if_pos ‹(iOf a).fmod 6 = 0›]
    exact hret _ _ _ _ _ _ (by assumption) (by rw [e]; exact kN) (by assumption)
  · rename News h₀ L _ _ => kN
    have e : hsvF a b c = (qOf a b c, c, pOf b c) := by unfold hsvF; rw [if_neg ‹(iOf a).fmod 6 ≠ 0›, if_pos ‹(iOf a).fmod 6 = 1›]
    exact hret _ _ _ _ _ _ (by assumption) (by rw [e]; exact kN) (by assumption)
  · rename News h₀ L _ _ => kN
    have e : hsvF a b c = (pOf b c, c, tOf a b c) := by unfold hsvF; rw [if_neg ‹(iOf a).fmod 6 ≠ 0›, if_neg ‹(iOf a).fmod 6 ≠ 1›, if_pos ‹(iOf a).fmod 6 = 2›]
    exact hret _ _ _ _ _ _ (by assumption) (by rw [e]; exact kN) (by assumption)
  · rename News h₀ L _ _ => kN
    have e : hsvF a b c = (pOf b c, qOf a b c, c) := by unfold hsvF; rw [if_neg ‹(iOf a).fmod 6 ≠ 0›, if_neg ‹(iOf a).fmod 6 ≠ 1›, if_neg ‹(iOf a).fmod 6 ≠ 2›, if_pos ‹(iOf a).fmod 6 = 3›]
    exact hret _ _ _ _ _ _ (by assumption) (by rw [e]; exact kN) (by assumption)
  · rename News h₀ L _ _ => kN
    have e : hsvF a b c = (tOf a b c, pOf b c, c) := by unfold hsvF; rw [if_neg ‹(iOf a).fmod 6 ≠ 0›, if_neg ‹(iOf a).fmod 6 ≠ 1›, if_neg ‹(iOf a).fmod 6 ≠ 2›, if_neg ‹(iOf a).fmod 6 ≠ 3›, if_pos ‹(iOf a).fmod 6 = 4›]
    exact hret _ _ _ _ _ _ (by assumption) (by rw [e]; exact kN) (by assumption)
  · rename News h₀ L _ _ => kN
    have e : hsvF a b c = (c, pOf b c, qOf a b c) := by unfold hsvF; rw [if_neg ‹(iOf a).fmod 6 ≠ 0›, if_neg ‹(iOf a).fmod 6 ≠ 1›, if_neg ‹(iOf a).fmod 6 ≠ 2›, if_neg ‹(iOf a).fmod 6 ≠ 3›, if_neg ‹(iOf a).fmod 6 ≠ 4›]
    exact hret _ _ _ _ _ _ (by assumption) (by rw [e]; exact kN) (by assumption)
  · exfalso
    have h1 := Int.emod_nonneg (iOf a) (by decide : (6 : Int) ≠ 0)
    have h2 := Int.emod_lt_of_pos (iOf a) (by decide : (0 : Int) < 6)
    have h3 := ‹(iOf a).fmod 6 ≠ 0›
    have h4 := ‹(iOf a).fmod 6 ≠ 1›
    have h5 := ‹(iOf a).fmod 6 ≠ 2›
    have h6 := ‹(iOf a).fmod 6 ≠ 3›
    have h7 := ‹(iOf a).fmod 6 ≠ 4›
    have h8 := ‹(iOf a).fmod 6 ≠ 5›
    rw [Int.fmod_eq_emod_of_nonneg _ (by decide)] at h3 h4 h5 h6 h7 h8
    generalize (iOf a) % 6 = q at *
    k_extra "om"

theorem c_rgb (w : World) (r g b : UInt64) (tr tg tb : Tok) (news : Led) (hok : rgbOk r g b = true) : Cl w 1 21 [.float r tr, .float g tg, .float b tb] [] news (Gives3p news (rgbF r g b)) := by
  simp only [rgbOk, Bool.and_eq_true, Bool.not_eq_true'] at hok
  obtain ⟨⟨⟨hne, hz1⟩, hz2⟩, hz3⟩ := hok
  unfold Cl
  k_fill
  intro mean mg mb dp un gd cn cs a' ccd cl outer A₀ base h₀ L m s Q E B F X N T hk hd hu hret
  refine wpAny_call ?_
  k_dflt (refine' code_def ?k1 ?k2 ?k3 ?k4 ?k5 ?kA ?kF ?kK ?k6 ?k7 ?k8 ?k9 ?kB ?_ ?c2 ?c3 ?c4 ?c5; (case kA => exact rfl); (case kF => exact rfl); (case kK => assumption); (case k1 => k_asm); (case k2 => k_asm); (case k3 => k_asm); (case k4 => k_asm); (case k5 => k_asm); (case k6 => k_is); (case k7 => k_is); (case k8 => ktr_room); (case k9 => first | exact BindsTo.of_eq rfl | exact binds_K (by k_in) rfl (by k_is) rfl rfl rfl); (case c5 => decide); (case kB => exact locs rfl); (case c2 => exact rfl); (case c3 => exact rfl); (case c4 => exact rfl); k_whole; intro g' L' h' FG' F' N' B' X' T'; (try dsimp only); (try k_lift B'); (try k_fold))
  refine foldE ?_
  intro _ _
  repeat' (first | (k_unfold; (try dsimp only)) | (k_end; wrow_close) | k_extra "fold" | k_extra "u3" | k_extra "u2" | k_extra "u1" | walk1 | (dsimp only; (first | k_extra "fold" | k_extra "u3" | k_extra "u2" | k_extra "u1" | walk1)) | (leave1; walk_say "STEP leave1"; try dsimp only) | fail "no step")
  · rename News h₀ L _ _ => kN
    have e1 : hueOf r g b = Float64.sub (cOf r g b b) (cOf r g b g) := by unfold hueOf; rw [if_pos ‹fEq r (max3 r g b) = true›]
    have e : rgbF r g b = ((Float64.divmod (Float64.div (Float64.sub (cOf r g b b) (cOf r g b g)) 4618441417868443648) 4607182418800017408).snd, lOf r g b, Float64.div (ranOf r g b) (sumOf r g b)) := by unfold rgbF; rw [e1, if_pos ‹lowL (lOf r g b) = true›]
    exact hret _ _ _ _ _ _ (by assumption) (by rw [e]; exact kN) (by assumption) (by k_extra "om") (by k_extra "om") (by k_extra "om")
  · rename News h₀ L _ _ => kN
    have e1 : hueOf r g b = Float64.sub (Float64.add 4611686018427387904 (cOf r g b r)) (cOf r g b b) := by unfold hueOf; rw [if_neg (ff ‹fEq r (max3 r g b) = false›), if_pos ‹fEq g (max3 r g b) = true›]
    have e : rgbF r g b = ((Float64.divmod (Float64.div (Float64.sub (Float64.add 4611686018427387904 (cOf r g b r)) (cOf r g b b)) 4618441417868443648) 4607182418800017408).snd, lOf r g b, Float64.div (ranOf r g b) (sumOf r g b)) := by unfold rgbF; rw [e1, if_pos ‹lowL (lOf r g b) = true›]
    exact hret _ _ _ _ _ _ (by assumption) (by rw [e]; exact kN) (by assumption) (by k_extra "om") (by k_extra "om") (by k_extra "om")
  · rename News h₀ L _ _ => kN
    have e1 : hueOf r g b = Float64.sub (Float64.add 4616189618054758400 (cOf r g b g)) (cOf r g b r) := by unfold hueOf; rw [if_neg (ff ‹fEq r (max3 r g b) = false›), if_neg (ff ‹fEq g (max3 r g b) = false›)]
    have e : rgbF r g b = ((Float64.divmod (Float64.div (Float64.sub (Float64.add 4616189618054758400 (cOf r g b g)) (cOf r g b r)) 4618441417868443648) 4607182418800017408).snd, lOf r g b, Float64.div (ranOf r g b) (sumOf r g b)) := by unfold rgbF; rw [e1, if_pos ‹lowL (lOf r g b) = true›]
    exact hret _ _ _ _ _ _ (by assumption) (by rw [e]; exact kN) (by assumption) (by k_extra "om") (by k_extra "om") (by k_extra "om")
  · rename News h₀ L _ _ => kN
    have e1 : hueOf r g b = Float64.sub (cOf r g b b) (cOf r g b g) := by unfold hueOf; rw [if_pos ‹fEq r (max3 r g b) = true›]
    have e : rgbF r g b = ((Float64.divmod (Float64.div (Float64.sub (cOf r g b b) (cOf r g b g)) 4618441417868443648) 4607182418800017408).snd, lOf r g b, Float64.div (ranOf r g b) (Float64.sub (Float64.sub 4611686018427387904 (max3 r g b)) (min3 r g b))) := by unfold rgbF; rw [e1, if_neg (ff ‹lowL (lOf r g b) = false›)]
    exact hret _ _ _ _ _ _ (by assumption) (by rw [e]; exact kN) (by assumption) (by k_extra "om") (by k_extra "om") (by k_extra "om")
  · rename News h₀ L _ _ => kN
    have e1 : hueOf r g b = Float64.sub (Float64.add 4611686018427387904 (cOf r g b r)) (cOf r g b b) := by unfold hueOf; rw [if_neg (ff ‹fEq r (max3 r g b) = false›), if_pos ‹fEq g (max3 r g b) = true›]
    have e : rgbF r g b = ((Float64.divmod (Float64.div (Float64.sub (Float64.add 4611686018427387904 (cOf r g b r)) (cOf r g b b)) 4618441417868443648) 4607182418800017408).snd, lOf r g b, Float64.div (ranOf r g b) (Float64.sub (Float64.sub 4611686018427387904 (max3 r g b)) (min3 r g b))) := by unfold rgbF; rw [e1, if_neg (ff ‹lowL (lOf r g b) = false›)]
    exact hret _ _ _ _ _ _ (by assumption) (by rw [e]; exact kN) (by assumption) (by k_extra "om") (by k_extra "om") (by k_extra "om")
  · rename News h₀ L _ _ => kN
    have e1 : hueOf r g b = Float64.sub (Float64.add 4616189618054758400 (cOf r g b g)) (cOf r g b r) := by unfold hueOf; rw [if_neg (ff ‹fEq r (max3 r g b) = false›), if_neg (ff ‹fEq g (max3 r g b) = false›)]
    have e : rgbF r g b = ((Float64.divmod (Float64.div (Float64.sub (Float64.add 4616189618054758400 (cOf r g b g)) (cOf r g b r)) 4618441417868443648) 4607182418800017408).snd, lOf r g b, Float64.div (ranOf r g b) (Float64.sub (Float64.sub 4611686018427387904 (max3 r g b)) (min3 r g b))) := by unfold rgbF; rw [e1, if_neg (ff ‹lowL (lOf r g b) = false›)]
    exact hret _ _ _ _ _ _ (by assumption) (by rw [e]; exact kN) (by assumption) (by k_extra "om") (by k_extra "om") (by k_extra "om")

theorem c_told (w : World) (p sh v : Int) (tp ts tv : Tok) (news : Led) (hpre : 0 ≤ p ∧ p < 32 ∧ 1 ≤ sh ∧ sh ≤ 4 ∧ 1 ≤ v ∧ v ≤ 4) : Cl w 1 99 [.int p tp, .int sh ts, .int v tv] [] news (Gives3p news (toldF p sh v)) := by
  obtain ⟨hp0, hp1, hs0, hs1, hv0, hv1⟩ := hpre
  have hc : 32 - 8 * v + v * sh ≠ 0 := by
    have : 0 < 32 - 8 * v + v * sh := by
      have h1 : v * 1 ≤ v * sh := Int.mul_le_mul_of_nonneg_left hs0 (by k_extra "om")
      k_extra "om"
    k_extra "om"
  have hc2 : (8 : Int) - sh ≠ 0 := by k_extra "om"
  obtain ⟨i1, i2, i3⟩ := noInf_sv hs0 hs1 hv0 hv1
  have i0 := noInf_p hp0 hp1
  unfold frac at i0 i1 i2 i3
  unfold Cl
  k_fill
  intro mean mg mb dp un gd cn cs a' ccd cl outer A₀ base h₀ L m s Q E B F X N T hk hd hu hret
  refine wpAny_call ?_
  k_dflt (refine' code_def ?k1 ?k2 ?k3 ?k4 ?k5 ?kA ?kF ?kK ?k6 ?k7 ?k8 ?k9 ?kB ?_ ?c2 ?c3 ?c4 ?c5; (case kA => exact rfl); (case kF => exact rfl); (case kK => assumption); (case k1 => k_asm); (case k2 => k_asm); (case k3 => k_asm); (case k4 => k_asm); (case k5 => k_asm); (case k6 => k_is); (case k7 => k_is); (case k8 => ktr_room); (case k9 => first | exact BindsTo.of_eq rfl | exact binds_K (by k_in) rfl (by k_is) rfl rfl rfl); (case c5 => decide); (case kB => exact locs rfl); (case c2 => exact rfl); (case c3 => exact rfl); (case c4 => exact rfl); k_whole; intro g' L' h' FG' F' N' B' X' T'; (try dsimp only); (try k_lift B'); (try k_fold))
  refine foldE ?_
  intro _ _
  repeat' (first | (k_unfold; (try dsimp only)) | (k_end; wrow_close) | k_extra "fold" | k_extra "u3" | k_extra "u2" | k_extra "u1" | walk1 | (dsimp only; (first | k_extra "fold" | k_extra "u3" | k_extra "u2" | k_extra "u1" | walk1)) | (leave1; walk_say "STEP leave1"; try dsimp only) | fail "no step")
  · rename News h₀ L _ _ => kN
    have e : toldF p sh v = (frac p 32, frac (v * (8 - sh)) 32, frac sh (8 - sh)) := by unfold toldF; rw [if_pos (by assumption)]
    exact hret _ _ _ _ _ _ (by assumption) (by rw [e]; exact kN) (by assumption) (by k_extra "om") (by k_extra "om") (by k_extra "om")
  · rename News h₀ L _ _ => kN
    have e : toldF p sh v = (frac p 32, frac (v * (8 - sh)) 32, frac (v * sh) (32 - 8 * v + v * sh)) := by unfold toldF; rw [if_neg (by assumption)]
    exact hret _ _ _ _ _ _ (by assumption) (by rw [e]; exact kN) (by assumption) (by k_extra "om") (by k_extra "om") (by k_extra "om")

theorem c_build (w : World) (l : Addr) (x y : Str) (ta tb : Tok) (news : Led) (hpre : (l, tup2 (.str x ta) (.str y tb)) ∈ news) (hx : x.length ≤ 10) (hy : y.length ≤ 10) : Cl w 1 85 [.ref l] [] news (Gives news fun t => .str (x ++ Str.ofString "." ++ y) t) := by
  unfold Cl
  k_fill
  intro mean mg mb dp un gd cn cs a' ccd cl outer A₀ base h₀ L m s Q E B F X N T hk hd hu hret
  refine wpAny_call ?_
  k_dflt (refine' code_def ?k1 ?k2 ?k3 ?k4 ?k5 ?kA ?kF ?kK ?k6 ?k7 ?k8 ?k9 ?kB ?_ ?c2 ?c3 ?c4 ?c5; (case kA => exact rfl); (case kF => exact rfl); (case kK => assumption); (case k1 => k_asm); (case k2 => k_asm); (case k3 => k_asm); (case k4 => k_asm); (case k5 => k_asm); (case k6 => k_is); (case k7 => k_is); (case k8 => ktr_room); (case k9 => first | exact BindsTo.of_eq rfl | exact binds_K (by k_in) rfl (by k_is) rfl rfl rfl); (case c5 => decide); (case kB => exact locs rfl); (case c2 => exact rfl); (case c3 => exact rfl); (case c4 => exact rfl); k_whole; intro g' L' h' FG' F' N' B' X' T'; (try dsimp only); (try k_lift B'); (try k_fold))
  refine foldE ?_
  intro _ _
  repeat' (first | (k_unfold; (try dsimp only)) | (k_end; wrow_close) | k_extra "fold" | k_extra "u3" | k_extra "u2" | k_extra "u1" | walk1 | (dsimp only; (first | k_extra "fold" | k_extra "u3" | k_extra "u2" | k_extra "u1" | walk1)) | (leave1; walk_say "STEP leave1"; try dsimp only) | fail "no step")
  all_goals exact hret _ _ _ (by assumption) (by assumption)
theorem c_build1 (w : World) (l : Addr) (y : Str) (tb : Tok) (news : Led) (hpre : (l, tup2 .none (.str y tb)) ∈ news) (hy : y.length ≤ 10) : Cl w 1 85 [.ref l] [] news (Gives news fun t => .str (Str.ofString "C" ++ Str.ofString "." ++ y) t) := by
  unfold Cl
  k_fill
  intro mean mg mb dp un gd cn cs a' ccd cl outer A₀ base h₀ L m s Q E B F X N T hk hd hu hret
  refine wpAny_call ?_
  k_dflt (refine' code_def ?k1 ?k2 ?k3 ?k4 ?k5 ?kA ?kF ?kK ?k6 ?k7 ?k8 ?k9 ?kB ?_ ?c2 ?c3 ?c4 ?c5; (case kA => exact rfl); (case kF => exact rfl); (case kK => assumption); (case k1 => k_asm); (case k2 => k_asm); (case k3 => k_asm); (case k4 => k_asm); (case k5 => k_asm); (case k6 => k_is); (case k7 => k_is); (case k8 => ktr_room); (case k9 => first | exact BindsTo.of_eq rfl | exact binds_K (by k_in) rfl (by k_is) rfl rfl rfl); (case c5 => decide); (case kB => exact locs rfl); (case c2 => exact rfl); (case c3 => exact rfl); (case c4 => exact rfl); k_whole; intro g' L' h' FG' F' N' B' X' T'; (try dsimp only); (try k_lift B'); (try k_fold))
  refine foldE ?_
  intro _ _
  repeat' (first | (k_unfold; (try dsimp only)) | (k_end; wrow_close) | k_extra "fold" | k_extra "u3" | k_extra "u2" | k_extra "u1" | walk1 | (dsimp only; (first | k_extra "fold" | k_extra "u3" | k_extra "u2" | k_extra "u1" | walk1)) | (leave1; walk_say "STEP leave1"; try dsimp only) | fail "no step")
  all_goals exact hret _ _ _ (by assumption) (by assumption)
theorem c_build2 (w : World) (l : Addr) (x : Str) (ta : Tok) (news : Led) (hpre : (l, tup2 (.str x ta) .none) ∈ news) : Cl w 1 85 [.ref l] [] news (Gives news fun _ => .str x ta) := by
  unfold Cl
  k_fill
  intro mean mg mb dp un gd cn cs a' ccd cl outer A₀ base h₀ L m s Q E B F X N T hk hd hu hret
  refine wpAny_call ?_
  k_dflt (refine' code_def ?k1 ?k2 ?k3 ?k4 ?k5 ?kA ?kF ?kK ?k6 ?k7 ?k8 ?k9 ?kB ?_ ?c2 ?c3 ?c4 ?c5; (case kA => exact rfl); (case kF => exact rfl); (case kK => assumption); (case k1 => k_asm); (case k2 => k_asm); (case k3 => k_asm); (case k4 => k_asm); (case k5 => k_asm); (case k6 => k_is); (case k7 => k_is); (case k8 => ktr_room); (case k9 => first | exact BindsTo.of_eq rfl | exact binds_K (by k_in) rfl (by k_is) rfl rfl rfl); (case c5 => decide); (case kB => exact locs rfl); (case c2 => exact rfl); (case c3 => exact rfl); (case c4 => exact rfl); k_whole; intro g' L' h' FG' F' N' B' X' T'; (try dsimp only); (try k_lift B'); (try k_fold))
  refine foldE ?_
  intro _ _
  repeat' (first | (k_unfold; (try dsimp only)) | (k_end; wrow_close) | k_extra "fold" | k_extra "u3" | k_extra "u2" | k_extra "u1" | walk1 | (dsimp only; (first | k_extra "fold" | k_extra "u3" | k_extra "u2" | k_extra "u1" | walk1)) | (leave1; walk_say "STEP leave1"; try dsimp only) | fail "no step")
  all_goals exact hret 0 _ _ (by assumption) (by assumption)
theorem c_build3 (w : World) (l : Addr) (news : Led) (hpre : (l, tup2 .none .none) ∈ news) : Cl w 1 85 [.ref l] [] news (fun h₀ L m s Q => ∀ t, Gives news (fun _ => .str (Str.ofString "C") t) h₀ L m s Q) := by
  unfold Cl
  k_fill
  intro mean mg mb dp un gd cn cs a' ccd cl outer A₀ base h₀ L m s Q E B F X N T hk hd hu hret
  refine wpAny_call ?_
  k_dflt (refine' code_def ?k1 ?k2 ?k3 ?k4 ?k5 ?kA ?kF ?kK ?k6 ?k7 ?k8 ?k9 ?kB ?_ ?c2 ?c3 ?c4 ?c5; (case kA => exact rfl); (case kF => exact rfl); (case kK => assumption); (case k1 => k_asm); (case k2 => k_asm); (case k3 => k_asm); (case k4 => k_asm); (case k5 => k_asm); (case k6 => k_is); (case k7 => k_is); (case k8 => ktr_room); (case k9 => first | exact BindsTo.of_eq rfl | exact binds_K (by k_in) rfl (by k_is) rfl rfl rfl); (case c5 => decide); (case kB => exact locs rfl); (case c2 => exact rfl); (case c3 => exact rfl); (case c4 => exact rfl); k_whole; intro g' L' h' FG' F' N' B' X' T'; (try dsimp only); (try k_lift B'); (try k_fold))
  refine foldE ?_
  intro _ _
  repeat' (first | (k_unfold; (try dsimp only)) | (k_end; wrow_close) | k_extra "fold" | k_extra "u3" | k_extra "u2" | k_extra "u1" | walk1 | (dsimp only; (first | k_extra "fold" | k_extra "u3" | k_extra "u2" | k_extra "u1" | walk1)) | (leave1; walk_say "STEP leave1"; try dsimp only) | fail "no step")
  all_goals exact hret _ 0 _ _ (by assumption) (by assumption)
end Mine

/-! part Loop -/
open PySem PySem.W PyProof.Rows PySem.Spec PySem.Calls
set_option Elab.async false
set_option maxRecDepth 100000
set_option maxHeartbeats 4000000

namespace Mine
theorem reset_Loop : True := by
  w_top off
  trivial
section
variable {prog : Program} {w : World} {A : Around} {E : Value → Shared → Prop} {s : Shared} {env : Env} {h₀ : Heap} {x : Str} {body : List Stmt} {Q : Flow → Shared → Prop} {σ : Type}

def LedEnd (h₀ : Heap) (L : Addr) (need : σ → Led) (K : σ → (Str → Option Value) → Prop) (I : Addr) (oI : Obj) (s₁ s₂ : Shared) : Prop :=
  ∃ h' tk m' big z, s₂ = { s₁ with heap := h', toks := tk } ∧ Fr h₀ L h' m' ∧ News h₀ L h' big ∧ (I, oI) ∈ big ∧ (∀ p ∈ need z, p ∈ big) ∧ (∀ p ∈ need z, p.1 ≠ I) ∧ K z m'
def LedPost (h₀ : Heap) (L : Addr) (need : σ → Led) (K : σ → (Str → Option Value) → Prop) (I : Addr) (oI : Obj) (s₁ : Shared) (Q : Flow → Shared → Prop) (f : Flow) (s₂ : Shared) : Prop :=
  match f with
  | .ret v => Q (.ret v) s₂
  | .brk => Q .next s₂
  | _ => LedEnd h₀ L need K I oI s₁ s₂

theorem own_led {L : Addr} {I : Addr} {fp : List Addr} {h : Heap} {own : Led} {nd nd' big : Led} {h' : Heap} {oI : Obj} (hfp : ∀ b ∈ fp, b = I ∨ (∃ q, h₀.get? b = some q) ∨ ∃ q, (b, q) ∈ nd ∧ (b, q) ∈ nd')
    (hown : ∀ p ∈ own, p.1 ∈ fp) (hI : h.get? I = some oI) (N : News h₀ L h (own ++ nd)) (N' : News h₀ L h' big) (hio : (I, oI) ∈ big) (hn : ∀ p ∈ nd', p ∈ big) : News h₀ L h' (own ++ nd') := by
  intro p hp
  rcases List.mem_append.mp hp with hp | hp
  · have h1 := N p (List.mem_append_left _ hp)
    rcases hfp _ (hown p hp) with e | ⟨q, hq⟩ | ⟨q, hq, hq'⟩
    · have e2 : p.2 = oI := by rw [e, hI] at h1; exact (Option.some.inj h1.1).symm
      have : p = (I, oI) := Prod.ext e e2
      rw [this]; exact N' _ hio
    · rw [hq] at h1; exact absurd h1.2.2 (fun x => nomatch x)
    · have h2 := (N _ (List.mem_append_right _ hq)).1
      have e2 : p.2 = q := by
        have h3 : h.get? p.1 = some q := h2
        rw [h1.1] at h3; exact Option.some.inj h3
      have : p = (p.1, q) := Prod.ext rfl e2
      rw [this]; exact N' _ (hn _ hq')
  · exact N' _ (hn p hp)

theorem loop_led (need : σ → Led) (K : Nat → σ → (Str → Option Value) → Prop) (z₀ : σ) {I : Addr} {fp : List Addr} {n : Nat} {P : Nat → Value → Prop} {St : Nat → Heap → Prop} {m₀ : Str → Option Value}
    (W : Walks prog w A I fp [I] n P St) (hIf : I ∈ fp) (hI0 : h₀.get? I = none) (hob : ∀ i h, St i h → ∃ o, h.get? I = some o)
    (hfp : ∀ b ∈ fp, b = I ∨ (∃ q, h₀.get? b = some q) ∨ ∃ q, ∀ z, (b, q) ∈ need z) (hLf : env.locals ∉ fp) (hnw : ∀ p ∈ need z₀, p.1 ≠ I) (hst : St 0 s.heap)
    (F : Fr h₀ env.locals s.heap m₀) (N : News h₀ env.locals s.heap (need z₀)) (hK : K 0 z₀ m₀)
    (turn : ∀ i v z m₁ h tk oI, i < n → P i v → K i z m₁ → (∀ p ∈ need z, p.1 ≠ I) → Fr h₀ env.locals h (fun y => if y = x then some v else m₁ y) → News h₀ env.locals h ((I, oI) :: need z) →
      wpAny (model prog w) A (execs body env) (LedPost h₀ env.locals need (K (i + 1)) I oI { s with heap := h, toks := tk } Q) E { s with heap := h, toks := tk })
    (done : ∀ z m₁ h tk, K n z m₁ → Fr h₀ env.locals h m₁ → News h₀ env.locals h (need z) → Q .next { s with heap := h, toks := tk }) :
    LoopAtV prog w A h₀ env x body Q E (.ref I) s := by
  refine ⟨I, fp, [I], n, P, St, m₀, need z₀, (fun i m nw => ∃ z, nw = need z ∧ K i z m), rfl, W, hLf, ?_, ?_, hst, F, N, ⟨z₀, rfl, hK⟩, ?_, ?_⟩
  · intro b hb; rw [List.mem_singleton.mp hb]; exact hI0
  · intro p hp hI; exact hnw p hp (List.mem_singleton.mp hI)
  · rintro i v m₁ news₁ s₁ own ⟨hh', tk', rfl⟩ hin hP ⟨z, rfl, hKz⟩ hoff hown _ hall hst' F₁ N₁
    obtain ⟨o, ho⟩ := hob _ _ hst'
    have hio : (I, o) ∈ own := hall I hIf hI0 o ho
    have N₂ : News h₀ env.locals hh' ((I, o) :: need z) := by
      intro p hp
      rcases List.mem_cons.mp hp with rfl | hp
      · exact N₁ _ (List.mem_append_left _ hio)
      · exact N₁ _ (List.mem_append_right _ hp)
    refine wpAny_mono (turn i v z m₁ hh' tk' o hin hP hKz (fun p hp e => hoff p hp (by rw [e]; exact List.mem_singleton.mpr rfl)) F₁ N₂) (fun f s₂ p => ?_) fun _ _ e => e
    have fin : LedEnd h₀ env.locals need (K (i + 1)) I o { s with heap := hh', toks := tk' } s₂ → LoopStepU h₀ env.locals [I] own (fun m nw => ∃ z, nw = need z ∧ K (i + 1) z m) { s with heap := hh', toks := tk' } .next s₂ := by
      rintro ⟨h', tk, m', big, z', e, F', N', hb, hn, ha, hm⟩
      refine ⟨rfl, h', tk, m', need z', e, F', own_led (fun b hb => ?_) hown ho N₁ N' hb hn, fun p hp hI => ha p hp (List.mem_singleton.mp hI), z', rfl, hm⟩
      rcases hfp b hb with e | e | ⟨q, hq⟩
      · exact .inl e
      · exact .inr (.inl e)
      · exact .inr (.inr ⟨q, hq z, hq z'⟩)
    cases f with
    | ret v => exact .ret p
    | brk => exact .brk p
    | next => exact .next (fin p)
    | cont => exact .cont (fin p)
  · rintro h' tk m' news' F' N' _ ⟨z, rfl, hm⟩
    exact done z m' h' tk hm F' N'

/-- a loop over a list of the ledger -/
theorem iter_led (need : σ → Led) (K : Nat → σ → (Str → Option Value) → Prop) (z₀ : σ) {l : Addr} {vs : List Value} {nn : Nat} {m₀ : Str → Option Value} {news : Led}
    (hh : A.handled = none) (F : Fr h₀ env.locals s.heap m₀) (N : News h₀ env.locals s.heap news) (hnd : ∀ p ∈ need z₀, p ∈ news) (hl : ∀ z, (l, listOf vs.toArray nn) ∈ need z) (hK : K 0 z₀ m₀)
    (turn : ∀ I i v z m₁ h tk oI, vs[i]? = some v → K i z m₁ → (∀ p ∈ need z, p.1 ≠ I) → Fr h₀ env.locals h (fun y => if y = x then some v else m₁ y) → News h₀ env.locals h ((I, oI) :: need z) →
      wpAny (model prog w) A (execs body env) (LedPost h₀ env.locals need (K (i + 1)) I oI { s with heap := h, toks := tk } Q) E { s with heap := h, toks := tk })
    (done : ∀ z m₁ h tk, K vs.length z m₁ → Fr h₀ env.locals h m₁ → News h₀ env.locals h (need z) → Q .next { s with heap := h, toks := tk }) :
    wpAny (model prog w) A (pyIter (.ref l)) (fun it s₂ => LoopAtV prog w A h₀ env x body Q E it s₂) E s := by
  have hm := N _ (hnd _ (hl z₀))
  have hol : s.heap.get? l = some (listOf vs.toArray nn) := hm.1
  have hls : s.heap.IsList l vs.toArray := ⟨_, hol, rfl, nn, rfl⟩
  have hne : l ≠ s.heap.objs.size := Nat.ne_of_lt (Heap.lt_size hol)
  refine wpAny_pyIter_list hls ?_
  have W := Walks.list (prog := prog) (w := w) hh s.heap.objs.size l hne vs.toArray
  have hlen : vs.toArray.size = vs.length := by simp
  rw [hlen] at W
  refine loop_led need K z₀ W (List.mem_cons_self ..) (next_is_new F) ?_ ?_ ?_ ?_ ⟨⟨_, Heap.get?_push_size _ rfl, rfl, rfl⟩, hls.at fun o e => Heap.get?_push_of_some _ e⟩ (F.push _) (fun p hp => ⟨Heap.get?_push_of_some _ (N p (hnd p hp)).1, (N p (hnd p hp)).2⟩) hK ?_ ?_
  · rintro i h ⟨⟨o, ho, _⟩, _⟩; exact ⟨o, ho⟩
  · intro b hb
    rcases List.mem_cons.mp hb with e | hb
    · exact .inl e
    · rw [List.mem_singleton.mp hb]; exact .inr (.inr ⟨_, hl⟩)
  · intro h1
    rcases List.mem_cons.mp h1 with e | h1
    · exact absurd F.ns.lt (e ▸ Nat.lt_irrefl _)
    · exact hm.2.1 ((List.mem_singleton.mp h1).symm)
  · intro p hp hI
    exact absurd (Heap.lt_size (N p (hnd p hp)).1) (hI ▸ Nat.lt_irrefl _)
  · intro i v z m₁ h tk oI hi hP hKz hne F₁ N₁
    exact turn _ i v z m₁ h tk oI (by simpa using hP) hKz hne F₁ N₁
  · exact done

/-- a loop over a range by ones -/
theorem iter_rng (need : σ → Led) (K : Nat → σ → (Str → Option Value) → Prop) (z₀ : σ) {r : Addr} {a₀ b₀ : Int} {t₀ u₀ v₀ : Tok} {n : Nat} {m₀ : Str → Option Value} {news : Led}
    (hh : A.handled = none) (hr : IsRange s.heap r a₀ b₀ 1 t₀ u₀ v₀) (hsmall : Builtin.Range.small a₀ b₀ 1 = true) (hn : Builtin.Range.rangeSize a₀ b₀ 1 = (n : Int))
    (F : Fr h₀ env.locals s.heap m₀) (N : News h₀ env.locals s.heap news) (hnd : ∀ p ∈ need z₀, p ∈ news) (hK : K 0 z₀ m₀)
    (turn : ∀ I i t z m₁ h tk oI, i < n → K i z m₁ → (∀ p ∈ need z, p.1 ≠ I) → Fr h₀ env.locals h (fun y => if y = x then some (.int (a₀ + (i : Nat)) t) else m₁ y) → News h₀ env.locals h ((I, oI) :: need z) →
      wpAny (model prog w) A (execs body env) (LedPost h₀ env.locals need (K (i + 1)) I oI { s with heap := h, toks := tk } Q) E { s with heap := h, toks := tk })
    (done : ∀ z m₁ h tk, K n z m₁ → Fr h₀ env.locals h m₁ → News h₀ env.locals h (need z) → Q .next { s with heap := h, toks := tk }) :
    wpAny (model prog w) A (pyIter (.ref r)) (fun it s₂ => LoopAtV prog w A h₀ env x body Q E it s₂) E s := by
  refine wpAny_pyIter_range hr hsmall ?_
  have W := Walks.range (prog := prog) (w := w) hh s.heap.objs.size a₀ 1 n
  refine loop_led need K z₀ W (List.mem_singleton.mpr rfl) (next_is_new F) ?_ ?_ ?_ ?_ (by show IsRangeIter _ _ _ _ _; rw [hn]; simpa using Heap.get?_push_size _ rfl) (F.push _) (fun p hp => ⟨Heap.get?_push_of_some _ (N p (hnd p hp)).1, (N p (hnd p hp)).2⟩) hK ?_ ?_
  · intro i h st; exact ⟨_, st⟩
  · intro b hb; exact .inl (List.mem_singleton.mp hb)
  · intro h1; exact absurd F.ns.lt ((List.mem_singleton.mp h1) ▸ Nat.lt_irrefl _)
  · intro p hp hI
    exact absurd (Heap.lt_size (N p (hnd p hp)).1) (hI ▸ Nat.lt_irrefl _)
  · rintro i v z m₁ h tk oI hi ⟨t, rfl⟩ hKz hne F₁ N₁
    refine turn _ i t z m₁ h tk oI hi hKz hne ?_ N₁
    rw [show a₀ + (i : Int) = a₀ + (i : Int) * 1 from by rw [Int.mul_one]]
    exact F₁
  · exact done

/-- the names that a turn stores: some are told (carried), the others forgotten -/
noncomputable def frameM (carried : List (Str × Value)) (stored : List Str) (u m₀ : Str → Option Value) : Str → Option Value := fun y =>
  match carried.lookup y with
  | some v => some v
  | none => if stored.contains y = true then u y else m₀ y
noncomputable def Tells (m : Str → Option Value) : List (Str × Value) → Prop
  | [] => True
  | p :: r => m p.1 = some p.2 ∧ Tells m r
theorem Tells.look {m : Str → Option Value} : ∀ {l : List (Str × Value)}, Tells m l → ∀ {y : Str} {v : Value}, l.lookup y = some v → m y = some v
  | [], _, _, _, h => nomatch h
  | (n, w) :: r, ⟨h1, h2⟩, y, v, h => by
    rw [List.lookup_cons] at h
    by_cases e : (y == n) = true
    · rw [e] at h
      rw [eq_of_beq e, ← Option.some.inj h]; exact h1
    · rw [Bool.not_eq_true] at e
      rw [e] at h
      exact h2.look h
theorem frameM_self {m m₀ : Str → Option Value} {carried : List (Str × Value)} {stored : List Str} (h : Tells m carried) {y : Str} (ho : stored.contains y = false → m y = m₀ y) : m y = frameM carried stored m m₀ y := by
  unfold frameM
  split
  · rename_i v e; exact h.look e
  · split
    · rfl
    · rename_i hs; exact ho (by simpa using hs)
theorem frameM_out {u m₀ : Str → Option Value} {carried : List (Str × Value)} {stored : List Str} (hc : (carried.all fun p => stored.contains p.1) = true) {y : Str} (ho : stored.contains y = false) : frameM carried stored u m₀ y = m₀ y := by
  unfold frameM
  have h1 : carried.lookup y = none := by
    induction carried with
    | nil => rfl
    | cons p r ih =>
      obtain ⟨n, v⟩ := p
      simp only [List.all_cons, Bool.and_eq_true] at hc
      rw [List.lookup_cons]
      have : (y == n) = false := by
        cases e : (y == n) with
        | false => rfl
        | true => rw [eq_of_beq e] at ho; rw [ho] at hc; exact absurd hc.1 (by decide)
      rw [this]; exact ih hc.2
  rw [h1, ho]; rfl

theorem nc {stored : List Str} {y n : Str} (h : stored.contains y = false) (hn : stored.contains n = true) : y ≠ n := by
  rintro rfl
  rw [h] at hn
  cases hn
theorem sub_contains {stored stored2 : List Str} {y : Str} (hs : (stored2.all fun n => stored.contains n) = true) (h : stored.contains y = false) : stored2.contains y = false := by
  cases e : stored2.contains y with
  | false => rfl
  | true =>
    have := List.all_eq_true.mp hs y (by simpa using e)
    rw [h] at this; cases this
def EndS (h₀ : Heap) (L : Addr) (x : Str) (carried : σ → List (Str × Value)) (stored : List Str) (m₀ : Str → Option Value) (need : σ → Led) (K : σ → Prop) (I : Addr) (oI : Obj) (s₁ s₂ : Shared) : Prop :=
  ∃ h' tk m' big z, s₂ = { s₁ with heap := h', toks := tk } ∧ Fr h₀ L h' m' ∧ News h₀ L h' big ∧ (I, oI) ∈ big ∧ (∀ p ∈ need z, p ∈ big) ∧ (∀ p ∈ need z, p.1 ≠ I) ∧ Tells m' (carried z) ∧ (∀ y, y ≠ x → stored.contains y = false → m' y = m₀ y) ∧ K z
def PostS (h₀ : Heap) (L : Addr) (x : Str) (carried : σ → List (Str × Value)) (stored : List Str) (m₀ : Str → Option Value) (need : σ → Led) (K : σ → Prop) (I : Addr) (oI : Obj) (s₁ : Shared) (Q : Flow → Shared → Prop) (f : Flow) (s₂ : Shared) : Prop :=
  match f with
  | .ret v => Q (.ret v) s₂
  | .brk => Q .next s₂
  | _ => EndS h₀ L x carried stored m₀ need K I oI s₁ s₂

theorem post_led {L : Addr} {carried : σ → List (Str × Value)} {stored : List Str} {m₀ : Str → Option Value} {need : σ → Led} {K : σ → Prop} {I : Addr} {oI : Obj} {s₁ s₂ : Shared} {f : Flow}
    (h : PostS h₀ L x carried stored m₀ need K I oI s₁ Q f s₂) : LedPost h₀ L need (fun z m => (∀ y, y ≠ x → m y = frameM (carried z) stored m m₀ y) ∧ K z) I oI s₁ Q f s₂ := by
  have key : EndS h₀ L x carried stored m₀ need K I oI s₁ s₂ → LedEnd h₀ L need (fun z m => (∀ y, y ≠ x → m y = frameM (carried z) stored m m₀ y) ∧ K z) I oI s₁ s₂ := by
    rintro ⟨h', tk, m', big, z, e, F, N, h1, h2, h3, h4, h5, h6⟩
    exact ⟨h', tk, m', big, z, e, F, N, h1, h2, h3, fun y hy => frameM_self h4 (h5 y hy), h6⟩
  cases f with
  | ret v => exact h
  | brk => exact h
  | next => exact key h
  | cont => exact key h

theorem iter_ledS (carried : σ → List (Str × Value)) (stored : List Str) (need : σ → Led) (K : Nat → σ → Prop) (z₀ : σ) {l : Addr} {vs : List Value} {nn : Nat} {m₀ : Str → Option Value} {news : Led}
    (hh : A.handled = none) (F : Fr h₀ env.locals s.heap m₀) (N : News h₀ env.locals s.heap news) (hnd : ∀ p ∈ need z₀, p ∈ news) (hl : ∀ z, (l, listOf vs.toArray nn) ∈ need z) (hc : Tells m₀ (carried z₀)) (hK : K 0 z₀)
    (turn : ∀ I i v z u h tk oI, vs[i]? = some v → K i z → (∀ p ∈ need z, p.1 ≠ I) → Fr h₀ env.locals h (fun y => if y = x then some v else frameM (carried z) stored u m₀ y) → News h₀ env.locals h ((I, oI) :: need z) →
      wpAny (model prog w) A (execs body env) (PostS h₀ env.locals x carried stored m₀ need (K (i + 1)) I oI { s with heap := h, toks := tk } Q) E { s with heap := h, toks := tk })
    (done : ∀ z u h tk, K vs.length z → Fr h₀ env.locals h (fun y => if y = x then u y else frameM (carried z) stored u m₀ y) → News h₀ env.locals h (need z) → Q .next { s with heap := h, toks := tk }) :
    wpAny (model prog w) A (pyIter (.ref l)) (fun it s₂ => LoopAtV prog w A h₀ env x body Q E it s₂) E s := by
  refine iter_led need (fun i z m => (∀ y, y ≠ x → m y = frameM (carried z) stored m m₀ y) ∧ K i z) z₀ hh F N hnd hl ⟨fun y _ => frameM_self hc fun _ => rfl, hK⟩ ?_ ?_
  · intro I i v z m₁ h tk oI hv ⟨hm, hKz⟩ hne F₁ N₁
    have e : (fun y => if y = x then some v else m₁ y) = fun y => if y = x then some v else frameM (carried z) stored m₁ m₀ y := by
      funext y
      by_cases h1 : y = x
      · simp only [if_pos h1]
      · simp only [if_neg h1]; exact hm y h1
    rw [e] at F₁
    exact wpAny_mono (turn I i v z m₁ h tk oI hv hKz hne F₁ N₁) (fun f s₂ p => post_led p) fun _ _ e => e
  · intro z m₁ h tk ⟨hm, hKz⟩ F₁ N₁
    have e : m₁ = fun y => if y = x then m₁ y else frameM (carried z) stored m₁ m₀ y := by
      funext y
      by_cases h1 : y = x
      · simp only [if_pos h1]
      · simp only [if_neg h1]; exact hm y h1
    exact done z m₁ h tk hKz (by rw [← e]; exact F₁) N₁

theorem iter_rngS (carried : σ → List (Str × Value)) (stored : List Str) (need : σ → Led) (K : Nat → σ → Prop) (z₀ : σ) {r : Addr} {a₀ b₀ : Int} {t₀ u₀ v₀ : Tok} {n : Nat} {m₀ : Str → Option Value} {news : Led}
    (hh : A.handled = none) (hr : IsRange s.heap r a₀ b₀ 1 t₀ u₀ v₀) (hsmall : Builtin.Range.small a₀ b₀ 1 = true) (hn : Builtin.Range.rangeSize a₀ b₀ 1 = (n : Int))
    (F : Fr h₀ env.locals s.heap m₀) (N : News h₀ env.locals s.heap news) (hnd : ∀ p ∈ need z₀, p ∈ news) (hc : Tells m₀ (carried z₀)) (hK : K 0 z₀)
    (turn : ∀ I i t z u h tk oI, i < n → K i z → (∀ p ∈ need z, p.1 ≠ I) → Fr h₀ env.locals h (fun y => if y = x then some (.int (a₀ + (i : Nat)) t) else frameM (carried z) stored u m₀ y) → News h₀ env.locals h ((I, oI) :: need z) →
      wpAny (model prog w) A (execs body env) (PostS h₀ env.locals x carried stored m₀ need (K (i + 1)) I oI { s with heap := h, toks := tk } Q) E { s with heap := h, toks := tk })
    (done : ∀ z u h tk, K n z → Fr h₀ env.locals h (fun y => if y = x then u y else frameM (carried z) stored u m₀ y) → News h₀ env.locals h (need z) → Q .next { s with heap := h, toks := tk }) :
    wpAny (model prog w) A (pyIter (.ref r)) (fun it s₂ => LoopAtV prog w A h₀ env x body Q E it s₂) E s := by
  refine iter_rng need (fun i z m => (∀ y, y ≠ x → m y = frameM (carried z) stored m m₀ y) ∧ K i z) z₀ hh hr hsmall hn F N hnd ⟨fun y _ => frameM_self hc fun _ => rfl, hK⟩ ?_ ?_
  · intro I i t z m₁ h tk oI hv ⟨hm, hKz⟩ hne F₁ N₁
    have e : (fun y => if y = x then some (Value.int (a₀ + (i : Nat)) t) else m₁ y) = fun y => if y = x then some (Value.int (a₀ + (i : Nat)) t) else frameM (carried z) stored m₁ m₀ y := by
      funext y
      by_cases h1 : y = x
      · simp only [if_pos h1]
      · simp only [if_neg h1]; exact hm y h1
    rw [e] at F₁
    exact wpAny_mono (turn I i t z m₁ h tk oI hv hKz hne F₁ N₁) (fun f s₂ p => post_led p) fun _ _ e => e
  · intro z m₁ h tk ⟨hm, hKz⟩ F₁ N₁
    have e : m₁ = fun y => if y = x then m₁ y else frameM (carried z) stored m₁ m₀ y := by
      funext y
      by_cases h1 : y = x
      · simp only [if_pos h1]
      · simp only [if_neg h1]; exact hm y h1
    exact done z m₁ h tk hKz (by rw [← e]; exact F₁) N₁
theorem rng_small {a b : Int} (h1 : -1000 ≤ a) (h2 : a ≤ 1000) (h3 : -1000 ≤ b) (h4 : b ≤ 1000) : Builtin.Range.small a b 1 = true := by
  unfold Builtin.Range.small Builtin.Range.rangeFitsLong Builtin.Range.rangeSize
  simp
  (repeat' split) <;> omega
theorem rng_size {a b : Int} {n : Nat} (h : b = a + n) : Builtin.Range.rangeSize a b 1 = (n : Int) := by
  unfold Builtin.Range.rangeSize
  simp
  (repeat' split) <;> omega
end
end Mine

/-! part Comp2 -/
open PySem PySem.W PyProof.Rows PySem.Spec PySem.Calls
set_option Elab.async false
set_option maxRecDepth 100000
set_option maxHeartbeats 4000000

namespace Mine
theorem reset_Comp2 : True := by
  w_top off
  trivial
open PyProof.Rows.LCg
section
variable {prog : Program} {w : World} {A : Around} {E : Value → Shared → Prop} {s : Shared} {h₀ : Heap} {L : Addr} {m : Str → Option Value} {env : Env}

theorem compTurn_two1 (elt i1 i2 ct : Expr) (t1 t2 : Expr) (scope : Scope) (pos : Pos) (it acc : Value) (env : Env) :
    compTurn (.ListComp elt [⟨t1, i1, [], 0⟩, ⟨t2, i2, [ct], 0⟩] scope pos) 1 it acc env = (do
      standAt i2.pos
      match ← pyNext it with
      | none => pure (.done .next)
      | some v =>
        letOwnedTupleGo t2 it v
        assign t2 env v
        let mut ok := true
        for c in [ct] do
          if ok then ok ← isTrue c env (eval c env)
        if ok then
          (do let _ ← call (.builtin "list.append") [acc, ← eval elt env])
        again (.compLoop (.ListComp elt [⟨t1, i1, [], 0⟩, ⟨t2, i2, [ct], 0⟩] scope pos) 1 it acc env)) := by rfl

theorem compTurn_two0 (elt i1 i2 ct : Expr) (t1 t2 : Expr) (scope : Scope) (pos : Pos) (it acc : Value) (env : Env) :
    compTurn (.ListComp elt [⟨t1, i1, [], 0⟩, ⟨t2, i2, [ct], 0⟩] scope pos) 0 it acc env = (do
      standAt i1.pos
      match ← pyNext it with
      | none => pure (.done .next)
      | some v =>
        letOwnedTupleGo t1 it v
        assign t1 env v
        let x ← eval i2 env
        standAt i2.pos
        let x ← foldedSetIterable i2 env x
        let _ ← runOwn (.compStart (.ListComp elt [⟨t1, i1, [], 0⟩, ⟨t2, i2, [ct], 0⟩] scope pos) 1 (← holding [x] (pyIter x)) acc env) env
        again (.compLoop (.ListComp elt [⟨t1, i1, [], 0⟩, ⟨t2, i2, [ct], 0⟩] scope pos) 0 it acc env)) := by rfl

theorem compStart_two1 {R : Result → Shared → Prop} {elt i1 i2 ct : Expr} {t1 t2 : Expr} {scope : Scope} {pos : Pos} {it acc : Value} {env : Env}
    (h0 : codeAny (model prog w) A (.compLoop (.ListComp elt [⟨t1, i1, [], 0⟩, ⟨t2, i2, [ct], 0⟩] scope pos) 1 it acc env) R s)
    (h : ∀ E', wpAny (model prog w) A (pyIter it) (fun it' s' => codeAny (model prog w) A (.compLoop (.ListComp elt [⟨t1, i1, [], 0⟩, ⟨t2, i2, [ct], 0⟩] scope pos) 1 it' acc env) R s') E' s) :
    codeAny (model prog w) A (.compStart (.ListComp elt [⟨t1, i1, [], 0⟩, ⟨t2, i2, [ct], 0⟩] scope pos) 1 it acc env) R s := by
  refine codeAny_of_tree ?_
  show wpAny _ _ ((compStart (.ListComp elt [⟨t1, i1, [], 0⟩, ⟨t2, i2, [ct], 0⟩] scope pos) 1 it acc env).onRaise (fun x => do noteFrame x env; standAt theWindowsPlace)) _ _ s
  refine wpAny_notedAt ?_
  unfold compStart
  show wpAny _ _ (ask >>= _) _ _ s
  refine wpAny_bind (wpAny_askSetting (wpAny_ite ?_))
  split
  · first
      | exact wpAny_bind (wpAny_pure (wpAny_pure (And.intro rfl h0)))
      | exact wpAny_pure (And.intro rfl h0)
  · first
      | exact wpAny_bind (wpAny_rule (wpAny_bind (wpAny_standAt (wpAny_bind (wpAny_mono (h _) (fun it' s' h' => wpAny_pure (And.intro rfl h')) fun _ _ x => x)))))
      | (refine wpAny_bind (wpAny_rule ?_); show wpAny _ _ (standAt i2.pos >>= _) _ _ s; exact wpAny_bind (wpAny_standAt (wpAny_bind (wpAny_mono (h _) (fun it' s' h' => wpAny_pure (And.intro rfl h')) fun _ _ x => x))))

theorem news_swap {h h' : Heap} {a : Addr} {o' : Obj} {all all' : Led} (N : News h₀ L h all) (hk : ∀ b o, b ≠ a → h.get? b = some o → h'.get? b = some o) (ho : h'.get? a = some o') (ha : a ≠ L ∧ h₀.get? a = none)
    (hsub : ∀ p ∈ all', p = (a, o') ∨ (p ∈ all ∧ p.1 ≠ a)) : News h₀ L h' all' := by
  intro p hp
  rcases hsub p hp with rfl | ⟨h1, h2⟩
  · exact ⟨ho, ha⟩
  · exact ⟨hk _ _ h2 (N p h1).1, (N p h1).2⟩

/-- the comprehension's own objects stand apart -/
structure Ap4 (I1 I2 C D : Addr) (news : Led) : Prop where
  a : I2 ≠ I1
  b : I2 ≠ C
  c : I2 ≠ D
  d : I1 ≠ C
  e : I1 ≠ D
  f : C ≠ D
  n : ∀ p ∈ news, p.1 ≠ I1 ∧ p.1 ≠ I2 ∧ p.1 ≠ C ∧ p.1 ≠ D

noncomputable abbrev ex2 (elt i1 i2 ct : Expr) (x1 x2 : Str) (p1 p2 : Pos) (scope : Scope) (pos : Pos) : Expr := .ListComp elt [⟨.Name x1 p1, i1, [], 0⟩, ⟨.Name x2 p2, i2, [ct], 0⟩] scope pos

/-- a quiet step in the comprehension's block: the ledger stays -/
abbrev QuietT (prog : Program) (w : World) (A : Around) (h₀ : Heap) (L : Addr) (m : Str → Option Value) (s : Shared) (news : Led) {α : Type} (t : Addr → Sem α) (pre : (Str → Option Value) → Prop) (R : α → Prop) : Prop :=
  ∀ (C : Addr) (oC : Obj) (m₂ : Str → Option Value) (h : Heap) (tk : Nat) (all : Led) (Q' : α → Shared → Prop) (E' : Value → Shared → Prop), NsObj oC m₂ → pre m₂ → Fr h₀ L h m → News h₀ L h all → (C, oC) ∈ all → (∀ p ∈ news, p ∈ all) →
    (∀ a h' tk', R a → Fr h₀ L h' m → News h₀ L h' all → Q' a { s with heap := h', toks := tk' }) → wpAny (model prog w) A (t C) Q' E' { s with heap := h, toks := tk }

theorem take_fm {fs : List Int} {g : Int → Bool} {f : Int → Int} {j : Nat} {k : Int} (h : fs[j]? = some k) : ((fs.take (j + 1)).filter g).map f = ((fs.take j).filter g).map f ++ (if g k = true then [f k] else []) := by
  rw [List.take_add_one, h, List.filter_append, List.map_append]
  congr 1
  cases hg : g k <;> simp [hg]

theorem c2_inner {elt i1 i2 ct : Expr} {x1 x2 : Str} {p1 p2 : Pos} {scope : Scope} {cl : List (Str × Addr)} {pos : Pos} {I1 I2 C D fl : Addr} {oI1 : Obj} {fvs : List Value} {fn : Nat} {fs : List Int} {news : Led} {b : Int} {t1 : Tok} {pre : List Int} {R : Result → Shared → Prop}
    (g : Int → Int → Bool) (f : Int → Int → Int) (hh : A.handled = none) (hkind : scope.kind = .function) (hx2 : scope.names.lookup x2 = some .local) (hx12 : x1 ≠ x2) (ap : Ap4 I1 I2 C D news)
    (hfm : (fl, listOf fvs.toArray fn) ∈ news) (hfi : IntsAre fvs fs) (hpl : pre.length + fs.length ≤ 100000)
    (HT : ∀ k t2, QuietT prog w A h₀ L m s news (fun C => isTrue ct (compEnvC scope cl C env) (eval ct (compEnvC scope cl C env))) (fun m₂ => m₂ x1 = some (.int b t1) ∧ m₂ x2 = some (.int k t2)) (fun r => r = g b k))
    (HE : ∀ k t2, QuietT prog w A h₀ L m s news (fun C => eval elt (compEnvC scope cl C env)) (fun m₂ => m₂ x1 = some (.int b t1) ∧ m₂ x2 = some (.int k t2)) (fun r => ∃ t, r = .int (f b k) t))
    {ys : List Value} {oI2 oC : Obj} {mc : Str → Option Value} {h : Heap} {tk : Nat} (hys : IntsAre ys pre) (F : Fr h₀ L h m) (N : News h₀ L h ((I2, oI2) :: (I1, oI1) :: (C, oC) :: (D, lst ys) :: news)) (hoC : NsObj oC mc) (hm1 : mc x1 = some (.int b t1))
    (hst : h.IsListIter I2 fl 0 ∧ h.IsList fl fvs.toArray)
    (done : ∀ ys' oC' mc' h' tk', IntsAre ys' (pre ++ (fs.filter (g b)).map (f b)) → Fr h₀ L h' m → News h₀ L h' ((I1, oI1) :: (C, oC') :: (D, lst ys') :: news) → NsObj oC' mc' → R (.ok .next) { s with heap := h', toks := tk' }) :
    codeAny (model prog w) A (.compLoop (ex2 elt i1 i2 ct x1 x2 p1 p2 scope pos) 1 (.ref I2) (.ref D) (compEnvC scope cl C env)) R { s with heap := h, toks := tk } := by
  have hflI : fl ≠ I2 := (ap.n _ hfm).2.1
  have W := Walks.list (prog := prog) (w := w) hh I2 fl hflI fvs.toArray
  have hlen : fvs.toArray.size = fs.length := by simp [hfi.length]
  rw [hlen] at W
  have hIL : I2 ≠ L ∧ h₀.get? I2 = none := (N (I2, oI2) (.head _)).2
  have hCL : C ≠ L ∧ h₀.get? C = none := (N (C, oC) (.tail _ (.tail _ (.head _)))).2
  have hDL : D ≠ L ∧ h₀.get? D = none := (N (D, lst ys) (.tail _ (.tail _ (.tail _ (.head _))))).2
  refine codeAny_loop rfl (fun k s' => ∃ h' tk' j ys' oI2' oC' mc', s' = { s with heap := h', toks := tk' } ∧ j ≤ fs.length ∧ k = fs.length + 1 - j ∧ (h'.IsListIter I2 fl j ∧ h'.IsList fl fvs.toArray) ∧ Fr h₀ L h' m ∧
      News h₀ L h' ((I2, oI2') :: (I1, oI1) :: (C, oC') :: (D, lst ys') :: news) ∧ NsObj oC' mc' ∧ mc' x1 = some (.int b t1) ∧ IntsAre ys' (pre ++ ((fs.take j).filter (g b)).map (f b))) ?_ (fs.length + 1)
    ⟨h, tk, 0, ys, oI2, oC, mc, rfl, Nat.zero_le _, rfl, hst, F, N, hoC, hm1, by simpa using hys⟩
  rintro k s' ⟨h', tk', j, ys', oI2', oC', mc', rfl, hj, rfl, hst', F', N', hoC', hm1', hys'⟩
  show wpAny _ A ((compTurn (ex2 elt i1 i2 ct x1 x2 p1 p2 scope pos) 1 (.ref I2) (.ref D) (compEnvC scope cl C env)).onRaise (fun x => do noteFrame x (compEnvC scope cl C env); theTreesLotGoes x)) _ _ _
  refine wpAny_noted ?_
  rw [compTurn_two1]
  refine wpAny_bind (wpAny_standAt (wpAny_bind ?_))
  by_cases hlt : j < fs.length
  · refine W.item j _ _ _ hlt hst' fun v h₂ tk₂ hPv hst₂ hk₂ => ?_
    obtain ⟨kk, t2, rfl, hkk⟩ := IntsAre.at hfi j v (by simpa using hPv)
    refine wpAny_bind (wpAny_of_eq (by rfl) ?_)
    obtain ⟨oI3, heI3, _⟩ := id hst₂.1
    have N₂ : News h₀ L h₂ ((I2, oI3) :: (I1, oI1) :: (C, oC') :: (D, lst ys') :: news) := news_swap N' (fun b o hb e => hk₂ b o (by simpa using hb) e) heI3 hIL fun p hp => by
      rcases List.mem_cons.mp hp with rfl | hp
      · exact .inl rfl
      · refine .inr ⟨.tail _ hp, ?_⟩
        rcases List.mem_cons.mp hp with rfl | hp
        · exact Ne.symm ap.a
        · rcases List.mem_cons.mp hp with rfl | hp
          · exact Ne.symm ap.b
          · rcases List.mem_cons.mp hp with rfl | hp
            · exact Ne.symm ap.c
            · exact (ap.n p hp).2.1
    have F₂ : Fr h₀ L h₂ m := fr_but F' hk₂ (Ne.symm hIL.1) hIL.2
    refine wpAny_bind (wpAny_assign_Name (wpAny_storeName_local (lookup_relabel_local hx2) (hoC'.ns (N₂ (C, oC') (.tail _ (.tail _ (.head _)))).1) (fun h₃ hn₃ hs₃ => ?_) (by simp [compEnvC, relabel, hkind])))
    obtain ⟨oC3, heC3, hoC3⟩ := ns_obj hn₃
    have F₃ : Fr h₀ L h₃ m := F₂.change hs₃ hCL.1 hCL.2
    have N₃ : News h₀ L h₃ ((I2, oI3) :: (I1, oI1) :: (C, oC3) :: (D, lst ys') :: news) := news_swap N₂ (fun b o hb e => hs₃.extBut b o hb e) heC3 hCL fun p hp => by
      rcases List.mem_cons.mp hp with rfl | hp
      · exact .inr ⟨.head _, ap.b⟩
      · rcases List.mem_cons.mp hp with rfl | hp
        · exact .inr ⟨.tail _ (.head _), ap.d⟩
        · rcases List.mem_cons.mp hp with rfl | hp
          · exact .inl rfl
          · refine .inr ⟨.tail _ (.tail _ (.tail _ hp)), ?_⟩
            rcases List.mem_cons.mp hp with rfl | hp
            · exact Ne.symm ap.f
            · exact (ap.n p hp).2.2.1
    have hst₃ : h₃.IsListIter I2 fl (j + 1) ∧ h₃.IsList fl fvs.toArray := ⟨hst₂.1.at fun o e => hs₃.extBut _ _ ap.b e, hst₂.2.at fun o e => hs₃.extBut _ _ (ap.n _ hfm).2.2.1 e⟩
    have hq : (fun y => if y = x2 then some (Value.int kk t2) else mc' y) x1 = some (.int b t1) ∧ (fun y => if y = x2 then some (Value.int kk t2) else mc' y) x2 = some (.int kk t2) := ⟨by simp only [if_neg hx12]; exact hm1', by simp⟩
    have same : ∀ h₄, News h₀ L h₄ ((I2, oI3) :: (I1, oI1) :: (C, oC3) :: (D, lst ys') :: news) → h₄.IsListIter I2 fl (j + 1) ∧ h₄.IsList fl fvs.toArray := fun h₄ N₄ =>
      ⟨hst₃.1.at fun o e => by rw [(N₃ (I2, oI3) (.head _)).1] at e; rw [← e]; exact (N₄ (I2, oI3) (.head _)).1, ⟨_, (N₄ _ (.tail _ (.tail _ (.tail _ (.tail _ hfm))))).1, rfl, fn, rfl⟩⟩
    refine wpAny_bind (wpAny_tests_one (HT kk t2 C oC3 _ h₃ _ _ _ _ hoC3 hq F₃ N₃ (.tail _ (.tail _ (.head _))) (fun p hp => .tail _ (.tail _ (.tail _ (.tail _ hp)))) fun ok h₄ tk₄ hok F₄ N₄ => ?_))
    subst hok
    cases hg : g b kk with
    | false =>
      refine wpAny_pure ⟨rfl, fs.length + 1 - (j + 1), by omega, h₄, tk₄, j + 1, ys', oI3, oC3, _, rfl, hlt, rfl, same h₄ N₄, F₄, N₄, hoC3, hq.1, ?_⟩
      rw [take_fm hkk, hg]
      simpa using hys'
    | true =>
      refine wpAny_bind (wpAny_bind (HE kk t2 C oC3 _ h₄ _ _ _ _ hoC3 hq F₄ N₄ (.tail _ (.tail _ (.head _))) (fun p hp => .tail _ (.tail _ (.tail _ (.tail _ hp)))) fun x h₅ tk₅ hx F₅ N₅ => ?_))
      obtain ⟨t, rfl⟩ := hx
      have zD := (N₅ (D, lst ys') (.tail _ (.tail _ (.tail _ (.head _))))).1
      have hyl : ys'.length ≤ pre.length + fs.length := by
        rw [hys'.length, List.length_append, List.length_map]
        have := List.length_filter_le (g b) (fs.take j)
        have := List.length_take_le j fs
        omega
      refine wpAny_bind (append_at (hsz := by show ys'.toArray.size ≤ sizeLine; rw [List.size_toArray]; simp only [sizeLine]; omega) zD fun h₆ hs₆ hD₆ => ?_)
      refine wpAny_pure (wpAny_pure ⟨rfl, fs.length + 1 - (j + 1), by omega, h₆, tk₅, j + 1, ys' ++ [.int (f b kk) t], oI3, oC3, _, rfl, hlt, rfl, ?_, F₅.change hs₆ hDL.1 hDL.2, ?_, hoC3, hq.1, ?_⟩)
      · have z := same h₅ N₅
        exact ⟨z.1.at fun o e => hs₆.extBut _ _ ap.c e, z.2.at fun o e => hs₆.extBut _ _ (ap.n _ hfm).2.2.2 e⟩
      · refine news_swap N₅ (fun b o hb e => hs₆.extBut b o hb e) (hD₆.trans (congrArg some (lst_snoc ys' _))) hDL fun p hp => ?_
        rcases List.mem_cons.mp hp with rfl | hp
        · exact .inr ⟨.head _, ap.c⟩
        · rcases List.mem_cons.mp hp with rfl | hp
          · exact .inr ⟨.tail _ (.head _), ap.e⟩
          · rcases List.mem_cons.mp hp with rfl | hp
            · exact .inr ⟨.tail _ (.tail _ (.head _)), ap.f⟩
            · rcases List.mem_cons.mp hp with rfl | hp
              · exact .inl rfl
              · exact .inr ⟨.tail _ (.tail _ (.tail _ (.tail _ hp))), (ap.n p hp).2.2.2⟩
      · rw [take_fm hkk, hg, ← List.append_assoc]
        exact hys'.append (IntsAre.cons _ _ IntsAre.nil)
  · have hjn : j = fs.length := by omega
    subst hjn
    refine W.done _ _ _ hst' fun h₂ tk₂ hk₂ => wpAny_pure ?_
    rw [List.take_length] at hys'
    refine done ys' oC' mc' h₂ tk₂ hys' (fr_but F' hk₂ (Ne.symm hIL.1) hIL.2) (fun p hp => ⟨hk₂ _ _ ?_ (N' p (.tail _ hp)).1, (N' p (.tail _ hp)).2⟩) hoC'
    rcases List.mem_cons.mp hp with rfl | hp
    · simpa using Ne.symm ap.a
    · rcases List.mem_cons.mp hp with rfl | hp
      · simpa using Ne.symm ap.b
      · rcases List.mem_cons.mp hp with rfl | hp
        · simpa using Ne.symm ap.c
        · simpa using (ap.n p hp).2.1

theorem take_flat {α : Type} {ws : List Int} {G : Int → List α} {i : Nat} {k : Int} (h : ws[i]? = some k) : (ws.take (i + 1)).flatMap G = (ws.take i).flatMap G ++ G k := by
  rw [List.take_add_one, h, List.flatMap_append]; simp
theorem flat_len {ws fs : List Int} {g : Int → Int → Bool} {f : Int → Int → Int} : (ws.flatMap fun b => (fs.filter (g b)).map (f b)).length ≤ ws.length * fs.length := by
  induction ws with
  | nil => simp
  | cons b r ih =>
    rw [List.flatMap_cons, List.length_append, List.length_map, List.length_cons, Nat.add_mul, Nat.one_mul]
    have := List.length_filter_le (g b) fs
    omega

def OutInv (h₀ : Heap) (L : Addr) (m : Str → Option Value) (s : Shared) (news : Led) (I1 C D wa : Addr) (wvs : List Value) (ws fs : List Int) (g : Int → Int → Bool) (f : Int → Int → Int) (k : Nat) (s' : Shared) : Prop :=
  ∃ h' tk' j ys' oI1' oC' mc', s' = { s with heap := h', toks := tk' } ∧ j ≤ ws.length ∧ k = ws.length + 1 - j ∧ (h'.IsListIter I1 wa j ∧ h'.IsList wa wvs.toArray) ∧ Fr h₀ L h' m ∧
    News h₀ L h' ((I1, oI1') :: (C, oC') :: (D, lst ys') :: news) ∧ NsObj oC' mc' ∧ IntsAre ys' ((ws.take j).flatMap fun b => (fs.filter (g b)).map (f b))
def OutPost (R : Result → Shared → Prop) (c : Code) (I : Nat → Shared → Prop) (n : Nat) (fin : Fin) (s' : Shared) : Prop :=
  match fin with
  | .done f => R (.ok f) s'
  | .again c' => c' = c ∧ ∃ m, m < n ∧ I m s'
theorem c2_outer {elt i1 i2 ct : Expr} {x1 x2 : Str} {p1 p2 : Pos} {scope : Scope} {cl : List (Str × Addr)} {pos : Pos} {I1 C D wa fl : Addr} {wvs fvs : List Value} {wn fn : Nat} {ws fs : List Int} {news : Led} {R : Result → Shared → Prop}
    (g : Int → Int → Bool) (f : Int → Int → Int) (hh : A.handled = none) (hkind : scope.kind = .function) (hx1 : scope.names.lookup x1 = some .local) (hx2 : scope.names.lookup x2 = some .local) (hx12 : x1 ≠ x2)
    (hs2 : ∀ C x, foldedSetIterable i2 (compEnvC scope cl C env) x = pure x)
    (d1 : I1 ≠ C) (d2 : I1 ≠ D) (d3 : C ≠ D) (d4 : ∀ p ∈ news, p.1 ≠ I1 ∧ p.1 ≠ C ∧ p.1 ≠ D)
    (hwm : (wa, listOf wvs.toArray wn) ∈ news) (hwi : IntsAre wvs ws) (hfm : (fl, listOf fvs.toArray fn) ∈ news) (hfi : IntsAre fvs fs) (hpl : ws.length * fs.length + fs.length ≤ 100000)
    (H2 : QuietT prog w A h₀ L m s news (fun C => eval i2 (compEnvC scope cl C env)) (fun _ => True) (fun r => r = .ref fl))
    (HT : ∀ b t1 k t2, QuietT prog w A h₀ L m s news (fun C => isTrue ct (compEnvC scope cl C env) (eval ct (compEnvC scope cl C env))) (fun m₂ => m₂ x1 = some (.int b t1) ∧ m₂ x2 = some (.int k t2)) (fun r => r = g b k))
    (HE : ∀ b t1 k t2, QuietT prog w A h₀ L m s news (fun C => eval elt (compEnvC scope cl C env)) (fun m₂ => m₂ x1 = some (.int b t1) ∧ m₂ x2 = some (.int k t2)) (fun r => ∃ t, r = .int (f b k) t))
    {oI1 oC : Obj} {mc : Str → Option Value} {h : Heap} {tk : Nat} (F : Fr h₀ L h m) (N : News h₀ L h ((I1, oI1) :: (C, oC) :: (D, lst []) :: news)) (hoC : NsObj oC mc)
    (hst : h.IsListIter I1 wa 0 ∧ h.IsList wa wvs.toArray)
    (done : ∀ ys' oC' mc' h' tk', IntsAre ys' (ws.flatMap fun b => (fs.filter (g b)).map (f b)) → Fr h₀ L h' m → News h₀ L h' ((C, oC') :: (D, lst ys') :: news) → NsObj oC' mc' → R (.ok .next) { s with heap := h', toks := tk' }) :
    codeAny (model prog w) A (.compLoop (ex2 elt i1 i2 ct x1 x2 p1 p2 scope pos) 0 (.ref I1) (.ref D) (compEnvC scope cl C env)) R { s with heap := h, toks := tk } := by
  have hwaI : wa ≠ I1 := (d4 _ hwm).1
  have W := Walks.list (prog := prog) (w := w) hh I1 wa hwaI wvs.toArray
  have hlen : wvs.toArray.size = ws.length := by simp [hwi.length]
  rw [hlen] at W
  have hIL : I1 ≠ L ∧ h₀.get? I1 = none := (N (I1, oI1) (.head _)).2
  have hCL : C ≠ L ∧ h₀.get? C = none := (N (C, oC) (.tail _ (.head _))).2
  have hDL : D ≠ L ∧ h₀.get? D = none := (N (D, lst []) (.tail _ (.tail _ (.head _)))).2
  refine codeAny_loop rfl (OutInv h₀ L m s news I1 C D wa wvs ws fs g f) ?_ (ws.length + 1)
    ⟨h, tk, 0, [], oI1, oC, mc, rfl, Nat.zero_le _, rfl, hst, F, N, hoC, by simpa using IntsAre.nil⟩
  rintro k s' ⟨h', tk', j, ys', oI1', oC', mc', rfl, hj, rfl, hst', F', N', hoC', hys'⟩
  show wpAny _ A ((compTurn (ex2 elt i1 i2 ct x1 x2 p1 p2 scope pos) 0 (.ref I1) (.ref D) (compEnvC scope cl C env)).onRaise (fun x => do noteFrame x (compEnvC scope cl C env); theTreesLotGoes x)) _ _ _
  refine wpAny_noted ?_
  rw [compTurn_two0]
  refine wpAny_bind (wpAny_standAt (wpAny_bind ?_))
  by_cases hlt : j < ws.length
  · refine W.item j _ _ _ hlt hst' fun v h₂ tk₂ hPv hst₂ hk₂ => ?_
    obtain ⟨b, t1, rfl, hbb⟩ := IntsAre.at hwi j v (by simpa using hPv)
    refine wpAny_bind (wpAny_of_eq (by rfl) ?_)
    obtain ⟨oI3, heI3, _⟩ := id hst₂.1
    have N₂ : News h₀ L h₂ ((I1, oI3) :: (C, oC') :: (D, lst ys') :: news) := news_swap N' (fun b o hb e => hk₂ b o (by simpa using hb) e) heI3 hIL fun p hp => by
      rcases List.mem_cons.mp hp with rfl | hp
      · exact .inl rfl
      · refine .inr ⟨.tail _ hp, ?_⟩
        rcases List.mem_cons.mp hp with rfl | hp
        · exact Ne.symm d1
        · rcases List.mem_cons.mp hp with rfl | hp
          · exact Ne.symm d2
          · exact (d4 p hp).1
    have F₂ : Fr h₀ L h₂ m := fr_but F' hk₂ (Ne.symm hIL.1) hIL.2
    refine wpAny_bind (wpAny_assign_Name (wpAny_storeName_local (lookup_relabel_local hx1) (hoC'.ns (N₂ (C, oC') (.tail _ (.head _))).1) (fun h₃ hn₃ hs₃ => ?_) (by simp [compEnvC, relabel, hkind])))
    obtain ⟨oC3, heC3, hoC3⟩ := ns_obj hn₃
    have F₃ : Fr h₀ L h₃ m := F₂.change hs₃ hCL.1 hCL.2
    have N₃ : News h₀ L h₃ ((I1, oI3) :: (C, oC3) :: (D, lst ys') :: news) := news_swap N₂ (fun b o hb e => hs₃.extBut b o hb e) heC3 hCL fun p hp => by
      rcases List.mem_cons.mp hp with rfl | hp
      · exact .inr ⟨.head _, d1⟩
      · rcases List.mem_cons.mp hp with rfl | hp
        · exact .inl rfl
        · refine .inr ⟨.tail _ (.tail _ hp), ?_⟩
          rcases List.mem_cons.mp hp with rfl | hp
          · exact Ne.symm d3
          · exact (d4 p hp).2.1
    have hst₃ : h₃.IsListIter I1 wa (j + 1) ∧ h₃.IsList wa wvs.toArray := ⟨hst₂.1.at fun o e => hs₃.extBut _ _ d1 e, hst₂.2.at fun o e => hs₃.extBut _ _ (d4 _ hwm).2.1 e⟩
    refine wpAny_bind (H2 C oC3 _ h₃ _ _ _ _ hoC3 trivial F₃ N₃ (.tail _ (.head _)) (fun p hp => .tail _ (.tail _ (.tail _ hp))) fun xv h₄ tk₄ hxv F₄ N₄ => ?_)
    subst hxv
    refine wpAny_bind (wpAny_standAt (wpAny_bind (wpAny_of_eq (hs2 C _) (wpAny_bind (wpAny_holding ?_)))))
    have hfl : h₄.IsList fl fvs.toArray := ⟨_, (N₄ _ (.tail _ (.tail _ (.tail _ hfm)))).1, rfl, fn, rfl⟩
    refine wpAny_pyIter_list hfl (wpAny_bind (wpAny_runOwn ?_))
    have hlt4 : ∀ p ∈ (I1, oI3) :: (C, oC3) :: (D, lst ys') :: news, p.1 ≠ h₄.objs.size := fun p hp => Nat.ne_of_lt (Heap.lt_size (N₄ p hp).1)
    have ap : Ap4 I1 h₄.objs.size C D news := ⟨Ne.symm (hlt4 _ (.head _)), Ne.symm (hlt4 _ (.tail _ (.head _))), Ne.symm (hlt4 _ (.tail _ (.tail _ (.head _)))), d1, d2, d3, fun p hp => ⟨(d4 p hp).1, hlt4 p (.tail _ (.tail _ (.tail _ hp))), (d4 p hp).2⟩⟩
    have hst₅ : (h₄.push { cls := .type "list_iterator", data := .fields #[.ref fl, rawInt 0] }).IsListIter h₄.objs.size fl 0 := ⟨_, Heap.get?_push_size _ rfl, rfl, rfl⟩
    obtain ⟨oI5, heI5, _⟩ := id hst₅
    have F₅ : Fr h₀ L (h₄.push { cls := .type "list_iterator", data := .fields #[.ref fl, rawInt 0] }) m := F₄.push _
    have N₅ : News h₀ L (h₄.push { cls := .type "list_iterator", data := .fields #[.ref fl, rawInt 0] }) ((h₄.objs.size, oI5) :: (I1, oI3) :: (C, oC3) :: (D, lst ys') :: news) := by
      intro p hp
      rcases List.mem_cons.mp hp with rfl | hp
      · exact ⟨heI5, Nat.ne_of_gt F₄.ns.lt, next_is_new F₄⟩
      · exact ⟨Heap.get?_push_of_some _ (N₄ p hp).1, (N₄ p hp).2⟩
    have hyl : ys'.length ≤ ws.length * fs.length := by
      rw [hys'.length]
      refine Nat.le_trans flat_len ?_
      exact Nat.mul_le_mul_right _ (by rw [List.length_take]; omega)
    have inner : codeAny (model prog w) A (.compLoop (ex2 elt i1 i2 ct x1 x2 p1 p2 scope pos) 1 (.ref h₄.objs.size) (.ref D) (compEnvC scope cl C env))
        (fun r s' => match r with
          | .ok _ => OutPost R (.compLoop (ex2 elt i1 i2 ct x1 x2 p1 p2 scope pos) 0 (.ref I1) (.ref D) (compEnvC scope cl C env)) (OutInv h₀ L m s news I1 C D wa wvs ws fs g f) (ws.length + 1 - j) (.again (.compLoop (ex2 elt i1 i2 ct x1 x2 p1 p2 scope pos) 0 (.ref I1) (.ref D) (compEnvC scope cl C env))) s'
          | .error _ => False)
        { s with heap := h₄.push { cls := .type "list_iterator", data := .fields #[.ref fl, rawInt 0] }, toks := tk₄ } := by
      refine c2_inner g f hh hkind hx2 hx12 ap hfm hfi (b := b) (t1 := t1) (pre := (ws.take j).flatMap fun b => (fs.filter (g b)).map (f b)) (by rw [← hys'.length]; omega) (HT b t1) (HE b t1) hys' F₅ N₅ hoC3 (by simp) ⟨hst₅, hfl.at fun o e => Heap.get?_push_of_some _ e⟩ ?_
      intro ys6 oC6 mc6 h6 tk6 hys6 F6 N6 hoC6
      refine ⟨rfl, ws.length + 1 - (j + 1), by omega, h6, tk6, j + 1, ys6, oI3, oC6, mc6, rfl, hlt, rfl, ?_, F6, N6, hoC6, ?_⟩
      · exact ⟨hst₃.1.at fun o e => by rw [(N₃ (I1, oI3) (.head _)).1] at e; rw [← e]; exact (N6 (I1, oI3) (.head _)).1, ⟨_, (N6 _ (.tail _ (.tail _ (.tail _ hwm)))).1, rfl, wn, rfl⟩⟩
      · rw [take_flat hbb]; exact hys6
    refine compStart_two1 (codeAny_mono inner ?_) (fun E' => wpAny_pyIter_listiter hst₅ (codeAny_mono inner ?_))
    · intro r s' hr
      cases r with
      | ok fl => exact wpAny_pure hr
      | error e => exact hr.elim
    · intro r s' hr
      cases r with
      | ok fl => exact wpAny_pure hr
      | error e => exact hr.elim
  · have hjn : j = ws.length := by omega
    subst hjn
    refine W.done _ _ _ hst' fun h₂ tk₂ hk₂ => wpAny_pure ?_
    rw [List.take_length] at hys'
    refine done ys' oC' mc' h₂ tk₂ hys' (fr_but F' hk₂ (Ne.symm hIL.1) hIL.2) (fun p hp => ⟨hk₂ _ _ ?_ (N' p (.tail _ hp)).1, (N' p (.tail _ hp)).2⟩) hoC'
    rcases List.mem_cons.mp hp with rfl | hp
    · simpa using Ne.symm d1
    · rcases List.mem_cons.mp hp with rfl | hp
      · simpa using Ne.symm d2
      · simpa using (d4 p hp).1

theorem Assign_comp2 {elt i1 i2 ct : Expr} {x1 x2 y : Str} {p1 p2 py : Pos} {scope : Scope} {cl : List (Str × Addr)} {pos spos : Pos} {wa fl : Addr} {wvs fvs : List Value} {wn fn : Nat} {ws fs : List Int} {news : Led} {Q : Flow → Shared → Prop}
    (g : Int → Int → Bool) (f : Int → Int → Int) (hh : A.handled = none) (F₀ : Fr h₀ L s.heap m) (N₀ : News h₀ L s.heap news) (hLe : env.locals = L)
    (hsw : swapsWith (ex2 elt i1 i2 ct x1 x2 p1 p2 scope pos) (some (.Name y py)) spos.line env = pure true)
    (hclos : closureFor scope env = pure cl) (hcell : ∀ z ∈ scope.names, z.2 ≠ .cell) (hkind : scope.kind = .function)
    (hnames : ∀ z ∈ scope.names, z.2 = .local → scope.names.lookup z.1 = some .local) (hx1 : scope.names.lookup x1 = some .local) (hx2 : scope.names.lookup x2 = some .local) (hx12 : x1 ≠ x2)
    (hy : env.kindOf y = some .local) (hp : (env.scope.kind == .class || (env.scope.kind == .module && env.locals != env.globals)) = false)
    (hs1 : ∀ x, foldedSetIterable i1 env x = pure x) (hs2 : ∀ C x, foldedSetIterable i2 (compEnvC scope cl C env) x = pure x)
    (h1 : ∀ Q' : Value → Shared → Prop, Q' (.ref wa) s → wpAny (model prog w) A (eval i1 env) Q' E s)
    (hwm : (wa, listOf wvs.toArray wn) ∈ news) (hwi : IntsAre wvs ws) (hfm : (fl, listOf fvs.toArray fn) ∈ news) (hfi : IntsAre fvs fs) (hpl : ws.length * fs.length + fs.length ≤ 100000)
    (H2 : QuietT prog w A h₀ L m s news (fun C => eval i2 (compEnvC scope cl C env)) (fun _ => True) (fun r => r = .ref fl))
    (HT : ∀ b t1 k t2, QuietT prog w A h₀ L m s news (fun C => isTrue ct (compEnvC scope cl C env) (eval ct (compEnvC scope cl C env))) (fun m₂ => m₂ x1 = some (.int b t1) ∧ m₂ x2 = some (.int k t2)) (fun r => r = g b k))
    (HE : ∀ b t1 k t2, QuietT prog w A h₀ L m s news (fun C => eval elt (compEnvC scope cl C env)) (fun m₂ => m₂ x1 = some (.int b t1) ∧ m₂ x2 = some (.int k t2)) (fun r => ∃ t, r = .int (f b k) t))
    (fin : ∀ D ys h tk, Fr h₀ L h (fun z => if z = y then some (.ref D) else m z) → News h₀ L h ((D, lst ys) :: news) → (∀ p ∈ news, p.1 < D) → IntsAre ys (ws.flatMap fun b => (fs.filter (g b)).map (f b)) → Q .next { s with heap := h, toks := tk }) :
    wpAny (model prog w) A (exec (.Assign [.Name y py] (ex2 elt i1 i2 ct x1 x2 p1 p2 scope pos) spos) env) Q E s := by
  subst hLe
  rw [exec_Assign_Name_used _ _ _ _ hsw]
  refine wpAny_bind (wpAny_standAt (wpAny_bind ?_))
  show wpAny _ A (do let _ ← comprehension (ex2 elt i1 i2 ct x1 x2 p1 p2 scope pos) scope env _ (newList []) false (eval i1 env) (some (assign (.Name y py) env))) _ _ s
  refine wpAny_bind (wpAny_mono (wpAny_comprehension_free (use := some (assign (.Name y py) env)) (Q := fun _ s' => Q .next s') rfl hs1 hclos hkind hnames (h1 _ ?_)) (fun _ s' hq => wpAny_pure (wpAny_pure hq)) fun _ _ e => e)
  have hls : s.heap.IsList wa wvs.toArray := ⟨_, (N₀ _ hwm).1, rfl, wn, rfl⟩
  refine wpAny_pyIter_list hls ?_
  refine wpAny_newObj_type (wpAny_newFunctionEnv hcell (by intro y hy; simp at hy) (fun h₁ hns₁ hsb₁ => ?_) hkind)
  dsimp only at hns₁ hsb₁ ⊢
  generalize hH1 : s.heap.push { cls := .type "list_iterator", data := .fields #[.ref wa, Value.int 0 0] } = H1 at hns₁ hsb₁ ⊢
  generalize hH2 : H1.push { cls := .type "list", dict := none, data := .seq ([] : List Value).toArray } = H2' at hns₁ hsb₁ ⊢
  have z1 : H1.objs.size = s.heap.objs.size + 1 := by rw [← hH1, Heap.size_push]
  have z2 : H2'.objs.size = s.heap.objs.size + 2 := by rw [← hH2, Heap.size_push, z1]
  have lt0 : ∀ b o, s.heap.get? b = some o → b < s.heap.objs.size := fun b o e => Heap.lt_size e
  have old : ∀ b o, s.heap.get? b = some o → h₁.get? b = some o := fun b o e => by
    have hb : @LT.lt Nat _ b s.heap.objs.size := lt0 b o e
    refine hsb₁.extBut b o (by rw [z2]; exact Nat.ne_of_lt (by omega)) (Heap.get?_push_of_some _ ?_)
    rw [← hH2]
    refine Heap.get?_push_of_some _ ?_
    rw [← hH1]
    exact Heap.get?_push_of_some _ e
  have hLlt : env.locals < s.heap.objs.size := F₀.ns.lt
  have F₁ : Fr h₀ env.locals h₁ m := F₀.keeps old
  have fresh : ∀ a, s.heap.objs.size ≤ a → h₀.get? a = none := fun a ha => by
    cases e : h₀.get? a with
    | none => rfl
    | some o' => exact absurd (Nat.lt_of_lt_of_le (lt0 _ _ (F₀.keep a o' e)) ha) (Nat.lt_irrefl _)
  have eI : h₁.get? s.heap.objs.size = some { cls := .type "list_iterator", data := .fields #[.ref wa, Value.int 0 0] } := by
    refine hsb₁.extBut _ _ (by rw [z2]; exact Nat.ne_of_lt (by omega)) (Heap.get?_push_of_some _ ?_)
    rw [← hH2]
    refine Heap.get?_push_of_some _ ?_
    rw [← hH1]
    exact Heap.get?_push_size _ rfl
  have eD : h₁.get? H1.objs.size = some (lst []) := by
    refine hsb₁.extBut _ _ (by rw [z2, z1]; exact Nat.ne_of_lt (by omega)) (Heap.get?_push_of_some _ ?_)
    rw [← hH2]
    exact Heap.get?_push_size _ rfl
  obtain ⟨oC, heC, hoC⟩ := ns_obj hns₁
  have N₁ : News h₀ env.locals h₁ ((s.heap.objs.size, { cls := .type "list_iterator", data := .fields #[.ref wa, Value.int 0 0] }) :: (H2'.objs.size, oC) :: (H1.objs.size, lst []) :: news) := by
    intro p hp
    rcases List.mem_cons.mp hp with rfl | hp
    · exact ⟨eI, Nat.ne_of_gt hLlt, fresh _ (Nat.le_refl _)⟩
    · rcases List.mem_cons.mp hp with rfl | hp
      · exact ⟨heC, by show H2'.objs.size ≠ _; rw [z2]; exact Nat.ne_of_gt (Nat.lt_of_lt_of_le hLlt (by omega)), fresh _ (by show _ ≤ H2'.objs.size; rw [z2]; omega)⟩
      · rcases List.mem_cons.mp hp with rfl | hp
        · exact ⟨eD, by show H1.objs.size ≠ _; rw [z1]; exact Nat.ne_of_gt (Nat.lt_of_lt_of_le hLlt (by omega)), fresh _ (by show _ ≤ H1.objs.size; rw [z1]; omega)⟩
        · exact ⟨old _ _ (N₀ p hp).1, (N₀ p hp).2⟩
  have ltn : ∀ p ∈ news, p.1 < s.heap.objs.size := fun p hp => lt0 _ _ (N₀ p hp).1
  have hst : h₁.IsListIter s.heap.objs.size wa 0 := ⟨_, eI, rfl, rfl⟩
  have loop : codeAny (model prog w) A (.compLoop (ex2 elt i1 i2 ct x1 x2 p1 p2 scope pos) 0 (.ref s.heap.objs.size) (.ref H1.objs.size) (compEnvC scope cl H2'.objs.size env))
      (compPost (model prog w) A E (some (assign (.Name y py) env)) (fun _ s' => Q .next s') (.ref H1.objs.size) H2'.objs.size) { s with heap := h₁, toks := s.toks + ([] : List (Str × Value)).length } := by
    refine c2_outer g f hh hkind hx1 hx2 hx12 hs2 (by rw [z2]; exact Nat.ne_of_lt (by omega)) (by rw [z1]; exact Nat.ne_of_lt (by omega)) (by rw [z1, z2]; exact Nat.ne_of_gt (by omega)) (fun p hp => ?_) hwm hwi hfm hfi hpl H2 HT HE F₁ N₁ hoC ⟨hst, hls.at fun o e => old _ _ e⟩ ?_
    · have hlt : @LT.lt Nat _ p.1 s.heap.objs.size := ltn p hp
      refine ⟨Nat.ne_of_lt hlt, ?_, ?_⟩
      · rw [z2]; exact Nat.ne_of_lt (by omega)
      · rw [z1]; exact Nat.ne_of_lt (by omega)
    · intro ys oC' mc' h' tk' hys F' N' hoC'
      show wpAny _ A (assign (.Name y py) env (.ref H1.objs.size)) _ _ _
      have hCD : H2'.objs.size ≠ env.locals := (N' (H2'.objs.size, oC') (.head _)).2.1
      refine wpAny_assign_Name (wpAny_storeName_local hy F'.ns (fun h₂ hn₂ hs₂ => ?_) hp)
      refine ⟨mc', (hoC'.ns (N' (H2'.objs.size, oC') (.head _)).1).sameBut hs₂ hCD, fun h₃ hs₃ => ?_⟩
      have F₂ : Fr h₀ env.locals h₂ (fun z => if z = y then some (.ref H1.objs.size) else m z) := F'.set hn₂ hs₂
      have N₂ : News h₀ env.locals h₂ ((H1.objs.size, lst ys) :: news) := fun p hp => (N'.set hs₂) p (.tail _ hp)
      refine fin H1.objs.size ys h₃ _ (F₂.change hs₃ hCD (fresh _ (by rw [z2]; omega))) (fun p hp => ⟨hs₃.extBut _ _ ?_ (N₂ p hp).1, (N₂ p hp).2⟩) (fun p hp => ?_) hys
      · rcases List.mem_cons.mp hp with rfl | hp
        · show H1.objs.size ≠ H2'.objs.size; rw [z1, z2]; exact Nat.ne_of_lt (by omega)
        · have hlt : @LT.lt Nat _ p.1 s.heap.objs.size := ltn p hp
          rw [z2]; exact Nat.ne_of_lt (by omega)
      · have hlt : @LT.lt Nat _ p.1 s.heap.objs.size := ltn p hp
        rw [z1]; exact Nat.lt_of_lt_of_le hlt (by omega)
  exact codeAny_compStart_list loop (wpAny_pyIter_listiter hst loop)
end
end Mine

/-! part LoopT -/
open PySem PySem.W PyProof.Rows PySem.Spec PySem.Calls
set_option Elab.async false
set_option maxRecDepth 100000
set_option maxHeartbeats 4000000

namespace Mine
theorem reset_LoopT : True := by
  w_top off
  trivial
open PyProof.Rows.LCg PyProof.Rows.LCt PyProof.Rows.LCp
section
variable {prog : Program} {w : World} {A : Around} {E : Value → Shared → Prop} {s : Shared} {env : Env} {h₀ : Heap} {target : Expr} {body : List Stmt} {Q : Flow → Shared → Prop} {σ : Type}

def LedPostT (h₀ : Heap) (L : Addr) (need : σ → Led) (K : σ → (Str → Option Value) → Prop) (I : Addr) (oI : Obj) (s₁ : Shared) (f : Flow) (s₂ : Shared) : Prop := f = .next ∧ LedEnd h₀ L need K I oI s₁ s₂

theorem loop_ledT (need : σ → Led) (K : Nat → σ → (Str → Option Value) → Prop) (z₀ : σ) {I : Addr} {fp : List Addr} {n : Nat} {P : Nat → Value → Prop} {St : Nat → Heap → Prop} {m₀ : Str → Option Value}
    (W : Walks prog w A I fp [I] n P St) (hIf : I ∈ fp) (hI0 : h₀.get? I = none) (hob : ∀ i h, St i h → ∃ o, h.get? I = some o)
    (hfp : ∀ b ∈ fp, b = I ∨ (∃ q, h₀.get? b = some q) ∨ ∃ q, ∀ z, (b, q) ∈ need z) (hLf : env.locals ∉ fp) (hnw : ∀ p ∈ need z₀, p.1 ≠ I) (hst : St 0 s.heap)
    (hgo : ∀ i (s' : Shared) v (Q' : Unit → Shared → Prop), St i s'.heap → Q' () s' → wpAny (model prog w) A (letOwnedTupleGo target (.ref I) v) Q' E s')
    (F : Fr h₀ env.locals s.heap m₀) (N : News h₀ env.locals s.heap (need z₀)) (hK : K 0 z₀ m₀)
    (turn : ∀ i v z m₁ h g d tk os oI, i < n → P i v → K i z m₁ → (∀ p ∈ need z, p.1 ≠ I) → Fr h₀ env.locals h m₁ → News h₀ env.locals h ((I, oI) :: need z) →
      wpAny (model prog w) A (assign target env v) (fun _ s₃ => wpAny (model prog w) A (execs body env) (LedPostT h₀ env.locals need (K (i + 1)) I oI ⟨h, g, d, tk, os⟩) E s₃) E ⟨h, g, d, tk, os⟩)
    (done : ∀ z m₁ h tk, K n z m₁ → Fr h₀ env.locals h m₁ → News h₀ env.locals h (need z) → Q .next { s with heap := h, toks := tk }) :
    LoopAtT prog w A h₀ env target body Q E (.ref I) s := by
  refine ⟨I, fp, [I], n, P, St, m₀, need z₀, (fun i m nw => ∃ z, nw = need z ∧ K i z m), rfl, W, hLf, ?_, ?_, hst, F, N, hgo, ⟨z₀, rfl, hK⟩, ?_, ?_⟩
  · intro b hb; rw [List.mem_singleton.mp hb]; exact hI0
  · intro p hp hI; exact hnw p hp (List.mem_singleton.mp hI)
  · rintro i v m₁ news₁ ⟨hh', g', d', tk', os'⟩ own hin hP ⟨z, rfl, hKz⟩ hoff hown _ hall hst' F₁ N₁
    obtain ⟨o, ho⟩ := hob _ _ hst'
    have hio : (I, o) ∈ own := hall I hIf hI0 o ho
    have N₂ : News h₀ env.locals hh' ((I, o) :: need z) := by
      intro p hp
      rcases List.mem_cons.mp hp with rfl | hp
      · exact N₁ _ (List.mem_append_left _ hio)
      · exact N₁ _ (List.mem_append_right _ hp)
    refine wpAny_mono (turn i v z m₁ hh' g' d' tk' os' o hin hP hKz (fun p hp e => hoff p hp (by rw [e]; exact List.mem_singleton.mpr rfl)) F₁ N₂) (fun _ s₃ p3 => wpAny_mono p3 (fun f s₂ p => ?_) fun _ _ e => e) fun _ _ e => e
    obtain ⟨rfl, h', tk, m', big, z', e, F', N', hb, hn, ha, hm⟩ := p
    refine ⟨rfl, h', tk, m', need z', e, F', own_led (fun b hb => ?_) hown ho N₁ N' hb hn, fun p hp hI => ha p hp (List.mem_singleton.mp hI), z', rfl, hm⟩
    rcases hfp b hb with e | e | ⟨q, hq⟩
    · exact .inl e
    · exact .inr (.inl e)
    · exact .inr (.inr ⟨q, hq z, hq z'⟩)
  · rintro h' tk m' news' F' N' _ ⟨z, rfl, hm⟩
    exact done z m' h' tk hm F' N'

def EndT (h₀ : Heap) (L : Addr) (carried : σ → List (Str × Value)) (stored : List Str) (m₀ : Str → Option Value) (need : σ → Led) (K : σ → Prop) (I : Addr) (oI : Obj) (s₁ : Shared) (f : Flow) (s₂ : Shared) : Prop :=
  f = .next ∧ ∃ h' tk m' big z, s₂ = { s₁ with heap := h', toks := tk } ∧ Fr h₀ L h' m' ∧ News h₀ L h' big ∧ (I, oI) ∈ big ∧ (∀ p ∈ need z, p ∈ big) ∧ (∀ p ∈ need z, p.1 ≠ I) ∧ Tells m' (carried z) ∧ (∀ y, stored.contains y = false → m' y = m₀ y) ∧ K z
theorem endT_led {L : Addr} {carried : σ → List (Str × Value)} {stored : List Str} {m₀ : Str → Option Value} {need : σ → Led} {K : σ → Prop} {I : Addr} {oI : Obj} {s₁ s₂ : Shared} {f : Flow}
    (h : EndT h₀ L carried stored m₀ need K I oI s₁ f s₂) : LedPostT h₀ L need (fun z m => (∀ y, m y = frameM (carried z) stored m m₀ y) ∧ K z) I oI s₁ f s₂ := by
  obtain ⟨hf, h', tk, m', big, z, e, F, N, h1, h2, h3, h4, h5, h6⟩ := h
  exact ⟨hf, h', tk, m', big, z, e, F, N, h1, h2, h3, fun y => frameM_self h4 (h5 y), h6⟩

theorem iter_rngT (carried : σ → List (Str × Value)) (stored : List Str) (need : σ → Led) (K : Nat → σ → Prop) (z₀ : σ) {r : Addr} {a₀ b₀ : Int} {t₀ u₀ v₀ : Tok} {n : Nat} {m₀ : Str → Option Value} {news : Led}
    (hh : A.handled = none) (hr : IsRange s.heap r a₀ b₀ 1 t₀ u₀ v₀) (hsmall : Builtin.Range.small a₀ b₀ 1 = true) (hn : Builtin.Range.rangeSize a₀ b₀ 1 = (n : Int))
    (hgo : ∀ it v, letOwnedTupleGo target it v = pure ())
    (F : Fr h₀ env.locals s.heap m₀) (N : News h₀ env.locals s.heap news) (hnd : ∀ p ∈ need z₀, p ∈ news) (hc : Tells m₀ (carried z₀)) (hK : K 0 z₀)
    (turn : ∀ I i t z u h g d tk os oI, i < n → K i z → (∀ p ∈ need z, p.1 ≠ I) → Fr h₀ env.locals h (frameM (carried z) stored u m₀) → News h₀ env.locals h ((I, oI) :: need z) →
      wpAny (model prog w) A (assign target env (.int (a₀ + (i : Nat)) t)) (fun _ s₃ => wpAny (model prog w) A (execs body env) (EndT h₀ env.locals carried stored m₀ need (K (i + 1)) I oI ⟨h, g, d, tk, os⟩) E s₃) E ⟨h, g, d, tk, os⟩)
    (done : ∀ z u h tk, K n z → Fr h₀ env.locals h (frameM (carried z) stored u m₀) → News h₀ env.locals h (need z) → Q .next { s with heap := h, toks := tk }) :
    wpAny (model prog w) A (pyIter (.ref r)) (fun it s₂ => LoopAtT prog w A h₀ env target body Q E it s₂) E s := by
  refine wpAny_pyIter_range hr hsmall ?_
  have W := Walks.range (prog := prog) (w := w) hh s.heap.objs.size a₀ 1 n
  refine loop_ledT need (fun i z m => (∀ y, m y = frameM (carried z) stored m m₀ y) ∧ K i z) z₀ W (List.mem_singleton.mpr rfl) (next_is_new F) ?_ ?_ ?_ ?_ (by show IsRangeIter _ _ _ _ _; rw [hn]; simpa using Heap.get?_push_size _ rfl) (fun i s' v Q' _ hq => wpAny_of_eq (hgo _ v) hq) (F.push _) (fun p hp => ⟨Heap.get?_push_of_some _ (N p (hnd p hp)).1, (N p (hnd p hp)).2⟩) ⟨fun y => frameM_self hc fun _ => rfl, hK⟩ ?_ ?_
  · intro i h st; exact ⟨_, st⟩
  · intro b hb; exact .inl (List.mem_singleton.mp hb)
  · intro h1; exact absurd F.ns.lt ((List.mem_singleton.mp h1) ▸ Nat.lt_irrefl _)
  · intro p hp hI
    exact absurd (Heap.lt_size (N p (hnd p hp)).1) (hI ▸ Nat.lt_irrefl _)
  · rintro i v z m₁ h g d tk os oI hi ⟨t, rfl⟩ ⟨hm, hKz⟩ hne F₁ N₁
    have e : m₁ = frameM (carried z) stored m₁ m₀ := funext hm
    rw [e] at F₁
    have z1 := turn _ i t z m₁ h g d tk os oI hi hKz hne F₁ N₁
    rw [show a₀ + (i : Int) = a₀ + (i : Int) * 1 from by rw [Int.mul_one]] at z1
    exact wpAny_mono z1 (fun _ s₃ p3 => wpAny_mono p3 (fun f s₂ p => endT_led p) fun _ _ e => e) fun _ _ e => e
  · intro z m₁ h tk ⟨hm, hKz⟩ F₁ N₁
    have e : m₁ = frameM (carried z) stored m₁ m₀ := funext hm
    exact done z m₁ h tk hKz (by rw [← e]; exact F₁) N₁

end
section
variable {prog : Program} {w : World} {A : Around} {E : Value → Shared → Prop} {s : Shared} {h₀ : Heap} {L : Addr} {m : Str → Option Value} {env : Env}
theorem CompEnd.mono {s₁ s₂ : Shared} {I C D : Addr} {oI oC oD : Obj} {S : Led → Prop} {r r' : Value → Led → Prop} {y : Value} (h : CompEnd h₀ L m s₁ I oI C oC D oD S r y s₂) (hr : ∀ y n, r y n → r' y n) : CompEnd h₀ L m s₁ I oI C oC D oD S r' y s₂ := by
  obtain ⟨h', tk, nw, e, F, N, o, hS, h6⟩ := h
  exact ⟨h', tk, nw, e, F, N, o, hS, hr _ _ h6⟩
theorem compU {elt : Expr} {x : Str} {scope : Scope} {cl : List (Str × Addr)} {S : Led → Prop} {P : Nat → Value → Prop} {Fin : List Value → Led → Prop} {news : Led} (J : Nat → List Value → Led → Prop) {n : Nat} (hJ0 : J 0 [] news)
    (turn : ∀ i v ys nw I oI C oC D m₂ h tk (E' : Value → Shared → Prop), i < n → P i v → J i ys nw → NsObj oC m₂ → m₂ x = some v → Fr h₀ L h m → News h₀ L h ((I, oI) :: (C, oC) :: (D, lst ys) :: nw) → Off3 I C D nw → ((@Ne Nat I C) ∧ (@Ne Nat I D) ∧ (@Ne Nat C D)) →
      wpAny (model prog w) A (eval elt (compEnvC scope cl C env)) (CompEnd h₀ L m { s with heap := h, toks := tk } I oI C oC D (lst ys) S (fun y nw' => J (i + 1) (ys ++ [y]) nw')) E' { s with heap := h, toks := tk })
    (fin : ∀ ys nw, J n ys nw → Fin ys nw) : CompRest prog w A h₀ L m env elt x scope cl s S P Fin n 0 [] news := by
  have key : ∀ (k i : Nat) (ys : List Value) (nw : Led), i + k = n → J i ys nw → CompRest prog w A h₀ L m env elt x scope cl s S P Fin k i ys nw := by
    intro k
    induction k with
    | zero => intro i ys nw hi hJ; exact fin ys nw (by rw [← hi]; exact hJ)
    | succ k ih =>
      intro i ys nw hi hJ v I oI C oC D m₂ h tk E' hP hoC hx F N off ne
      exact wpAny_mono (turn i v ys nw I oI C oC D m₂ h tk E' (by omega) hP hJ hoC hx F N off ne) (fun y s₂ h₂ => CompEnd.mono h₂ fun y n hj => ih (i + 1) _ n (by omega) hj) fun _ _ e => e
  exact key n 0 [] news (by omega) hJ0
theorem compT {ct elt : Expr} {x : Str} {scope : Scope} {cl : List (Str × Addr)} {S : Led → Prop} {P : Nat → Value → Prop} {Fin : List Value → Led → Prop} {news : Led} (J : Nat → List Value → Led → Prop) {n : Nat} (hJ0 : J 0 [] news)
    (turn : ∀ i v ys nw I oI C oC D m₂ h tk (E' : Value → Shared → Prop), i < n → P i v → J i ys nw → NsObj oC m₂ → m₂ x = some v → Fr h₀ L h m → News h₀ L h ((I, oI) :: (C, oC) :: (D, lst ys) :: nw) → Off3 I C D nw → ((@Ne Nat I C) ∧ (@Ne Nat I D) ∧ (@Ne Nat C D)) →
      wpAny (model prog w) A (isTrue ct (compEnvC scope cl C env) (eval ct (compEnvC scope cl C env))) (fun ok s' => if ok = true then
        wpAny (model prog w) A (eval elt (compEnvC scope cl C env)) (CompEnd h₀ L m { s with heap := h, toks := tk } I oI C oC D (lst ys) S (fun y nw' => J (i + 1) (ys ++ [y]) nw')) E' s'
        else CompEnd h₀ L m { s with heap := h, toks := tk } I oI C oC D (lst ys) S (fun _ nw' => J (i + 1) ys nw') Value.none s') E' { s with heap := h, toks := tk })
    (fin : ∀ ys nw, J n ys nw → Fin ys nw) : CompRestT prog w A h₀ L m env ct elt x scope cl s S P Fin n 0 [] news := by
  have key : ∀ (k i : Nat) (ys : List Value) (nw : Led), i + k = n → J i ys nw → CompRestT prog w A h₀ L m env ct elt x scope cl s S P Fin k i ys nw := by
    intro k
    induction k with
    | zero => intro i ys nw hi hJ; exact fin ys nw (by rw [← hi]; exact hJ)
    | succ k ih =>
      intro i ys nw hi hJ v I oI C oC D m₂ h tk E' hP hoC hx F N off ne
      refine wpAny_mono (turn i v ys nw I oI C oC D m₂ h tk E' (by omega) hP hJ hoC hx F N off ne) (fun ok s₂ h₂ => ?_) fun _ _ e => e
      cases ok with
      | true =>
        simp only [if_true] at h₂ ⊢
        exact wpAny_mono h₂ (fun y s₃ h₃ => CompEnd.mono h₃ fun y n hj => ih (i + 1) _ n (by omega) hj) fun _ _ e => e
      | false =>
        simp only [Bool.false_eq_true, if_false] at h₂ ⊢
        exact CompEnd.mono h₂ fun y n hj => ih (i + 1) _ n (by omega) hj
  exact key n 0 [] news (by omega) hJ0

theorem comp_name {x : Str} {C : Addr} {oC : Obj} {m₂ : Str → Option Value} {scope : Scope} {cl : List (Str × Addr)} {pe : Pos} {v : Value} {h : Heap} {g : Array GenState} {d : Drawn} {tk : Nat} {o : OsState} {Q' : Value → Shared → Prop} {all : Led} (hoC : NsObj oC m₂) (hx : m₂ x = some v) (N : News h₀ L h all) (hC : (C, oC) ∈ all)
    (hkind : scope.kind = .function) (hl : scope.names.lookup x = some .local) (hd : (x == ("__debug__" : Str)) = false) (hq : Q' v ⟨h, g, d, tk, o⟩) : wpAny (model prog w) A (eval (.Name x pe) (compEnvC scope cl C env)) Q' E ⟨h, g, d, tk, o⟩ :=
  wpAny_Name (wpAny_loadName_local (by simp [compEnvC, relabel, hkind]) (lookup_relabel_local hl) (hoC.ns (N _ hC).1) hx hq) hd

theorem Assign_filter {ct iter : Expr} {x y : Str} {px py pe : Pos} {scope : Scope} {cl : List (Str × Addr)} {pos spos : Pos} {Q : Flow → Shared → Prop} {ra : Addr} {rv : List Value} {rn : Nat} {rs : List Int} {news : Led} (g : Int → Bool) (hh : A.handled = none) (F₀ : Fr h₀ L s.heap m) (N₀ : News h₀ L s.heap news) (hLe : env.locals = L)
    (hsw : swapsWith (.ListComp (.Name x pe) [⟨.Name x px, iter, [ct], 0⟩] scope pos) (some (.Name y py)) spos.line env = pure true)
    (hclos : closureFor scope env = pure cl) (hcell : ∀ z ∈ scope.names, z.2 ≠ .cell) (hkind : scope.kind = .function)
    (hnames : ∀ z ∈ scope.names, z.2 = .local → scope.names.lookup z.1 = some .local) (hx : scope.names.lookup x = some .local) (hxd : (x == ("__debug__" : Str)) = false)
    (hy : env.kindOf y = some .local) (hp : (env.scope.kind == .class || (env.scope.kind == .module && env.locals != env.globals)) = false)
    (hs : ∀ x, foldedSetIterable iter env x = pure x)
    (h1 : ∀ Q' : Value → Shared → Prop, Q' (.ref ra) s → wpAny (model prog w) A (eval iter env) Q' E s)
    (hrm : (ra, listOf rv.toArray rn) ∈ news) (hri : IntsAre rv rs) (hpl : rs.length ≤ 1000)
    (HT : ∀ k t1, QuietT prog w A h₀ L m s news (fun C => isTrue ct (compEnvC scope cl C env) (eval ct (compEnvC scope cl C env))) (fun m₂ => m₂ x = some (.int k t1)) (fun r => r = g k))
    (fin : ∀ D ys h tk, Fr h₀ L h (fun z => if z = y then some (.ref D) else m z) → News h₀ L h ((D, lst ys) :: news) → Off1 D news → IntsAre ys (rs.filter g) → Q .next { s with heap := h, toks := tk }) :
    wpAny (model prog w) A (exec (.Assign [.Name y py] (.ListComp (.Name x pe) [⟨.Name x px, iter, [ct], 0⟩] scope pos) spos) env) Q E s := by
  refine Assign_ListComp_T F₀ hLe hsw hclos hcell hkind hnames hx hy hp (h1 _ ?_) hs
  have hlen := hri.length
  refine CompSrcT.ledger hh F₀ N₀ hrm (by rw [List.size_toArray]; simp only [sizeLine]; omega) fun g' => ?_
  refine compT (fun i ys nw => nw = news ∧ IntsAre ys ((rs.take i).filter g)) ⟨rfl, by simpa using IntsAre.nil⟩ ?_ ?_
  · rintro i v ys nw I oI C oC D m₂ h tk E' hi hP ⟨rfl, hys⟩ hoC hxv F N off ne
    obtain ⟨k, t, rfl, hk⟩ := IntsAre.at hri i v (by simpa using hP)
    refine HT k t C oC m₂ h tk _ _ _ hoC hxv F N (.tail _ (.head _)) (fun p hp => .tail _ (.tail _ (.tail _ hp))) fun r h' tk' hr F' N' => ?_
    have htk : (rs.take (i + 1)).filter g = (rs.take i).filter g ++ (if g k = true then [k] else []) := take_succ_filter g rs i k hk
    subst hr
    cases hg : g k with
    | true =>
      rw [if_pos rfl]
      refine comp_name hoC hxv N' (.tail _ (.head _)) hkind hx hxd ?_
      refine CompEnd.intro F' N' nw (fun p hp => hp) off (.inr ⟨_, hrm, rfl, _, rfl⟩) ⟨rfl, ?_⟩
      rw [htk, hg]
      exact hys.append (IntsAre.cons _ _ IntsAre.nil)
    | false =>
      rw [if_neg (by decide)]
      refine CompEnd.intro F' N' nw (fun p hp => hp) off (.inr ⟨_, hrm, rfl, _, rfl⟩) ⟨rfl, ?_⟩
      rw [htk, hg]
      simpa using hys
  · rintro ys nw ⟨rfl, hys⟩ D h tk F N off
    have e : (rs.take rv.toArray.size) = rs := List.take_of_length_le (by rw [List.size_toArray]; omega)
    rw [e] at hys
    exact fin D ys h tk F N off hys
end
end Mine

/-! part Step -/
open PySem PySem.W PyProof.Rows PySem.Spec PySem.Calls
set_option Elab.async false
set_option maxRecDepth 100000
set_option maxHeartbeats 4000000

namespace Mine
theorem reset_Step : True := by
  w_top off
  trivial
open PyProof.Rows.LCg PyProof.Rows.LCt PyProof.Rows.LCp
theorem words_Step : True := by
  k_with_none
  k_with "om" => (first | (with_reducible first | assumption | exact Int.natCast_nonneg _ | exact Nat.le_trans (by assumption) (by decide) | exact Nat.lt_of_le_of_lt (by assumption) (by decide) | exact lt_lit (by assumption) (by decide) | exact le_lit (by assumption) (by decide) | exact le_flip (by assumption) (by decide) | exact lt_lit0 (by assumption) (by decide) | exact nn0) | decide | omega)
  trivial
section
variable {prog : Program} {w : World} {A : Around} {E : Value → Shared → Prop} {s : Shared} {h₀ : Heap} {L : Addr} {m : Str → Option Value} {news : Led}
theorem my_index {l : Addr} {vs : List Value} {nn : Nat} {ns : List Int} {k : Int} {t : Tok} {Q : Value → Shared → Prop} (N : News h₀ L s.heap news) (hm : (l, listOf vs.toArray nn) ∈ news) (hi : IntsAre vs ns)
    (hb : ns.length ≤ 1000) (hk : k ∈ ns) (h : Q (.int (ns.idxOf k : Nat) s.toks) { s with toks := s.toks + 1 }) :
    wpAny (model prog w) A (call (.builtin "list.index") [.ref l, .int k t]) Q E s := by
  have hj : ns.idxOf k < ns.length := List.idxOf_lt_length_iff.mpr hk
  have hlen := hi.length
  have at_ : ∀ (j : Nat) (h1 : j < vs.length) (h2 : j < ns.length), isInt k vs[j] = decide (ns[j] = k) := fun j h1 h2 => isInt_at k hi j h1 h2
  have hit : isInt k (vs.toArray[ns.idxOf k]'(by simpa [hlen] using hj)) = true := by
    show isInt k vs[ns.idxOf k] = true
    rw [at_ _ (by k_extra "om") hj, List.getElem_idxOf hj]; simp
  have hno : ∀ (j : Nat) (hm : j < vs.toArray.size), j < ns.idxOf k → isInt k vs.toArray[j] = false := by
    intro j hjs hlt
    show isInt k vs[j] = false
    rw [at_ j (by simpa using hjs) (by k_extra "om")]
    exact decide_eq_false fun e => by simpa [e] using ne_of_lt_idxOf hlt (by k_extra "om")
  exact call_meets PySem.F.slot_list_index ⟨_, (N _ hm).1, rfl⟩ PySem.F.entry_list_index (PySem.F.args_list_index_2 _ _)
    (PySem.SeqAt.list_indexAt l vs.toArray nn none #[] (.int k t) (isInt k) (ns.idxOf k) (by simpa [hlen] using hj) (by k_extra "om") hit hno) ⟨(N _ hm).1, fun y hy => (eq_isInt k t hi y (by simpa using hy)).at _ _, h⟩

theorem my_itemNeg {value slice : Expr} {l : Addr} {vs : List Value} {k : Int} {u : Tok} {x : Value} {Q : Value → Shared → Prop} (hl : s.heap.IsList l vs.toArray) (h0 : k < 0) (h1 : 0 ≤ k + vs.length) (hb : vs.length ≤ 1000)
    (hx : vs[(k + vs.length).toNat]? = some x) (h : Q x s)
    (hs : subscripted slice false (.ref l) (.int k u) = operate [.ref l, .int k u] (getItem (.ref l) (.int k u)) := by with_unfolding_all rfl) :
    wpAny (model prog w) A (subscriptTail value slice (.ref l) (.int k u)) Q E s :=
  tail_any hl.typeIs slot_list_getitem.lookup (wpAny_getItem_list_neg hl h0 (by rw [List.size_toArray]; k_extra "om") (by k_extra "om") (by simpa using hx) h) hs

theorem my_append {D : Addr} {li : List Value} {n : Nat} {x : Value} {Q : Value → Shared → Prop} (F : Fr h₀ L s.heap m) (N : News h₀ L s.heap news) (hm : (D, listOf li.toArray n) ∈ news) (hz : li.length ≤ 1000)
    (h : ∀ h', Fr h₀ L h' m → News h₀ L h' (ledSet news D (listOf (li ++ [x]).toArray (n + 1))) → Q .none { s with heap := h' }) : wpAny (model prog w) A (call (.builtin "list.append") [.ref D, x]) Q E s := by
  refine append_K F (ledSet_up N hm) ledSet_upd (fun h' F' N' => h h' F' ?_) (by rw [List.size_toArray]; simp only [sizeLine]; k_extra "om")
  rw [List.push_toArray] at N'
  exact N'

theorem my_appendI {D : Addr} {li : List Value} {n : Nat} {k : Int} {t : Tok} {Q : Value → Shared → Prop} (F : Fr h₀ L s.heap m) (N : News h₀ L s.heap news) (hm : (D, listOf li.toArray n) ∈ news) (hz : li.length ≤ 1000)
    (h : ∀ t' h', Fr h₀ L h' m → News h₀ L h' (ledSet news D (listOf (li ++ [Value.int k t']).toArray (n + 1))) → Q .none { s with heap := h' }) : wpAny (model prog w) A (call (.builtin "list.append") [.ref D, .int k t]) Q E s :=
  my_append F N hm hz (h t)
theorem Off1.mem {D : Addr} : ∀ {l : Led}, Off1 D l → ∀ p ∈ l, p.1 ≠ D
  | [], _, _, h => nomatch h
  | q :: r, ⟨h1, h2⟩, p, h => by
    rcases List.mem_cons.mp h with rfl | h
    · exact h1
    · exact Off1.mem h2 p h
/-- two entries of the ledger at one place are one -/
theorem led_same {h : Heap} {a : Addr} {o o' : Obj} (N : News h₀ L h news) (h1 : (a, o) ∈ news) (h2 : (a, o') ∈ news) : o = o' :=
  Option.some.inj ((N _ h1).1.symm.trans (N _ h2).1)
theorem cut_at : ∀ {li : List Value} {r : Nat} {y : Value}, li[r]? = some y → kl_cut li r = some (li.take r, y, li.drop (r + 1))
  | [], r, y, h => by simp at h
  | x :: l, 0, y, h => by simp at h; subst h; rfl
  | x :: l, r + 1, y, h => by
    have h' : l[r]? = some y := by simpa using h
    show (match kl_cut l r with | some (p, y, q) => some (x :: p, y, q) | none => none) = _
    rw [cut_at h']
    rfl
theorem fits_idx {r : Nat} (h : r < 1000) : Builtin.List.listFitsIndex (r : Int) = true := by
  unfold Builtin.List.listFitsIndex
  rw [Bool.and_eq_true]
  exact ⟨decide_eq_true (Int.le_trans (by decide) (Int.natCast_nonneg r)), decide_eq_true (Int.lt_trans (Int.ofNat_lt.mpr h) (by decide))⟩
theorem my_pop {D : Addr} {li : List Value} {n r : Nat} {u : Tok} {y : Value} {Q : Value → Shared → Prop} (F : Fr h₀ L s.heap m) (N : News h₀ L s.heap news) (hm : (D, listOf li.toArray n) ∈ news) (hz : li.length ≤ 1000) (hy : li[r]? = some y)
    (h : ∀ h', Fr h₀ L h' m → News h₀ L h' (ledSet news D (listOf (li.take r ++ li.drop (r + 1)).toArray (n + 1))) → Q y { s with heap := h' }) : wpAny (model prog w) A (call (.builtin "list.pop") [.ref D, .int r u]) Q E s := by
  have hr : r < li.length := (List.getElem?_eq_some_iff.mp hy).1
  refine kl_popAt (k := r) F (ledSet_up N hm) ?_ ?_ (cut_at hy) ledSet_upd (by simp only [sizeLine]; k_extra "om") h
  · exact fits_idx (Nat.lt_of_lt_of_le hr hz)
  · rw [List.size_toArray]; unfold seqIndex?; simp; k_extra "om"
theorem my_add {l b : Addr} {vs ws : List Value} {n1 n2 : Nat} {Q : Value → Shared → Prop} (F : Fr h₀ L s.heap m) (N : News h₀ L s.heap news) (hl : (l, listOf vs.toArray n1) ∈ news) (hb : (b, listOf ws.toArray n2) ∈ news) (hz : vs.length + ws.length ≤ 1000)
    (h : ∀ D h', Fr h₀ L h' m → News h₀ L h' ((D, listOf (vs ++ ws).toArray 0) :: news) → (∀ p ∈ news, p.1 < D) → Q (.ref D) { s with heap := h' }) : wpAny (model prog w) A (binaryOp .Add (.ref l) (.ref b)) Q E s :=
  add_lists F N (N.isList hl) (N.isList hb) (fun h' F' N' => h _ h' F' N' fun p hp => Heap.lt_size (N p hp).1) (by simp only [sizeLine]; k_extra "om")
theorem ints_get {vs : List Value} {ns : List Int} (h : IntsAre vs ns) {i : Nat} (hi : i < ns.length) : ∃ t, vs[i]? = some (.int (ns.getD i 0) t) := by
  obtain ⟨t, hx⟩ := h.get i ns[i] (List.getElem?_eq_getElem hi)
  exact ⟨t, by rw [hx]; simp [List.getD_eq_getElem?_getD, List.getElem?_eq_getElem hi]⟩
theorem my_item {value slice : Expr} {l : Addr} {vs : List Value} {k : Int} {u : Tok} {x : Value} {Q : Value → Shared → Prop} (hl : s.heap.IsList l vs.toArray) (h0 : 0 ≤ k) (h1 : k < 1000)
    (hx : vs[k.toNat]? = some x) (h : Q x s)
    (hs : subscripted slice false (.ref l) (.int k u) = operate [.ref l, .int k u] (getItem (.ref l) (.int k u)) := by with_unfolding_all rfl) :
    wpAny (model prog w) A (subscriptTail value slice (.ref l) (.int k u)) Q E s :=
  tail_any hl.typeIs slot_list_getitem.lookup (wpAny_getItem_list hl h0 (by k_extra "om") (by simpa using hx) h) hs
theorem my_itemPy2 {value slice : Expr} {l : Addr} {vs : List Value} {i : Nat} {u : Tok} {x : Value} {Q : Value → Shared → Prop} (hl : s.heap.IsList l vs.toArray) (h0 : 0 < vs.length) (hi : i ≤ vs.length) (hb : vs.length ≤ 900)
    (hx : vs[(i + vs.length - 1) % vs.length]? = some x) (h : Q x s)
    (hs : ∀ k : Int, subscripted slice false (.ref l) (.int k u) = operate [.ref l, .int k u] (getItem (.ref l) (.int k u)) := by intro _; with_unfolding_all rfl) :
    wpAny (model prog w) A (subscriptTail value slice (.ref l) (.int ((i : Int) - 1) u)) Q E s := by
  obtain ⟨n, hn⟩ : ∃ n, vs.length = n + 1 := ⟨_, (Nat.succ_pred_eq_of_pos h0).symm⟩
  rw [hn] at hx
  cases i with
  | zero =>
    have e : ((0 : Nat) : Int) - 1 + (vs.length : Int) = (n : Int) := by rw [hn]; show -1 + ((n : Int) + 1) = n; rw [Int.add_comm, Int.add_neg_cancel_right]
    refine my_itemNeg hl (by decide) (by rw [e]; exact Int.natCast_nonneg n) (Nat.le_trans hb (by decide)) ?_ h (hs _)
    rw [e, Int.toNat_natCast]
    change vs[(0 + n) % (n + 1)]? = some x at hx
    rw [Nat.zero_add, Nat.mod_eq_of_lt (Nat.lt_succ_self n)] at hx
    exact hx
  | succ i =>
    have e : ((i + 1 : Nat) : Int) - 1 = (i : Int) := Int.add_sub_cancel (i : Int) 1
    rw [e]
    have hin : i < n + 1 := hn ▸ hi
    refine my_item hl (Int.natCast_nonneg i) (Int.ofNat_lt.mpr (Nat.lt_of_lt_of_le (Nat.lt_of_lt_of_le hi hb) (by decide : 900 ≤ 1000))) ?_ h (hs _)
    change vs[(i + 1 + n) % (n + 1)]? = some x at hx
    rw [show i + 1 + n = i + (n + 1) from Nat.succ_add i n, Nat.add_mod_right, Nat.mod_eq_of_lt hin] at hx
    exact hx
theorem my_itemPy {value slice : Expr} {l : Addr} {vs : List Value} {i : Nat} {u : Tok} {x : Value} {Q : Value → Shared → Prop} (hl : s.heap.IsList l vs.toArray) (hi : i < vs.length) (hb : vs.length ≤ 900)
    (hx : vs[(i + vs.length - 1) % vs.length]? = some x) (h : Q x s)
    (hs : ∀ k : Int, subscripted slice false (.ref l) (.int k u) = operate [.ref l, .int k u] (getItem (.ref l) (.int k u)) := by intro _; with_unfolding_all rfl) :
    wpAny (model prog w) A (subscriptTail value slice (.ref l) (.int ((i : Int) - 1) u)) Q E s := my_itemPy2 hl (Nat.zero_lt_of_lt hi) (Nat.le_of_lt hi) hb hx h hs
end
theorem allLt_mem {d : Nat} : ∀ {l : Led}, AllLt d l → ∀ p ∈ l, p.1 < d
  | [], _, _, h => nomatch h
  | q :: r, ⟨h1, h2⟩, p, h => by
    rcases List.mem_cons.mp h with rfl | h
    · exact h1
    · exact allLt_mem h2 p h
theorem mem_at {α : Type} {l : List α} (n : Nat) {x : α} (h : l[n]? = some x) : x ∈ l := List.mem_of_getElem? h
theorem mem_tail {α : Type} {l r : List α} (n : Nat) {x : α} (h : l.drop n = r) (hx : x ∈ r) : x ∈ l := List.mem_of_mem_drop (h ▸ hx)
theorem mem_nth {α : Type} {l r : List α} {x : α} (h : l = r) (n : Nat) (hx : r[n]? = some x) : x ∈ l := by rw [h]; exact List.mem_of_getElem? hx
theorem getD_some {l : List Int} {i : Nat} (h : i < l.length) : l[i]? = some (l.getD i 0) := by
  rw [List.getD_eq_getElem?_getD, List.getElem?_eq_getElem h]; rfl
theorem ledSet_clean {h₀ h : Heap} {L D : Addr} {o : Obj} {news r : Led} (N : News h₀ L h (ledSet news D o)) (hs : ∀ p ∈ r, p ∈ news ∧ p.1 ≠ D) : News h₀ L h ((D, o) :: r) := by
  intro p hp
  rcases List.mem_cons.mp hp with rfl | hp
  · exact N _ ledSet_at
  · exact N _ (ledSet_ne (hs p hp).1 (hs p hp).2)
end Mine

namespace Mine
local macro_rules | `(tactic| news_mem) => `(tactic| k_extra "nm")
local macro_rules | `(tactic| k_mem) => `(tactic| k_extra "km")
local macro_rules | `(tactic| k_all) => `(tactic| k_extra "ka")
local macro_rules | `(tactic| k_ne) => `(tactic| k_extra "ne")
local macro_rules | `(tactic| ktr_room) => `(tactic| k_extra "room")
local macro_rules | `(tactic| ktr_units) => `(tactic| k_extra "units")
/-! part Frieze -/
section
open PySem PySem.W PyProof.Rows PySem.Spec PySem.Calls
set_option Elab.async false
set_option maxRecDepth 100000
set_option maxHeartbeats 4000000


theorem reset_Frieze : True := by
  w_top off
  trivial

theorem words_Frieze : True := by
  k_with_none
  k_with "fold" => ((with_reducible show wpAny _ _ (execs (_ :: _) _) _ _ _); (try k_gentoks); (refine foldM (by with_reducible assumption) ?_); intro _ _; (with_reducible refine wpAny_execs_cons ?_); (try dsimp only); (refine foldQ ?_); intro _)
  k_with "nm" => first | assumption | exact List.Mem.head _ | (refine List.Mem.tail _ ?_; news_mem) | (refine List.mem_append_right _ ?_; news_mem)
  k_with "km" => first | assumption | (refine List.mem_append_right _ ?_; k_mem)
  k_with "ka" => first | assumption | exact Under.ne (by assumption) (by omega)
  k_with "ne" => ((try dsimp only); first | assumption | (refine Ne.symm ?_; assumption) | exact Nat.ne_of_gt (by assumption) | exact Nat.ne_of_lt (by assumption) | exact Nat.ne_of_lt (Nat.lt_succ_self _) | exact Nat.ne_of_gt (Nat.lt_succ_self _) | exact Nat.ne_of_lt (Nat.lt_succ_of_lt (Nat.lt_succ_self _)) | exact Nat.ne_of_gt (Nat.lt_succ_of_lt (Nat.lt_succ_self _)))
  k_with "room" => ((try dsimp +zetaDelta only); simp only [depth_under_make, depth_under_kw, depth_in1, depth_deeper, depth_caller, recursionLimit]; first | decide | exact room3 (by assumption) (by decide) | exact room1 (by assumption) | omega)
  k_with "units" => ((try dsimp +zetaDelta only); simp only [units_in1, units_deeper, Around.mark_units, units_caller, cLine]; first | decide | exact room3 (by assumption) (by decide) | exact room1 (by assumption) | omega)
  k_with "om" => (first | (with_reducible first | assumption | exact Int.natCast_nonneg _ | exact Nat.le_trans (by assumption) (by decide) | exact Nat.lt_of_le_of_lt (by assumption) (by decide) | exact lt_lit (by assumption) (by decide) | exact le_lit (by assumption) (by decide) | exact le_flip (by assumption) (by decide) | exact lt_lit0 (by assumption) (by decide) | exact nn0) | decide | omega)
  k_with "u1" => ((with_reducible show wpAny _ _ (call (Value.builtin "len") [Value.ref _]) _ _ _); refine my_len (by is_list) (by k_extra "om") ?_)
  trivial
noncomputable def nextWays (ways fan : List Int) : List Int := ways.flatMap fun b => (fan.filter fun f => decide (Builtin.bitAnd b f = 0)).map fun f => Builtin.bitOr b f
noncomputable def frz (cs : List Int) (fss : List (List Int)) (st : Nat) : Nat → Int × Int × List Int
  | 0 => (0, 1, [0])
  | j + 1 =>
    let p := frz cs fss st j
    let li := (st + 1 + j) % cs.length
    (p.2.1, cs.getD li 0 * p.2.1 - p.1, nextWays p.2.2 (fss.getD li []))
structure FrZ where
  last : Int
  here : Int
  tl : Tok
  th : Tok
  a : Addr
  wvs : List Value
  wn : Nat
  ways : List Int
  o : Obj
theorem c_frieze (w : World) (lc lf : Addr) (cvs fvs : List Value) (n1 n2 : Nat) (cs' : List Int) (fss : List (List Int)) (news : Led) (hc : (lc, listOf cvs.toArray n1) ∈ news) (hci : IntsAre cvs cs')
    (hf : (lf, listOf fvs.toArray n2) ∈ news) (hfl : fvs.length = fss.length) (hlen : cvs.length = fss.length) (hl7 : fss.length ≤ 7)
    (hcb : ∀ c ∈ cs', 0 ≤ c ∧ c ≤ 100) (hfb : ∀ fs ∈ fss, fs.length ≤ 10) (hok : ∀ st j, st < cs'.length → j < cs'.length - 1 → (frz cs' fss st (j + 1)).2.1 = ((frz cs' fss st (j + 1)).2.2.length : Int) ∧ (frz cs' fss st j).2.2.length ≤ 90) (hfs : ∀ (i : Nat) (fs : List Int), fss[i]? = some fs → ∃ a vs nn, fvs[i]? = some (Value.ref a) ∧ (a, listOf vs.toArray nn) ∈ news ∧ IntsAre vs fs) :
    Cl w 1 123 [.ref lc, .ref lf] [] news (Gives news fun _ => .bool true) := by
  unfold Cl
  k_fill
  intro mean mg mb dp un gd cn cs a ccd cl outer A₀ base h₀ L m s Q E B F X N T hk hd hu hret
  have hcl := hci.length
  refine wpAny_call ?_
  k_dflt (refine' code_defC ?k1 ?k2 ?k3 ?k4 ?k5 ?kA ?kF ?kK ?k6 ?k7 ?k8 ?k9 ?kB ?kD ?_ ?c2 ?c3 ?c4; (case kA => exact rfl); (case kF => exact rfl); (case kK => assumption); (case k1 => k_asm); (case k2 => k_asm); (case k3 => k_asm); (case k4 => k_asm); (case k5 => k_asm); (case k6 => k_is); (case k7 => k_is); (case k8 => ktr_room); (case k9 => first | exact BindsTo.of_eq rfl | exact binds_K (by k_in) rfl (by k_is) rfl rfl rfl); (case kB => exact rfl); (case kD => decide +kernel); (case c2 => exact rfl); (case c3 => exact rfl); (case c4 => exact rfl); k_whole; intro g' L' h' tk' cells' FG' F' N' Y' B' X' T' l1; (try dsimp only); (try k_lift B'); (try k_fold))
  refine foldE ?_
  intro _ _
  obtain ⟨oL, oF, hE', dL, dF⟩ := CellsAre.two Y'
  subst hE'
  have dL : oL.data = .cell none := dL
  have dF : oF.data = .cell (some (.ref lf)) := dF
  simp only [List.cons_append, List.nil_append] at N'
  have hU : Under L' news := l1
  repeat' ((fail_if_success (with_reducible show wpAny _ _ (exec (Stmt.For _ _ _ _ _) _) _ _ _)); first | (k_unfold; (try dsimp only)) | (k_end; wrow_close) | k_extra "fold" | k_extra "u1" | walk1 | (dsimp only; (first | k_extra "fold" | k_extra "u1" | walk1)) | (leave1; walk_say "STEP leave1"; try dsimp only) | fail "no step")
  refine For_invVF (by assumption) (by exact rfl) (by exact rfl) ?_
  repeat' ((fail_if_success (with_reducible show wpAny _ _ (pyIter _) _ _ _)); first | (k_unfold; (try dsimp only)) | (k_end; wrow_close) | k_extra "fold" | k_extra "u1" | walk1 | (dsimp only; (first | k_extra "fold" | k_extra "u1" | walk1)) | (leave1; walk_say "STEP leave1"; try dsimp only) | fail "no step")
  refine iter_rngS (n := cs'.length) (fun _ => []) [Str.ofString "last", Str.ofString "here", Str.ofString "ways", Str.ofString "step"] (fun (o : Obj) => (L' + 1 + 1, o) :: (L' + 1, oF) :: news) (fun _ o => ∃ v, o.data = .cell v) oL (by exact rfl) (by assumption) (rng_small (by k_extra "om") (by k_extra "om") (by k_extra "om") (by k_extra "om")) (rng_size (by k_extra "om")) (by assumption) (by assumption) (fun _ h => h) trivial ⟨_, dL⟩ ?turn ?done
  case done =>
    intro o u h tk hK F9 N9
    repeat' (first | (k_unfold; (try dsimp only)) | (k_end; wrow_close) | k_extra "fold" | k_extra "u1" | walk1 | (dsimp only; (first | k_extra "fold" | k_extra "u1" | walk1)) | (leave1; walk_say "STEP leave1"; try dsimp only) | fail "no step")
    exact hret 0 _ _ (by assumption) (fun p hp => (by assumption : News h₀ L _ _) p (by news_mem))
  case turn =>
    rintro I st t o u h tk oI hst ⟨v, ho⟩ hne F9 N9
    have q1 : @Ne Nat (L' + 1 + 1) I := hne _ (.head _)
    have q2 : @Ne Nat (L' + 1) I := hne _ (.tail _ (.head _))
    repeat' ((fail_if_success (with_reducible show wpAny _ _ (exec (Stmt.For _ _ _ _ _) _) _ _ _)); first | (k_unfold; (try dsimp only)) | (k_end; wrow_close) | k_extra "fold" | k_extra "u1" | walk1 | (dsimp only; (first | k_extra "fold" | k_extra "u1" | walk1)) | (leave1; walk_say "STEP leave1"; try dsimp only) | fail "no step")
    refine For_invVF (by assumption) (by exact rfl) (by exact rfl) ?_
    repeat' ((fail_if_success (with_reducible show wpAny _ _ (pyIter _) _ _ _)); first | (k_unfold; (try dsimp only)) | (k_end; wrow_close) | k_extra "fold" | k_extra "u1" | walk1 | (dsimp only; (first | k_extra "fold" | k_extra "u1" | walk1)) | (leave1; walk_say "STEP leave1"; try dsimp only) | fail "no step")
    refine iter_rngS (n := cs'.length - 1) (fun (z : FrZ) => [(Str.ofString "last", .int z.last z.tl), (Str.ofString "here", .int z.here z.th), (Str.ofString "ways", .ref z.a)]) [Str.ofString "last", Str.ofString "here", Str.ofString "ways"]
      (fun z => (z.a, listOf z.wvs.toArray z.wn) :: (I, oI) :: (L' + 1 + 1, z.o) :: (L' + 1, oF) :: news)
      (fun j z => (z.last, z.here, z.ways) = frz cs' fss st j ∧ IntsAre z.wvs z.ways ∧ (∃ v, z.o.data = .cell v) ∧ @LT.lt Nat _ (L' + 1 + 1) z.a)
      ⟨0, 1, _, _, _, _, _, [0], o⟩ (by exact rfl) (by assumption) (rng_small (by k_extra "om") (by k_extra "om") (by k_extra "om") (by k_extra "om")) (rng_size (by k_extra "om")) (by assumption) (by assumption) (fun _ h => h) ⟨rfl, rfl, rfl, trivial⟩ ?start ?turn ?done
    case start =>
      exact ⟨rfl, IntsAre.cons _ _ IntsAre.nil, ⟨v, ho⟩, by dsimp only; k_extra "om"⟩
    case done =>
      intro z u2 h2 tk2 hK F8 N8
      repeat' (first | (k_unfold; (try dsimp only)) | (k_end; wrow_close) | k_extra "fold" | k_extra "u1" | walk1 | (dsimp only; (first | k_extra "fold" | k_extra "u1" | walk1)) | (leave1; walk_say "STEP leave1"; try dsimp only) | fail "no step")
      refine ⟨_, _, _, _, z.o, rfl, F8, N8, .tail _ (.head _), fun p hp => .tail _ (.tail _ hp), ?_, trivial, ?_, hK.2.2.1⟩
      · intro p hp
        rcases List.mem_cons.mp hp with rfl | hp
        · exact q1
        · rcases List.mem_cons.mp hp with rfl | hp
          · exact q2
          · exact hne p (.tail _ (.tail _ hp))
      · intro y h1 h2
        have e1 : y ≠ Str.ofString "step" := nc h2 rfl
        have e2 : y ≠ Str.ofString "ways" := nc h2 rfl
        have e3 : y ≠ Str.ofString "here" := nc h2 rfl
        have e4 : y ≠ Str.ofString "last" := nc h2 rfl
        dsimp +zetaDelta only
        simp only [if_neg e1]
        rw [frameM_out (by rfl) (sub_contains (by rfl) h2)]
        simp only [if_neg h1, if_neg e2, if_neg e3, if_neg e4]
        exact frameM_out (by rfl) h2
    case turn =>
      rintro I2 j t2 ⟨last, here, tl, th, wa, wvs, wn, ways, o2⟩ u2 h2 tk2 oI2 hj ⟨hz, hwi, ⟨v2, ho2⟩, hwa⟩ hne2 F8 N8
      dsimp only at hz hwi ho2 hwa hne2 F8 N8
      have q3 : @Ne Nat (wa) I2 := hne2 _ (.head _)
      have q4 : @Ne Nat (I) I2 := hne2 _ (.tail _ (.head _))
      have q5 : @Ne Nat (L' + 1 + 1) I2 := hne2 _ (.tail _ (.tail _ (.head _)))
      have q6 : @Ne Nat (L' + 1) I2 := hne2 _ (.tail _ (.tail _ (.tail _ (.head _))))
      repeat' ((fail_if_success (with_reducible show wpAny _ _ (binaryOp Operator.Mod _ _) _ _ _)); first | (k_unfold; (try dsimp only)) | (k_end; wrow_close) | k_extra "fold" | k_extra "u1" | walk1 | (dsimp only; (first | k_extra "fold" | k_extra "u1" | walk1)) | (leave1; walk_say "STEP leave1"; try dsimp only) | fail "no step")
      refine PyProof.Rows.mod_int (by k_extra "om") ?_
      dsimp only
      have hli : (((0 : Int) + (st : Int) + 1 + (j : Int)).fmod (cvs.length : Int)) = (((st + 1 + j) % cs'.length : Nat) : Int) := by
        rw [hcl, Int.fmod_eq_emod_of_nonneg _ (by k_extra "om")]; push_cast; congr 1; k_extra "om"
      rw [hli]
      generalize hlq : (st + 1 + j) % cs'.length = li at *
      have hlt : li < cs'.length := by rw [← hlq]; exact Nat.mod_lt _ (Nat.lt_of_le_of_lt (Nat.zero_le _) hst)
      repeat' ((fail_if_success (with_reducible show wpAny _ _ (binaryOp Operator.Mult _ _) _ _ _)); first | (k_unfold; (try dsimp only)) | (k_end; wrow_close) | k_extra "fold" | k_extra "u1" | walk1 | (dsimp only; (first | k_extra "fold" | k_extra "u1" | walk1)) | (leave1; walk_say "STEP leave1"; try dsimp only) | fail "no step")
      rw [Int.toNat_natCast]
      refine PyProof.Rows.mul_int ?_ (IntMulOk.of_left ?_)
      rotate_left
      · have hc1 := hcb (cs'.getD li 0) (by rw [List.getD_eq_getElem?_getD, List.getElem?_eq_getElem hlt]; exact List.getElem_mem hlt)
        exact intBits_le_64 (by k_extra "om") (by k_extra "om")
      repeat' ((fail_if_success (with_reducible show wpAny _ _ (exec (Stmt.Assign _ (Expr.ListComp _ _ _ _) _) _) _ _ _)); first | (k_unfold; (try dsimp only)) | (k_end; wrow_close) | k_extra "fold" | k_extra "u1" | walk1 | (dsimp only; (first | k_extra "fold" | k_extra "u1" | walk1)) | (leave1; walk_say "STEP leave1"; try dsimp only) | fail "no step")
      have hlf : li < fss.length := Nat.lt_of_lt_of_le hlt (Nat.le_of_eq (hcl.symm.trans hlen))
      have b_li : li ≤ 7 := Nat.le_trans (Nat.le_of_lt hlf) hl7
      obtain ⟨fa, fv, fn, hfa, hfmem, hfints⟩ := hfs li fss[li] (List.getElem?_eq_getElem hlf)
      rename News g' L' _ _ => kN
      rename Fr g' L' _ _ => kF
      refine Assign_comp2 (fun b k => decide (Builtin.bitAnd b k = 0)) (fun b k => Builtin.bitOr b k) (wa := wa) (wvs := wvs) (wn := wn) (ws := ways) (fl := fa) (fvs := fv) (fn := fn) (fs := fss[li]) (by exact rfl) kF kN (by exact rfl) (by exact rfl) (by exact rfl) (by decide) (by exact rfl) (by decide) (by exact rfl) (by exact rfl) (by decide) (by exact rfl) (by exact rfl) (by intro _; exact rfl) (by intro _ _; exact rfl) ?h1 (by news_mem) hwi (by news_mem) hfints ?hpl ?H2 ?HT ?HE ?fin
      case h1 =>
        intro Q' hQ
        first | k_extra "fold" | k_extra "u1" | walk1
        exact hQ
      case hpl =>
        have h1 := (hok st j (by k_extra "om") hj).2
        have h2 := hfb fss[li] (List.getElem_mem hlf)
        rw [← hz] at h1
        have h3 := Nat.mul_le_mul h1 h2
        dsimp only at h1 h3
        k_extra "om"
      case H2 =>
        intro C oC m₂ h tk all Q' E' hoC _ F9 N9 hC hsub hk
        have c1 := hsub (L' + 1, oF) (by news_mem)
        have c2 := hsub (L' + 1 + 1, _) (List.Mem.tail _ (List.Mem.tail _ (List.Mem.tail _ (List.Mem.tail _ (List.Mem.head _)))))
        have c3 := hsub (lf, listOf fvs.toArray n2) (by news_mem)
        repeat' ((fail_if_success (with_reducible show wpAny _ _ (subscriptTail _ _ _ _) _ _ _)); first | (k_unfold; (try dsimp only)) | (k_end; wrow_close) | k_extra "fold" | k_extra "u1" | walk1 | (dsimp only; (first | k_extra "fold" | k_extra "u1" | walk1)) | (leave1; walk_say "STEP leave1"; try dsimp only) | fail "no step")
        refine item_listL (News.isList (by assumption) c3) (by k_extra "om") (by k_extra "om") (x := Value.ref fa) (by rw [Int.toNat_natCast]; exact hfa) ?_
        exact hk _ _ _ rfl (by assumption) (by assumption)
      case HT =>
        intro b t1 k t2 C oC m₂ h tk all Q' E' hoC ⟨hm1, hm2⟩ F9 N9 hC hsub hk
        repeat' (first | (k_unfold; (try dsimp only)) | (k_end; wrow_close) | k_extra "fold" | k_extra "u1" | walk1 | (dsimp only; (first | k_extra "fold" | k_extra "u1" | walk1)) | (leave1; walk_say "STEP leave1"; try dsimp only) | fail "no step")
        exact hk _ _ _ rfl (by assumption) (by assumption)
      case HE =>
        intro b t1 k t2 C oC m₂ h tk all Q' E' hoC ⟨hm1, hm2⟩ F9 N9 hC hsub hk
        repeat' (first | (k_unfold; (try dsimp only)) | (k_end; wrow_close) | k_extra "fold" | k_extra "u1" | walk1 | (dsimp only; (first | k_extra "fold" | k_extra "u1" | walk1)) | (leave1; walk_say "STEP leave1"; try dsimp only) | fail "no step")
        exact hk _ _ _ ⟨_, rfl⟩ (by assumption) (by assumption)
      case fin =>
        intro D ys h tk F9 N9 hD hys
        have hnx : frz cs' fss st (j + 1) = (here, cs'.getD li 0 * here - last, ways.flatMap fun b => (fss[li].filter fun k => decide (Builtin.bitAnd b k = 0)).map fun k => Builtin.bitOr b k) := by
          unfold frz
          rw [← hz, hlq]
          simp only [nextWays, List.getD_eq_getElem?_getD, List.getElem?_eq_getElem hlf, Option.getD_some]
        have hk1 := hok st j (by k_extra "om") hj
        rw [hnx] at hk1
        have hyl := hys.length
        have heq : cs'.getD li 0 * here - last = (ys.length : Int) := by rw [hyl]; exact hk1.1
        have hyb : ys.length ≤ 1000 := by
          rw [hyl]
          refine Nat.le_trans flat_len ?_
          have h2 := hfb fss[li] (List.getElem_mem hlf)
          have h3 := hk1.2
          rw [← hz] at h3
          have h4 := Nat.mul_le_mul h3 h2
          dsimp only at h4
          k_extra "om"
        repeat' (first | (k_unfold; (try dsimp only)) | (k_end; wrow_close) | k_extra "fold" | k_extra "u1" | walk1 | (dsimp only; (first | k_extra "fold" | k_extra "u1" | walk1)) | (leave1; walk_say "STEP leave1"; try dsimp only) | fail "no step")
        · exact absurd heq (by assumption)
        · refine ⟨_, _, _, _, ⟨here, cs'.getD li 0 * here - last, _, _, D, ys, ys.length, _, _⟩, rfl, by assumption, by assumption, ?_, ?_, ?_, ⟨rfl, rfl, rfl, trivial⟩, ?_, hnx.symm, hys, ⟨_, by assumption⟩, ?_⟩
          · news_mem
          · intro p hp
            rcases List.mem_cons.mp hp with rfl | hp
            · exact .head _
            · rcases List.mem_cons.mp hp with rfl | hp
              · exact .tail _ (.tail _ (.tail _ (.tail _ (.head _))))
              · exact .tail _ (.tail _ (.tail _ (.tail _ (.tail _ hp))))
          · intro p hp
            rcases List.mem_cons.mp hp with rfl | hp
            · exact Nat.ne_of_gt (hD (I2, oI2) (.tail _ (.head _)))
            · rcases List.mem_cons.mp hp with rfl | hp
              · exact q4
              · rcases List.mem_cons.mp hp with rfl | hp
                · exact q5
                · exact hne2 p (.tail _ (.tail _ (.tail _ hp)))
          · intro y h1 h2
            have e2 : y ≠ Str.ofString "ways" := nc h2 rfl
            have e3 : y ≠ Str.ofString "here" := nc h2 rfl
            have e4 : y ≠ Str.ofString "last" := nc h2 rfl
            dsimp +zetaDelta only
            rw [if_neg e2, if_neg e3, if_neg e4, if_neg h1]
            exact frameM_out (by rfl) h2
          · exact hD (L' + 1 + 1, _) (.tail _ (.tail _ (.tail _ (.tail _ (.head _)))))
end

/-! part FansPure -/
section
open PySem PySem.W PyProof.Rows PySem.Spec PySem.Calls
set_option Elab.async false
set_option maxRecDepth 100000
set_option maxHeartbeats 4000000

theorem reset_FansPure : True := by
  w_top off
  trivial
noncomputable def earOf (rest : List Int) (c : Int) : Int := ((rest.filter fun p => decide (p ≥ c)) ++ rest).headD 0
noncomputable def threeOf (rest : List Int) (e : Int) : List Int := [rest.getD ((rest.idxOf e + rest.length - 1) % rest.length) 0, e, rest.getD ((rest.idxOf e + 1) % rest.length) 0]
noncomputable def stepT (rest ks : List Int) (k : Nat) : List Int × List Int :=
  if k < ks.length then (threeOf rest (earOf rest (ks.getD k 0)), rest.filter fun p => decide (p ≠ earOf rest (ks.getD k 0))) else (rest, rest)
noncomputable def addFan (S : List Int) (k : Nat) (fss : List (List Int)) (p : Int) : List (List Int) := fss.set (S.idxOf p) (fss.getD (S.idxOf p) [] ++ [((2 ^ k : Nat) : Int)])
noncomputable def fansSt (S ks : List Int) : Nat → List Int × List (List Int)
  | 0 => (S, S.map fun _ => [])
  | k + 1 => ((stepT (fansSt S ks k).1 ks k).2, (stepT (fansSt S ks k).1 ks k).1.foldl (addFan S k) (fansSt S ks k).2)
theorem sorted_unique : ∀ {l S : List Int}, l.Perm S → l.Pairwise (fun x y => x ≤ y) → S.Pairwise (fun x y => x ≤ y) → l = S
  | [], S, h, _, _ => h.nil_eq
  | a :: l, [], h, _, _ => absurd h.symm.nil_eq (by simp)
  | a :: l, b :: S, h, h1, h2 => by
    have hab : a = b := by
      have h3 : a ∈ b :: S := h.subset (List.mem_cons_self ..)
      have h4 : b ∈ a :: l := h.symm.subset (List.mem_cons_self ..)
      rcases List.mem_cons.mp h3 with e | h3
      · exact e
      · rcases List.mem_cons.mp h4 with e | h4
        · exact e.symm
        · have := (List.pairwise_cons.mp h1).1 b h4
          have := (List.pairwise_cons.mp h2).1 a h3
          omega
    subst hab
    rw [sorted_unique ((List.perm_cons a).mp h) (List.pairwise_cons.mp h1).2 (List.pairwise_cons.mp h2).2]
theorem earOf_mem {rest : List Int} {c : Int} (h : 0 < rest.length) : earOf rest c ∈ rest := by
  unfold earOf
  cases hf : rest.filter fun p => decide (p ≥ c) with
  | nil =>
    cases rest with
    | nil => simp at h
    | cons a r => simp
  | cons a r =>
    have : a ∈ rest.filter fun p => decide (p ≥ c) := by rw [hf]; exact List.mem_cons_self ..
    simpa using (List.mem_filter.mp this).1
theorem getD_mem {l : List Int} {i : Nat} (h : i < l.length) : l.getD i 0 ∈ l := by
  rw [List.getD_eq_getElem?_getD, List.getElem?_eq_getElem h]; exact List.getElem_mem h
theorem threeOf_mem {rest : List Int} {e : Int} (h : e ∈ rest) : ∀ p ∈ threeOf rest e, p ∈ rest := by
  have h0 : 0 < rest.length := List.length_pos_of_mem h
  intro p hp
  simp only [threeOf, List.mem_cons, List.not_mem_nil, or_false] at hp
  rcases hp with rfl | rfl | rfl
  · exact getD_mem (Nat.mod_lt _ h0)
  · exact h
  · exact getD_mem (Nat.mod_lt _ h0)
theorem filter_ne_len {rest : List Int} {e : Int} (hn : rest.Nodup) (h : e ∈ rest) : (rest.filter fun p => decide (p ≠ e)).length + 1 = rest.length := by
  have h1 := List.length_erase_of_mem h
  have h0 : 0 < rest.length := List.length_pos_of_mem h
  have e2 : rest.erase e = rest.filter fun p => decide (p ≠ e) := by
    rw [hn.erase_eq_filter]
    congr 1
    funext p
    by_cases hp : p = e <;> simp [hp]
  rw [← e2, h1]; omega
theorem addFan_length {S : List Int} {k : Nat} {fss : List (List Int)} {p : Int} : (addFan S k fss p).length = fss.length := by simp [addFan]
theorem foldFan_length {S : List Int} {k : Nat} : ∀ {T : List Int} {fss : List (List Int)}, (T.foldl (addFan S k) fss).length = fss.length
  | [], _ => rfl
  | p :: T, fss => by rw [List.foldl_cons, foldFan_length, addFan_length]
theorem addFan_le {S : List Int} {k M : Nat} {fss : List (List Int)} {p : Int} (h : ∀ fs ∈ fss, fs.length ≤ M) : ∀ fs ∈ addFan S k fss p, fs.length ≤ M + 1 := by
  intro fs hfs
  rcases List.mem_or_eq_of_mem_set hfs with h1 | rfl
  · exact Nat.le_succ_of_le (h fs h1)
  · rw [List.length_append, List.length_singleton]
    refine Nat.succ_le_succ ?_
    rw [List.getD_eq_getElem?_getD]
    cases hx : fss[S.idxOf p]? with
    | none => simp
    | some x => exact h x (List.mem_of_getElem? hx)
theorem foldFan_le {S : List Int} {k : Nat} : ∀ {T : List Int} {fss : List (List Int)} {M : Nat}, (∀ fs ∈ fss, fs.length ≤ M) → ∀ fs ∈ T.foldl (addFan S k) fss, fs.length ≤ M + T.length
  | [], _, _, h => h
  | p :: T, fss, M, h => by
    intro fs hfs
    have := foldFan_le (addFan_le (S := S) (k := k) (p := p) h) fs hfs
    rw [List.length_cons]; omega
structure FansInv (S : List Int) (k : Nat) (st : List Int × List (List Int)) : Prop where
  len : st.1.length + k = S.length
  nodup : st.1.Nodup
  sub : ∀ x ∈ st.1, x ∈ S
  flen : st.2.length = S.length
  short : ∀ fs ∈ st.2, fs.length ≤ 10 * k
theorem stepT_lt {rest ks : List Int} {k : Nat} (h : k < ks.length) : stepT rest ks k = (threeOf rest (earOf rest (ks.getD k 0)), rest.filter fun p => decide (p ≠ earOf rest (ks.getD k 0))) := if_pos h
theorem stepT_ge {rest ks : List Int} {k : Nat} (h : ¬ k < ks.length) : stepT rest ks k = (rest, rest) := if_neg h
theorem fans_inv {S ks : List Int} (hn : S.Nodup) (hl : ks.length + 3 = S.length) : ∀ k, k ≤ ks.length → FansInv S k (fansSt S ks k)
  | 0, _ => ⟨by simp [fansSt], hn, fun x h => h, by simp [fansSt], fun fs h => by
      simp only [fansSt, List.mem_map] at h
      obtain ⟨_, _, rfl⟩ := h
      simp⟩
  | k + 1, hk => by
    have ih := fans_inv hn hl k (by omega)
    have h0 : 0 < (fansSt S ks k).1.length := by have := ih.len; omega
    have hm := earOf_mem (c := ks.getD k 0) h0
    have e : fansSt S ks (k + 1) = ((stepT (fansSt S ks k).1 ks k).2, (stepT (fansSt S ks k).1 ks k).1.foldl (addFan S k) (fansSt S ks k).2) := rfl
    rw [e, stepT_lt (by omega)]
    refine ⟨?_, ih.nodup.filter _, fun x hx => ih.sub x (List.mem_filter.mp hx).1, by rw [foldFan_length]; exact ih.flen, ?_⟩
    · have := filter_ne_len ih.nodup hm
      have := ih.len
      dsimp only
      omega
    · intro fs hfs
      have := foldFan_le ih.short fs hfs
      simp only [threeOf, List.length_cons, List.length_nil] at this
      omega
theorem frameM_nil {u m₀ : Str → Option Value} {y : Str} : frameM [] [] u m₀ y = m₀ y := rfl
noncomputable def fled (as : List Addr) (os : List Obj) : Led := as.zip os
theorem mem_fled {as : List Addr} {os : List Obj} {p : Addr × Obj} : p ∈ fled as os ↔ ∃ i : Nat, as[i]? = some p.1 ∧ os[i]? = some p.2 := by
  unfold fled
  rw [List.mem_iff_getElem?]
  constructor
  · rintro ⟨i, h⟩
    exact ⟨i, by simpa using (List.getElem?_zip_eq_some.mp h)⟩
  · rintro ⟨i, h⟩
    exact ⟨i, List.getElem?_zip_eq_some.mpr h⟩
theorem nodup_idx {α : Type} {l : List α} (h : l.Nodup) {i j : Nat} {a : α} (hi : l[i]? = some a) (hj : l[j]? = some a) : i = j := by
  obtain ⟨h1, e1⟩ := List.getElem?_eq_some_iff.mp hi
  obtain ⟨h2, e2⟩ := List.getElem?_eq_some_iff.mp hj
  exact (List.getElem_inj h).mp (e1.trans e2.symm)
theorem fled_set {as : List Addr} {os : List Obj} {i : Nat} {a : Addr} {o : Obj} (hn : as.Nodup) (ha : as[i]? = some a) {p : Addr × Obj} (h : p ∈ fled as (os.set i o)) : p = (a, o) ∨ (p ∈ fled as os ∧ p.1 ≠ a) := by
  obtain ⟨j, h1, h2⟩ := mem_fled.mp h
  by_cases hij : i = j
  · subst hij
    rw [ha] at h1
    rw [List.getElem?_set_self'] at h2
    cases ho : os[i]? with
    | none => rw [ho] at h2; cases h2
    | some x =>
      rw [ho] at h2
      exact .inl (Prod.ext (Option.some.inj h1).symm (Option.some.inj h2).symm)
  · rw [List.getElem?_set_ne hij] at h2
    refine .inr ⟨mem_fled.mpr ⟨j, h1, h2⟩, fun e => hij ?_⟩
    rw [e] at h1
    exact nodup_idx hn ha h1
theorem fled_addr {as : List Addr} {os : List Obj} {p : Addr × Obj} (h : p ∈ fled as os) : p.1 ∈ as := by
  obtain ⟨i, h1, _⟩ := mem_fled.mp h
  exact List.mem_of_getElem? h1
theorem need_step {E9 news : Led} {as : List Addr} {os : List Obj} {i : Nat} {aa I2 : Addr} {o oI2 : Obj} (hn : as.Nodup) (ha : as[i]? = some aa) (hd : ∀ p ∈ E9 ++ news, p.1 ∉ as) : ∀ p ∈ E9 ++ (fled as (os.set i o) ++ news), p ∈ ledSet ((I2, oI2) :: (E9 ++ (fled as os ++ news))) aa o := by
  have hm := List.mem_of_getElem? ha
  intro p hp
  rcases List.mem_append.mp hp with hp | hp
  · exact ledSet_ne (.tail _ (List.mem_append_left _ hp)) fun e => hd p (List.mem_append_left _ hp) (e ▸ hm)
  · rcases List.mem_append.mp hp with hp | hp
    · rcases fled_set hn ha hp with rfl | ⟨h1, h2⟩
      · exact ledSet_at
      · exact ledSet_ne (.tail _ (List.mem_append_right _ (List.mem_append_left _ h1))) h2
    · exact ledSet_ne (.tail _ (List.mem_append_right _ (List.mem_append_right _ hp))) fun e => hd p (List.mem_append_right _ hp) (e ▸ hm)
theorem need_ne {E9 news : Led} {as : List Addr} {os : List Obj} {i : Nat} {aa I2 : Addr} {o oa : Obj} (hn : as.Nodup) (ha : as[i]? = some aa) (_ : ∀ p ∈ E9 ++ news, p.1 ∉ as) (hm : (aa, oa) ∈ fled as os) (h : ∀ p ∈ E9 ++ (fled as os ++ news), p.1 ≠ I2) : ∀ p ∈ E9 ++ (fled as (os.set i o) ++ news), p.1 ≠ I2 := by
  intro p hp
  rcases List.mem_append.mp hp with hp | hp
  · exact h p (List.mem_append_left _ hp)
  · rcases List.mem_append.mp hp with hp | hp
    · rcases fled_set hn ha hp with rfl | ⟨h1, h2⟩
      · exact h (aa, oa) (List.mem_append_right _ (List.mem_append_left _ hm))
      · exact h p (List.mem_append_right _ (List.mem_append_left _ h1))
    · exact h p (List.mem_append_right _ (List.mem_append_right _ hp))
def FansAre (os : List Obj) (fss : List (List Int)) : Prop := os.length = fss.length ∧ ∀ (i : Nat) (o : Obj) (fs : List Int), os[i]? = some o → fss[i]? = some fs → ∃ vs nn, o = listOf vs.toArray nn ∧ IntsAre vs fs
theorem fled_map {as : List Addr} {o : Obj} : fled as (as.map fun _ => o) = as.map fun a => (a, o) := by
  unfold fled
  induction as with
  | nil => rfl
  | cons a r ih => simp [ih]
theorem fled_has {as : List Addr} {os : List Obj} (h : os.length = as.length) {a : Addr} (ha : a ∈ as) : ∃ o, (a, o) ∈ fled as os := by
  obtain ⟨i, hi⟩ := List.mem_iff_getElem?.mp ha
  have hl := (List.getElem?_eq_some_iff.mp hi).1
  exact ⟨os[i]'(by omega), mem_fled.mpr ⟨i, hi, List.getElem?_eq_getElem _⟩⟩
theorem fans_start {as : List Addr} {S : List Int} (h : as.length = S.length) : FansAre (as.map fun _ => listOf [].toArray 0) (S.map fun _ => []) := by
  refine ⟨by simp [h], fun i o fs ho hf => ?_⟩
  rw [List.getElem?_map] at ho hf
  cases ha : as[i]? with
  | none => rw [ha] at ho; cases ho
  | some a =>
    cases hs : S[i]? with
    | none => rw [hs] at hf; cases hf
    | some x =>
      rw [ha] at ho; rw [hs] at hf
      cases ho; cases hf
      exact ⟨[], 0, rfl, IntsAre.nil⟩
theorem fans_step {os : List Obj} {fss : List (List Int)} {S : List Int} {k : Nat} {p : Int} {avs : List Value} {ffs : List Int} {n : Nat} {t : Tok} (h : FansAre os fss) (hf : fss[S.idxOf p]? = some ffs) (ha : IntsAre avs ffs) :
    FansAre (os.set (S.idxOf p) (listOf (avs ++ [Value.int ((2 ^ k : Nat) : Int) t]).toArray n)) (addFan S k fss p) := by
  refine ⟨by rw [List.length_set, addFan_length]; exact h.1, fun i o fs ho hfs => ?_⟩
  unfold addFan at hfs
  by_cases hi : S.idxOf p = i
  · subst hi
    have hlt := (List.getElem?_eq_some_iff.mp hf).1
    rw [List.getElem?_set_self (by rw [h.1]; exact hlt)] at ho
    rw [List.getElem?_set_self hlt] at hfs
    cases ho
    cases hfs
    refine ⟨_, _, rfl, ?_⟩
    rw [List.getD_eq_getElem?_getD, hf]
    exact ha.append (IntsAre.cons _ _ IntsAre.nil)
  · rw [List.getElem?_set_ne hi] at ho hfs
    exact h.2 i o fs ho hfs
end

/-! part Fans -/
section
open PySem PySem.W PyProof.Rows PySem.Spec PySem.Calls
set_option Elab.async false
set_option maxRecDepth 100000
set_option maxHeartbeats 4000000

theorem reset_Fans : True := by
  w_top off
  trivial
open PyProof.Rows.LCg PyProof.Rows.LCt PyProof.Rows.LCp

theorem words_Fans : True := by
  k_with_none
  k_with "fold" => ((with_reducible show wpAny _ _ (execs (_ :: _) _) _ _ _); (try k_gentoks); (refine foldM (by with_reducible assumption) ?_); intro _ _; (with_reducible refine wpAny_execs_cons ?_); (try dsimp only); (refine foldQ ?_); intro _)
  k_with "nm" => first | assumption | exact List.Mem.head _ | (refine List.Mem.tail _ ?_; news_mem) | (refine List.mem_append_right _ ?_; news_mem)
  k_with "km" => first | assumption | (refine List.mem_append_right _ ?_; k_mem)
  k_with "ka" => first | assumption | exact Under.ne (by assumption) (by omega)
  k_with "ne" => ((try dsimp only); first | assumption | (refine Ne.symm ?_; assumption) | exact Nat.ne_of_gt (by assumption) | exact Nat.ne_of_lt (by assumption) | exact Nat.ne_of_lt (Nat.lt_succ_self _) | exact Nat.ne_of_gt (Nat.lt_succ_self _) | exact Nat.ne_of_lt (Nat.lt_succ_of_lt (Nat.lt_succ_self _)) | exact Nat.ne_of_gt (Nat.lt_succ_of_lt (Nat.lt_succ_self _)))
  k_with "room" => ((try dsimp +zetaDelta only); simp only [depth_under_make, depth_under_kw, depth_in1, depth_deeper, depth_caller, recursionLimit]; first | decide | exact room3 (by assumption) (by decide) | exact room1 (by assumption) | omega)
  k_with "units" => ((try dsimp +zetaDelta only); simp only [units_in1, units_deeper, Around.mark_units, units_caller, cLine]; first | decide | exact room3 (by assumption) (by decide) | exact room1 (by assumption) | omega)
  k_with "om" => (first | (with_reducible first | assumption | exact Int.natCast_nonneg _ | exact Nat.le_trans (by assumption) (by decide) | exact Nat.lt_of_le_of_lt (by assumption) (by decide) | exact lt_lit (by assumption) (by decide) | exact le_lit (by assumption) (by decide) | exact le_flip (by assumption) (by decide) | exact lt_lit0 (by assumption) (by decide) | exact nn0) | decide | omega)
  k_with "u1" => ((with_reducible show wpAny _ _ (call (Value.builtin "len") [Value.ref _]) _ _ _); refine my_len (by is_list) (by k_extra "om") ?_)
  trivial
theorem sub8 {α : Type} {a b c d e f g h x : α} {r : List α} (hx : x ∈ [a, b, c, d, e, f, g, h] ++ r) : x = a ∨ x = b ∨ x = c ∨ x = d ∨ x = e ∨ x = f ∨ x = g ∨ x = h ∨ x ∈ r := by
  simpa only [List.cons_append, List.nil_append, List.mem_cons] using hx
theorem sub8_of {α : Type} {a b c d e f g h x : α} {r l : List α} (hx : x ∈ [a, b, c, d, e, f, g, h] ++ r) (ha : a ∈ l) (hb : b ∈ l) (hc : c ∈ l) (hd : d ∈ l) (he : e ∈ l) (hf : f ∈ l) (hg : g ∈ l) (hh : h ∈ l) (hr : ∀ y ∈ r, y ∈ l) : x ∈ l := by
  rcases sub8 hx with rfl | rfl | rfl | rfl | rfl | rfl | rfl | rfl | hx
  all_goals first | assumption | exact hr _ hx
structure FaZ where
  ra : Addr
  rv : List Value
  rn : Nat
  rest : List Int
  os : List Obj
  oE : Obj
  oK : Obj
def FanJ (h₀ : Heap) (L I wl fa : Addr) (oI wo fo oC : Obj) (fl tl : Led) (as : List Addr) (S0 ks rest : List Int) (k : Nat) (kv : Value) (m₁ : Str → Option Value) (s₁ : Shared) (f : Flow) (s₂ : Shared) : Prop :=
  f = .next ∧ ∃ (h : Heap) (tk : Nat) (u : Str → Option Value) (ta rb : Addr) (tv rv : List Value) (tn rn : Nat) (TT NR : List Int) (oE oK : Obj), s₂ = { s₁ with heap := h, toks := tk } ∧
    Fr h₀ L h (frameM [(Str.ofString "three", .ref ta), (Str.ofString "rest", .ref rb)] [Str.ofString "three", Str.ofString "rest", Str.ofString "behind", Str.ofString "spot"] u m₁) ∧
    News h₀ L h ([(ta, listOf tv.toArray tn), (rb, listOf rv.toArray rn), (I, oI), (wl, wo), (fa, fo), (L + 1 + 1 + 1, oE), (L + 1 + 1, oK), (L + 1, oC)] ++ (fl ++ tl)) ∧ IntsAre tv TT ∧ IntsAre rv NR ∧
    (∃ v, oE.data = .cell v) ∧ oK.data = .cell (some kv) ∧ stepT rest ks k = (TT, NR) ∧ @Ne Nat rb I ∧ (@Ne Nat (L + 1 + 1 + 1) rb ∧ @Ne Nat (L + 1 + 1) rb ∧ @Ne Nat (L + 1) rb) ∧
    (∀ p ∈ [(ta, listOf tv.toArray tn), (rb, listOf rv.toArray rn), (I, oI), (wl, wo), (fa, fo), (L + 1 + 1 + 1, oE), (L + 1 + 1, oK), (L + 1, oC)] ++ tl, p.1 ∉ as) ∧ TT.length ≤ 7 ∧ ∀ p ∈ TT, p ∈ S0
theorem toM {h₀ h : Heap} {L : Addr} {m m₀ : Str → Option Value} {carried : List (Str × Value)} {stored : List Str} (F : Fr h₀ L h m) (ht : Tells m carried) (ho : ∀ y, stored.contains y = false → m y = m₀ y) : Fr h₀ L h (frameM carried stored m m₀) := by
  rw [← (funext fun y => frameM_self ht (ho y) : m = frameM carried stored m m₀)]; exact F
theorem fan_join {M : Model} {A : Around} {t : Sem Flow} {Q : Flow → Shared → Prop} {E : Value → Shared → Prop} {s : Shared} {h₀ : Heap} {L : Addr} {m₁ : Str → Option Value} (I wl fa : Addr) (oI wo fo oC : Obj) (fl tl : Led) (as : List Addr) (S0 ks rest : List Int) (k : Nat) (kv : Value)
    (_F : Fr h₀ L s.heap m₁) (ways : wpAny M A t (FanJ h₀ L I wl fa oI wo fo oC fl tl as S0 ks rest k kv m₁ s) E s) (go : ∀ f s₂, FanJ h₀ L I wl fa oI wo fo oC fl tl as S0 ks rest k kv m₁ s f s₂ → Q f s₂) : wpAny M A t Q E s := wpAny_mono ways go (fun _ _ e => e)
theorem c_fans (w : World) (lp lc : Addr) (pvs cvs : List Value) (n1 n2 : Nat) (ps ks S : List Int) (news : Led) (hp : (lp, listOf pvs.toArray n1) ∈ news) (hpi : IntsAre pvs ps)
    (hc : (lc, listOf cvs.toArray n2) ∈ news) (hci : IntsAre cvs ks) (hl1 : 3 ≤ ps.length) (hl7 : ps.length ≤ 7) (hl2 : ks.length + 3 = ps.length) (hSn : S.Nodup) (hSp : S.Perm ps) (hSs : S.Pairwise (fun x y => x ≤ y)) :
    Cl w 1 118 [.ref lp, .ref lc] [] news (fun h₀ L m s Q => ∀ (fa : Addr) (fvs : List Value) (fn : Nat) (big : Led) (h' : Heap) (tk' : Nat), Fr h₀ L h' m → News h₀ L h' big → (∀ p ∈ news, p ∈ big) → (fa, listOf fvs.toArray fn) ∈ big → fvs.length = S.length →
      (∀ (i : Nat) (fs : List Int), (fansSt S ks (ks.length + 1)).2[i]? = some fs → ∃ a vs nn, fvs[i]? = some (Value.ref a) ∧ (a, listOf vs.toArray nn) ∈ big ∧ IntsAre vs fs) → Q (.ref fa) { s with heap := h', toks := tk' }) := by
  have hcl1 := hpi.length
  have hcl2 := hci.length
  have hSl := hSp.length_eq
  have b_ks : ks.length ≤ 4 := Nat.le_of_add_le_add_right (Nat.le_trans (Nat.le_of_eq hl2) hl7 : ks.length + 3 ≤ 4 + 3)
  have b_cv : cvs.length ≤ 4 := Nat.le_trans (Nat.le_of_eq hcl2) b_ks
  unfold Cl
  k_fill
  intro mean mg mb dp un gd cn cs a ccd cl outer A₀ base h₀ L m s Q E B F X N T hk hd hu hret
  refine wpAny_call ?_
  k_dflt (refine' code_defC ?k1 ?k2 ?k3 ?k4 ?k5 ?kA ?kF ?kK ?k6 ?k7 ?k8 ?k9 ?kB ?kD ?_ ?c2 ?c3 ?c4; (case kA => exact rfl); (case kF => exact rfl); (case kK => assumption); (case k1 => k_asm); (case k2 => k_asm); (case k3 => k_asm); (case k4 => k_asm); (case k5 => k_asm); (case k6 => k_is); (case k7 => k_is); (case k8 => ktr_room); (case k9 => first | exact BindsTo.of_eq rfl | exact binds_K (by k_in) rfl (by k_is) rfl rfl rfl); (case kB => exact rfl); (case kD => decide +kernel); (case c2 => exact rfl); (case c3 => exact rfl); (case c4 => exact rfl); k_whole; intro g' L' h' tk' cells' FG' F' N' Y' B' X' T' l1; (try dsimp only); (try k_lift B'); (try k_fold))
  refine foldE ?_
  intro _ _
  obtain ⟨oE, oK, oC, hE', dE, dK, dC⟩ := CellsAre.three Y'
  subst hE'
  have dE : oE.data = .cell none := dE
  have dK : oK.data = .cell none := dK
  have dC : oC.data = .cell (some (.ref lc)) := dC
  simp only [List.cons_append, List.nil_append] at N'
  have hU : Under L' news := l1
  repeat' ((fail_if_success (with_reducible show wpAny _ _ (exec (Stmt.Assign _ (Expr.ListComp _ _ _ _) _) _) _ _ _)); first | (k_unfold; (try dsimp only)) | (k_end; wrow_close) | k_extra "fold" | k_extra "u1" | walk1 | (dsimp only; (first | k_extra "fold" | k_extra "u1" | walk1)) | (leave1; walk_say "STEP leave1"; try dsimp only) | fail "no step")
  rename_i ra rv S0 rn hh1 hSi e1 p1 o1 y1 y2 y3 y4 y5 y6 y7 y8 y9 y10 y11
  rename News g' L' _ _ => kN
  have hEq := sorted_unique (p1.trans hSp.symm) o1 hSs
  subst hEq
  have hvl := hSi.length
  have b_S0 : S0.length ≤ 7 := Nat.le_trans (Nat.le_of_eq e1) hl7
  have b_rv : rv.length ≤ 7 := Nat.le_trans (Nat.le_of_eq hvl) b_S0
  obtain ⟨B, kN, hB⟩ : ∃ B, News g' L' _ B ∧ B = _ := ⟨_, kN, rfl⟩
  refine Assign_ListComp_U (by assumption) (by exact rfl) (by exact rfl) (by exact rfl) (by decide) (by exact rfl) (by decide) (by exact rfl) (by exact rfl) (by exact rfl) ?_ (by intro _; exact rfl)
  first | k_extra "fold" | k_extra "u1" | walk1
  refine CompSrc.ledger (by exact rfl) (by assumption) kN (by rw [hB]; exact List.Mem.head _) (by simp only [List.size_toArray, sizeLine]; k_extra "om") fun g => ?_
  refine compU (fun i ys nw => ∃ as : List Addr, as.length = i ∧ ys = as.map Value.ref ∧ nw = (as.map fun a => (a, listOf [].toArray 0)) ++ B ∧ as.Nodup ∧ (∀ a ∈ as, ∀ p ∈ B, p.1 < a)) ⟨[], rfl, rfl, rfl, .nil, fun _ h => nomatch h⟩ ?turn ?fin
  case turn =>
    rintro i v ys nw I oI C oC D m₂ h tk E' hi hP ⟨as, hal, rfl, rfl, hnd, hlt⟩ hoC hx F9 N9 off ne
    repeat' (first | (k_unfold; (try dsimp only)) | (k_end; wrow_close) | k_extra "fold" | k_extra "u1" | walk1 | (dsimp only; (first | k_extra "fold" | k_extra "u1" | walk1)) | (leave1; walk_say "STEP leave1"; try dsimp only) | fail "no step")
    rename_i lA hA FA NA lA1
    have hall := allLt_mem lA1.2.2.2
    have hoff := off.mem
    refine CompEnd.intro FA NA (((as ++ [lA]).map fun a => (a, listOf [].toArray 0)) ++ B) ?_ ?_ ?_ ⟨as ++ [lA], by simp [hal], by simp, rfl, ?_, ?_⟩
    · intro p hp
      rcases List.mem_cons.mp hp with rfl | hp
      · exact .tail _ (.head _)
      · rcases List.mem_cons.mp hp with rfl | hp
        · exact .tail _ (.tail _ (.head _))
        · rcases List.mem_cons.mp hp with rfl | hp
          · exact .tail _ (.tail _ (.tail _ (.head _)))
          · rcases List.mem_append.mp hp with hp | hp
            · rw [List.map_append] at hp
              rcases List.mem_append.mp hp with hp | hp
              · exact .tail _ (.tail _ (.tail _ (.tail _ (List.mem_append_left _ hp))))
              · rw [List.mem_singleton.mp hp]; exact .head _
            · exact .tail _ (.tail _ (.tail _ (.tail _ (List.mem_append_right _ hp))))
    · refine Off3.of fun p hp => ?_
      rcases List.mem_append.mp hp with hp | hp
      · rw [List.map_append] at hp
        rcases List.mem_append.mp hp with hp | hp
        · exact hoff p (List.mem_append_left _ hp)
        · rw [List.mem_singleton.mp hp]; exact ⟨Nat.ne_of_gt lA1.1, Nat.ne_of_gt lA1.2.1, Nat.ne_of_gt lA1.2.2.1⟩
      · exact hoff p (List.mem_append_right _ hp)
    · exact .inr ⟨_, List.mem_append_right _ (by rw [hB]; exact List.Mem.head _), rfl, _, rfl⟩
    · refine List.nodup_append.mpr ⟨hnd, by simp, fun a ha b hb => ?_⟩
      rw [List.mem_singleton.mp hb]
      exact Nat.ne_of_lt (hall (a, listOf [].toArray 0) (List.mem_append_left _ (List.mem_map.mpr ⟨a, ha, rfl⟩)))
    · intro a ha p hp
      rcases List.mem_append.mp ha with ha | ha
      · exact hlt a ha p hp
      · rw [List.mem_singleton.mp ha]; exact hall p (List.mem_append_right _ hp)
  case fin =>
    rintro ys nw ⟨as, hal, rfl, rfl, hnd, hlt⟩
    intro fa h tk F9 N9 off
    have hoff := Off1.mem off
    have hTL : ∀ (c : Addr), L' < c → c ≤ L' + 1 + 1 + 1 → ∀ p ∈ (as.map fun a => (a, listOf [].toArray 0)) ++ news, p.1 ≠ c := by
      intro c h1 h2 p hp
      rcases List.mem_append.mp hp with hp | hp
      · obtain ⟨a, ha, rfl⟩ := List.mem_map.mp hp
        have : @LT.lt Nat _ (L' + 1 + 1 + 1) a := hlt a ha (L' + 1 + 1 + 1, oE) (by rw [hB]; exact .tail _ (.head _))
        exact Nat.ne_of_gt (Nat.lt_of_le_of_lt h2 this)
      · exact Nat.ne_of_lt (Nat.lt_trans (hU p hp) h1)
    have hK2 := hTL (L' + 1 + 1) (Nat.lt_succ_of_lt (Nat.lt_succ_self _)) (Nat.le_succ _)
    have hE2 := hTL (L' + 1 + 1 + 1) (Nat.lt_succ_of_lt (Nat.lt_succ_of_lt (Nat.lt_succ_self _))) (Nat.le_refl _)
    have N10 : News g' L' h ((fa, lst (as.map Value.ref)) :: (ra, listOf rv.toArray rn) :: (L' + 1 + 1 + 1, oE) :: (L' + 1 + 1, oK) :: (L' + 1, oC) :: ((as.map fun a => (a, listOf [].toArray 0)) ++ news)) := by
      intro p hp
      rw [hB] at N9
      rcases List.mem_cons.mp hp with rfl | hp
      · exact N9 _ (.head _)
      · refine N9 _ (.tail _ ?_)
        rcases List.mem_cons.mp hp with e | hp
        · rw [e]; exact List.mem_append_right _ (.head _)
        · rcases List.mem_cons.mp hp with rfl | hp
          · exact List.mem_append_right _ (.tail _ (.head _))
          · rcases List.mem_cons.mp hp with rfl | hp
            · exact List.mem_append_right _ (.tail _ (.tail _ (.head _)))
            · rcases List.mem_cons.mp hp with rfl | hp
              · exact List.mem_append_right _ (.tail _ (.tail _ (.tail _ (.head _))))
              · rcases List.mem_append.mp hp with hp | hp
                · exact List.mem_append_left _ hp
                · exact List.mem_append_right _ (.tail _ (.tail _ (.tail _ (.tail _ hp))))
    clear N9
    dsimp only
    repeat' ((fail_if_success (with_reducible show wpAny _ _ (exec (Stmt.For _ _ _ _ _) _) _ _ _)); first | (k_unfold; (try dsimp only)) | (k_end; wrow_close) | k_extra "fold" | k_extra "u1" | walk1 | (dsimp only; (first | k_extra "fold" | k_extra "u1" | walk1)) | (leave1; walk_say "STEP leave1"; try dsimp only) | fail "no step")
    refine For_invTF (by assumption) ?_ (by intro _; exact rfl)
    repeat' ((fail_if_success (with_reducible show wpAny _ _ (pyIter _) _ _ _)); first | (k_unfold; (try dsimp only)) | (k_end; wrow_close) | k_extra "fold" | k_extra "u1" | walk1 | (dsimp only; (first | k_extra "fold" | k_extra "u1" | walk1)) | (leave1; walk_say "STEP leave1"; try dsimp only) | fail "no step")
    rename_i wl wn w1 lW w2 w3 w4 w5 w6 w7 w8 w9 w11 w12 w13 hR F3 N3 w10
    have hasl : as.length = S0.length := by simpa [hvl] using hal
    refine iter_rngT (n := ks.length + 1) (fun (z : FaZ) => [(Str.ofString "rest", .ref z.ra)]) [Str.ofString "rest", Str.ofString "three", Str.ofString "behind", Str.ofString "spot", Str.ofString "place"]
      (fun z => (wl, listOf rv.toArray wn) :: (fa, lst (as.map Value.ref)) :: (z.ra, listOf z.rv.toArray z.rn) :: (L' + 1 + 1 + 1, z.oE) :: (L' + 1 + 1, z.oK) :: (L' + 1, oC) :: (fled as z.os ++ news))
      (fun k z => z.rest = (fansSt S0 ks k).1 ∧ IntsAre z.rv z.rest ∧ FansAre z.os (fansSt S0 ks k).2 ∧ (∃ v, z.oE.data = .cell v) ∧ (∃ v, z.oK.data = .cell v) ∧ z.os.length = as.length ∧ (@Ne Nat (L' + 1 + 1 + 1) z.ra ∧ @Ne Nat (L' + 1 + 1) z.ra ∧ @Ne Nat (L' + 1) z.ra) ∧ z.ra ∉ as)
      ⟨ra, rv, rn, S0, as.map fun _ => listOf [].toArray 0, oE, oK⟩ (by exact rfl) hR (rng_small (by k_extra "om") (by k_extra "om") (by k_extra "om") (by k_extra "om")) (rng_size (by k_extra "om")) (by intro _ _; exact rfl) F3 N3 ?sub ⟨rfl, trivial⟩ ?start ?turn ?done
    case sub =>
      intro p hp
      dsimp only at hp
      rw [fled_map] at hp
      exact hp
    case start =>
      refine ⟨rfl, hSi, fans_start hasl, ⟨_, dE⟩, ⟨_, dK⟩, by simp, ⟨?_, ?_, ?_⟩, ?_⟩
      · dsimp only; k_extra "om"
      · dsimp only; k_extra "om"
      · dsimp only; k_extra "om"
      · intro hin
        exact absurd (hlt ra hin (ra, _) (by rw [hB]; exact .head _)) (Nat.lt_irrefl _)
    case done =>
      intro z u9 h9 tk9 ⟨_, _, hfa, _, _, hol, _, _⟩ F9 N9
      repeat' (first | (k_unfold; (try dsimp only)) | (k_end; wrow_close) | k_extra "fold" | k_extra "u1" | walk1 | (dsimp only; (first | k_extra "fold" | k_extra "u1" | walk1)) | (leave1; walk_say "STEP leave1"; try dsimp only) | fail "no step")
      refine hret fa (as.map Value.ref) _ _ _ _ (by assumption) (by assumption) (fun p hp => mem_tail 6 rfl (List.mem_append_right _ hp)) (.tail _ (.head _)) (by simpa [hvl] using hal) ?_
      intro i fs hfs
      obtain ⟨hfl, hfo⟩ := hfa
      have hi : i < z.os.length := by rw [hfl]; exact (List.getElem?_eq_some_iff.mp hfs).1
      obtain ⟨aa, haa⟩ : ∃ aa, as[i]? = some aa := ⟨_, List.getElem?_eq_getElem (by k_extra "om")⟩
      obtain ⟨vs, nn, ho, hvi⟩ := hfo i _ fs (List.getElem?_eq_getElem hi) hfs
      refine ⟨aa, vs, nn, by rw [List.getElem?_map, haa]; rfl, mem_tail 6 rfl (List.mem_append_left _ ?_), hvi⟩
      exact mem_fled.mpr ⟨i, haa, by rw [List.getElem?_eq_getElem hi, ho]⟩
    case turn =>
      rintro I k t ⟨ra2, rv2, rn2, rest, os, oE2, oK2⟩ u h2 g2 d2 tk2 os2 oI hk2 ⟨hre, hri, hfa, ⟨vE, hvE⟩, ⟨vK, hvK⟩, hol, ⟨hr1, hr2, hr3⟩, hras⟩ hne F4 N4
      dsimp only at hre hri hfa hvE hvK hol hr1 hr2 hr3 hras hne F4 N4
      have hri2 := hri.length
      have hkle : k ≤ ks.length := Nat.le_of_lt_succ hk2
      have b_k : k ≤ 4 := Nat.le_trans hkle b_ks
      have q1 : @Ne Nat (L' + 1 + 1 + 1) I := hne _ (.tail _ (.tail _ (.tail _ (.head _))))
      have q2 : @Ne Nat (L' + 1 + 1) I := hne _ (.tail _ (.tail _ (.tail _ (.tail _ (.head _)))))
      have q3 : @Ne Nat (L' + 1) I := hne _ (.tail _ (.tail _ (.tail _ (.tail _ (.tail _ (.head _))))))
      have q4 : @Ne Nat ra2 I := hne _ (.tail _ (.tail _ (.head _)))
      have q5 : @Ne Nat fa I := hne _ (.tail _ (.head _))
      have q6 : @Ne Nat wl I := hne _ (.head _)
      have q7 : @Ne Nat (L' + 1 + 1 + 1) fa := hoff (L' + 1 + 1 + 1, oE) (by rw [hB]; exact List.mem_append_right _ (.tail _ (.head _)))
      have q7b : @Ne Nat (L' + 1 + 1) fa := hoff (L' + 1 + 1, oK) (by rw [hB]; exact List.mem_append_right _ (.tail _ (.tail _ (.head _))))
      have q7c : @Ne Nat (L' + 1) fa := hoff (L' + 1, oC) (by rw [hB]; exact List.mem_append_right _ (.tail _ (.tail _ (.tail _ (.head _)))))
      have hdC : ∀ a ∈ as, a ≠ fa ∧ @LT.lt Nat _ (L' + 1 + 1 + 1) a ∧ (a ≠ wl) ∧ (a ≠ I) ∧ (∀ p ∈ news, p.1 ≠ a) := by
        intro a ha
        refine ⟨hoff (a, listOf [].toArray 0) (List.mem_append_left _ (List.mem_map.mpr ⟨a, ha, rfl⟩)), hlt a ha (L' + 1 + 1 + 1, oE) (by rw [hB]; exact .tail _ (.head _)),
          Nat.ne_of_lt (allLt_mem lW.2.2.2.2.2 (a, listOf [].toArray 0) (List.mem_append_left _ (List.mem_map.mpr ⟨a, ha, rfl⟩))), ?_, fun p hp => Nat.ne_of_lt (hlt a ha p (by rw [hB]; exact .tail _ (.tail _ (.tail _ (.tail _ hp)))))⟩
        obtain ⟨o, ho⟩ := fled_has hol ha
        exact hne (a, o) (.tail _ (.tail _ (.tail _ (.tail _ (.tail _ (.tail _ (List.mem_append_left _ ho)))))))
      have q8 : @LT.lt Nat _ (L' + 1 + 1 + 1) wl := lW.2.2.1
      have hTL2 : ∀ (c : Addr), L' < c → c ≤ L' + 1 + 1 + 1 → ∀ p ∈ fled as os ++ news, p.1 ≠ c := by
        intro c h1 h2 p hp
        rcases List.mem_append.mp hp with hp | hp
        · have ha : p.1 ∈ as := (List.of_mem_zip hp).1
          have : @LT.lt Nat _ (L' + 1 + 1 + 1) p.1 := hlt p.1 ha (L' + 1 + 1 + 1, oE) (by rw [hB]; exact .tail _ (.head _))
          exact Nat.ne_of_gt (Nat.lt_of_le_of_lt h2 this)
        · exact Nat.ne_of_lt (Nat.lt_trans (hU p hp) h1)
      have hK3 := hTL2 (L' + 1 + 1) (Nat.lt_succ_of_lt (Nat.lt_succ_self _)) (Nat.le_succ _)
      have hE3 := hTL2 (L' + 1 + 1 + 1) (Nat.lt_succ_of_lt (Nat.lt_succ_of_lt (Nat.lt_succ_self _))) (Nat.le_refl _)
      repeat' ((fail_if_success (with_reducible show wpAny _ _ (exec (Stmt.If _ _ _ _) _) _ _ _)); first | (k_unfold; (try dsimp only)) | (k_end; wrow_close) | k_extra "fold" | k_extra "u1" | walk1 | (dsimp only; (first | k_extra "fold" | k_extra "u1" | walk1)) | (leave1; walk_say "STEP leave1"; try dsimp only) | fail "no step")
      rename_i h9 oKn dKn tk9 z1 z2 h10 F10 N10' z3 kFJ z6
      have hS3 : ks.length + 3 = S0.length := by rw [hSp.length_eq]; exact hl2
      have hinv := fans_inv hSn hS3 k hkle
      have hinvl : rest.length + k = S0.length := by have := hinv.len; rw [← hre] at this; exact this
      have hrl : rest.length ≤ 7 := Nat.le_trans (Nat.le_trans (Nat.le_add_right _ k) (Nat.le_of_eq hinvl)) b_S0
      have b_rv2 : rv2.length ≤ 7 := Nat.le_trans (Nat.le_of_eq hri2) hrl
      refine fan_join I wl fa oI (listOf rv.toArray wn) (lst (as.map Value.ref)) oC (fled as os) news as S0 ks rest k (.int (0 + (k : Int)) t) kFJ ?ways ?go
      case ways =>
       repeat' ((fail_if_success (with_reducible show wpAny _ _ (exec (Stmt.Assign _ (Expr.ListComp _ _ _ _) _) _) _ _ _)); first | (k_unfold; (try dsimp only)) | (k_end; wrow_close) | k_extra "fold" | k_extra "u1" | walk1 | (dsimp only; (first | k_extra "fold" | k_extra "u1" | walk1)) | (leave1; walk_say "STEP leave1"; try dsimp only) | fail "no step")
       · skip
         have hkl : k < ks.length := by
             have h := (by assumption : (0 : Int) + (k : Int) < (cvs.length : Int))
             rw [Int.zero_add, hcl2] at h
             exact Int.ofNat_lt.mp h
         have hcv : ∃ tc, cvs[k]? = some (Value.int (ks.getD k 0) tc) := by
           obtain ⟨tc, hx⟩ := hci.get k ks[k] (List.getElem?_eq_getElem hkl)
           exact ⟨tc, by rw [hx]; simp [List.getD_eq_getElem?_getD, List.getElem?_eq_getElem hkl]⟩
         obtain ⟨tc, hcv⟩ := hcv
         have hrp : 0 < rest.length := by k_extra "om"
         have hnz : (rv2.length : Int) ≠ 0 := by rw [hri2]; exact Int.ofNat_ne_zero.mpr (Nat.ne_of_gt hrp)
         rename News g' L' _ _ => kN
         rename Fr g' L' _ _ => kF
         refine Assign_filter (fun p => decide (p ≥ ks.getD k 0)) (ra := ra2) (rv := rv2) (rn := rn2) (rs := rest) (by exact rfl) kF kN (by exact rfl) (by exact rfl) (by exact rfl) (by decide) (by exact rfl) (by decide) (by exact rfl) (by decide) (by exact rfl) (by exact rfl) (by intro _; exact rfl) ?h1 (by news_mem) hri ?hpl ?HT ?fin
         case h1 =>
           intro Q' hQ
           first | k_extra "fold" | k_extra "u1" | walk1
           exact hQ
         case hpl => k_extra "om"
         case HT =>
           intro p tp C oC3 m₂ h tk all Q' E' hoC hm1 F9 N9 hC hsub hk
           have c1 := hsub (L' + 1, oC) (by news_mem)
           have c2 := hsub (L' + 1 + 1, _) (.tail _ (.tail _ (.tail _ (.tail _ (.tail _ (.head _))))))
           have c3 := hsub (lc, listOf cvs.toArray n2) (by news_mem)
           repeat' ((fail_if_success (with_reducible show wpAny _ _ (subscriptTail _ _ _ _) _ _ _)); first | (k_unfold; (try dsimp only)) | (k_end; wrow_close) | k_extra "fold" | k_extra "u1" | walk1 | (dsimp only; (first | k_extra "fold" | k_extra "u1" | walk1)) | (leave1; walk_say "STEP leave1"; try dsimp only) | fail "no step")
           refine my_item (News.isList (by assumption) c3) (by k_extra "om") (by k_extra "om") (x := Value.int (ks.getD k 0) tc) (by simpa using hcv) ?_
           repeat' (first | (k_unfold; (try dsimp only)) | (k_end; wrow_close) | k_extra "fold" | k_extra "u1" | walk1 | (dsimp only; (first | k_extra "fold" | k_extra "u1" | walk1)) | (leave1; walk_say "STEP leave1"; try dsimp only) | fail "no step")
           exact hk _ _ _ rfl (by assumption) (by assumption)
         case fin =>
           intro ba bv h tk F9 N9 hoB hbi
           have hbl := hbi.length
           have hbl2 := List.length_filter_le (fun p => decide (p ≥ ks.getD k 0)) rest
           have b_bv : bv.length ≤ 7 := Nat.le_trans (Nat.le_of_eq hbl) (Nat.le_trans hbl2 hrl)
           repeat' ((fail_if_success (with_reducible show wpAny _ _ (binaryOp Operator.Add (Value.ref _) _) _ _ _)); first | (k_unfold; (try dsimp only)) | (k_end; wrow_close) | k_extra "fold" | k_extra "u1" | walk1 | (dsimp only; (first | k_extra "fold" | k_extra "u1" | walk1)) | (leave1; walk_say "STEP leave1"; try dsimp only) | fail "no step")
           refine my_add (by assumption) (by assumption) (List.Mem.head _) (by news_mem) (Nat.le_trans (Nat.add_le_add b_bv b_rv2) (by decide)) ?_
           intro sa h3 F5 N5 lS
           have hsi := hbi.append hri
           obtain ⟨te, hse⟩ := ints_get hsi (i := 0) (by rw [List.length_append]; k_extra "om")
           repeat' ((fail_if_success (with_reducible show wpAny _ _ (subscriptTail _ _ _ _) _ _ _)); first | (k_unfold; (try dsimp only)) | (k_end; wrow_close) | k_extra "fold" | k_extra "u1" | walk1 | (dsimp only; (first | k_extra "fold" | k_extra "u1" | walk1)) | (leave1; walk_say "STEP leave1"; try dsimp only) | fail "no step")
           have hse2 : (bv ++ rv2)[Int.toNat 0]? = some (Value.int (earOf rest (ks.getD k 0)) te) := by
             rw [show Int.toNat 0 = 0 from rfl, hse]
             simp only [earOf, List.headD_eq_head?_getD, List.getD_eq_getElem?_getD, List.head?_eq_getElem?]
           have hem : earOf rest (ks.getD k 0) ∈ rest := earOf_mem hrp
           refine my_item (News.isList (by assumption) (List.Mem.head _)) (by k_extra "om") (by k_extra "om") hse2 ?_
           generalize hee : earOf rest (ks.getD k 0) = ear at *
           obtain ⟨lS0, lS1, lS2, lS3, lS4, lS5, lS6, lS7, lS8⟩ : @LT.lt Nat _ ba sa ∧ @LT.lt Nat _ I sa ∧ @LT.lt Nat _ wl sa ∧ @LT.lt Nat _ fa sa ∧ @LT.lt Nat _ ra2 sa ∧ @LT.lt Nat _ (L' + 1 + 1 + 1) sa ∧ @LT.lt Nat _ (L' + 1 + 1) sa ∧ @LT.lt Nat _ (L' + 1) sa ∧ True :=
             ⟨lS _ (.head _), lS _ (.tail _ (.head _)), lS _ (.tail _ (.tail _ (.head _))), lS _ (.tail _ (.tail _ (.tail _ (.head _)))), lS _ (.tail _ (.tail _ (.tail _ (.tail _ (.head _))))), lS _ (.tail _ (.tail _ (.tail _ (.tail _ (.tail _ (.head _)))))), lS _ (.tail _ (.tail _ (.tail _ (.tail _ (.tail _ (.tail _ (.head _))))))), lS _ (.tail _ (.tail _ (.tail _ (.tail _ (.tail _ (.tail _ (.tail _ (.head _)))))))), trivial⟩
           obtain ⟨b0, b1, b2, b3, b4, b5, b6, b7⟩ := hoB
           repeat' ((fail_if_success (with_reducible show wpAny _ _ (call (Value.builtin "list.index") _ _) _ _ _)); first | (k_unfold; (try dsimp only)) | (k_end; wrow_close) | k_extra "fold" | k_extra "u1" | walk1 | (dsimp only; (first | k_extra "fold" | k_extra "u1" | walk1)) | (leave1; walk_say "STEP leave1"; try dsimp only) | fail "no step")
           rename_i h11 oEn F11 N11 dEn z1 z2 z3
           refine my_index (l := ra2) (vs := rv2) (nn := rn2) (ns := rest) (by assumption) (by news_mem) hri (by k_extra "om") hem ?_
           have hsp : rest.idxOf ear < rest.length := List.idxOf_lt_length_iff.mpr hem
           obtain ⟨t5, hv5⟩ := ints_get hri (i := (rest.idxOf ear + rest.length - 1) % rest.length) (Nat.mod_lt _ hrp)
           obtain ⟨t6, hv6⟩ := ints_get hri (i := (rest.idxOf ear + 1) % rest.length) (Nat.mod_lt _ hrp)
           repeat' ((fail_if_success (with_reducible show wpAny _ _ (subscriptTail _ _ _ _) _ _ _)); first | (k_unfold; (try dsimp only)) | (k_end; wrow_close) | k_extra "fold" | k_extra "u1" | walk1 | (dsimp only; (first | k_extra "fold" | k_extra "u1" | walk1)) | (leave1; walk_say "STEP leave1"; try dsimp only) | fail "no step")
           refine my_itemPy (vs := rv2) (News.isList (by assumption) (by news_mem)) (by k_extra "om") (by k_extra "om") (by rw [hri2]; exact hv5) ?_
           repeat' ((fail_if_success (with_reducible show wpAny _ _ (subscriptTail _ _ _ _) _ _ _)); first | (k_unfold; (try dsimp only)) | (k_end; wrow_close) | k_extra "fold" | k_extra "u1" | walk1 | (dsimp only; (first | k_extra "fold" | k_extra "u1" | walk1)) | (leave1; walk_say "STEP leave1"; try dsimp only) | fail "no step")
           have hfm : Int.fmod ((rest.idxOf ear : Int) + 1) (rv2.length : Int) = (((rest.idxOf ear + 1) % rest.length : Nat) : Int) := by
             rw [hri2, Int.fmod_eq_emod_of_nonneg _ (by k_extra "om")]; push_cast; rfl
           have hml := Nat.mod_lt (rest.idxOf ear + 1) hrp
           have b_ml : (rest.idxOf ear + 1) % rest.length ≤ 7 := Nat.le_trans (Nat.le_of_lt hml) hrl
           rw [hfm]
           refine my_item (vs := rv2) (News.isList (by assumption) (by news_mem)) (by k_extra "om") (by k_extra "om") (by rw [Int.toNat_natCast]; exact hv6) ?_
           repeat' ((fail_if_success (with_reducible show wpAny _ _ (exec (Stmt.Assign _ (Expr.ListComp _ _ _ _) _) _) _ _ _)); first | (k_unfold; (try dsimp only)) | (k_end; wrow_close) | k_extra "fold" | k_extra "u1" | walk1 | (dsimp only; (first | k_extra "fold" | k_extra "u1" | walk1)) | (leave1; walk_say "STEP leave1"; try dsimp only) | fail "no step")
           rename_i ta h12 lT h13 F13 N13 z4 z5 z6
           rename News g' L' _ _ => kN2
           rename Fr g' L' _ _ => kF2
           refine Assign_filter (fun p => decide (p ≠ ear)) (ra := ra2) (rv := rv2) (rn := rn2) (rs := rest) (by exact rfl) kF2 kN2 (by exact rfl) (by exact rfl) (by exact rfl) (by decide) (by exact rfl) (by decide) (by exact rfl) (by decide) (by exact rfl) (by exact rfl) (by intro _; exact rfl) ?h1 (by news_mem) hri (by k_extra "om") ?HT ?fin
           case h1 =>
             intro Q' hQ
             first | k_extra "fold" | k_extra "u1" | walk1
             exact hQ
           case HT =>
             intro p tp C oC3 m₂ h tk all Q' E' hoC hm1 F9 N9 hC hsub hk
             have c1 := hsub (L' + 1 + 1 + 1, oEn) (by news_mem)
             repeat' (first | (k_unfold; (try dsimp only)) | (k_end; wrow_close) | k_extra "fold" | k_extra "u1" | walk1 | (dsimp only; (first | k_extra "fold" | k_extra "u1" | walk1)) | (leave1; walk_say "STEP leave1"; try dsimp only) | fail "no step")
             exact hk _ _ _ (by by_cases hpe : p = ear <;> simp [hpe]) (by assumption) (by assumption)
           case fin =>
             intro rb rbv h tk F9 N9 hoB2 hbi2
             repeat' (first | (k_unfold; (try dsimp only)) | (k_end; wrow_close) | k_extra "fold" | k_extra "u1" | walk1 | (dsimp only; (first | k_extra "fold" | k_extra "u1" | walk1)) | (leave1; walk_say "STEP leave1"; try dsimp only) | fail "no step")
             obtain ⟨tvs, htv⟩ : ∃ tvs : List Value, tvs = [Value.int (rest.getD ((rest.idxOf ear + rest.length - 1) % rest.length) 0) t5, Value.int ear te, Value.int (rest.getD ((rest.idxOf ear + 1) % rest.length) 0) t6] := ⟨_, rfl⟩
             have hTS : ∀ p ∈ threeOf rest ear, p ∈ S0 := fun p hp => hinv.sub p (by rw [← hre]; exact threeOf_mem hem p hp)
             have hti : IntsAre tvs (threeOf rest ear) := by rw [htv]; exact IntsAre.cons _ _ (IntsAre.cons _ _ (IntsAre.cons _ _ IntsAre.nil))
             have hdis : ∀ p ∈ [(ta, listOf tvs.toArray 0), (rb, listOf rbv.toArray rbv.length), (I, oI), (wl, listOf rv.toArray wn), (fa, lst (as.map Value.ref)), (L' + 1 + 1 + 1, oEn), (L' + 1 + 1, oKn), (L' + 1, oC)] ++ news, p.1 ∉ as := by
               intro p hp hin
               obtain ⟨z1, z2, z3, z4, z5⟩ := hdC p.1 hin
               obtain ⟨o, ho⟩ := fled_has hol hin
               simp only [List.cons_append, List.nil_append, List.mem_cons] at hp
               rcases hp with rfl | rfl | rfl | rfl | rfl | rfl | rfl | rfl | hp
               · exact absurd (allLt_mem lT.2.2.2.2.2.2.2.2.2 (ta, o) (List.mem_append_left _ ho)) (Nat.lt_irrefl _)
               · exact Off1.mem hoB2 (rb, o) (by repeat' (first | exact List.mem_append_left _ ho | refine List.Mem.tail _ ?_)) rfl
               · exact z4 rfl
               · exact z3 rfl
               · exact z1 rfl
               · exact absurd z2 (Nat.lt_irrefl _)
               · exact absurd z2 (Nat.not_lt.mpr (Nat.le_succ _))
               · exact absurd z2 (Nat.not_lt.mpr (Nat.le_trans (Nat.le_succ _) (Nat.le_succ _)))
               · exact z5 p hp rfl
             have hTl : (threeOf rest ear).length ≤ 7 := by simp [threeOf]
             rename News g' L' _ _ => kN3
             refine ⟨rfl, _, _, _, ta, rb, tvs, rbv, 0, rbv.length, threeOf rest ear, rest.filter (fun p => decide (p ≠ ear)), oEn, oKn, rfl, toM (by assumption) ⟨rfl, rfl, trivial⟩ ?fo, fun p hp => kN3 p ?nw, hti, hbi2, ⟨_, dEn⟩, dKn, by rw [stepT_lt hkl, hee],
               (fun e => Off1.mem hoB2 (I, oI) (by news_mem) e.symm), ⟨Off1.mem hoB2 (L' + 1 + 1 + 1, oEn) (by news_mem), Off1.mem hoB2 (L' + 1 + 1, oKn) (by news_mem), Off1.mem hoB2 (L' + 1, oC) (by news_mem)⟩, hdis, hTl, hTS⟩
             case fo =>
               intro y hy
               have e2 : y ≠ Str.ofString "rest" := nc hy rfl
               have e3 : y ≠ Str.ofString "three" := nc hy rfl
               have e4 : y ≠ Str.ofString "behind" := nc hy rfl
               have e5 : y ≠ Str.ofString "spot" := nc hy rfl
               dsimp +zetaDelta only
               simp only [if_neg e2, if_neg e3, if_neg e4, if_neg e5]
             case nw => exact sub8_of hp (by rw [htv]; exact .tail _ (.head _)) (.head _) (mem_at 4 rfl) (mem_at 5 rfl) (mem_at 6 rfl) (mem_at 8 rfl) (mem_at 9 rfl) (mem_at 10 rfl) fun _ hp => mem_tail 11 rfl hp
       · skip
         have hkl : ¬ k < ks.length := fun h => (by assumption : ¬ (0 : Int) + (k : Int) < (cvs.length : Int)) (by rw [Int.zero_add, hcl2]; exact Int.ofNat_lt.mpr h)
         have hTS : ∀ p ∈ rest, p ∈ S0 := fun p hp => hinv.sub p (by rw [← hre]; exact hp)
         have hdis : ∀ p ∈ [(ra2, listOf rv2.toArray rn2), (ra2, listOf rv2.toArray rn2), (I, oI), (wl, listOf rv.toArray wn), (fa, lst (as.map Value.ref)), (L' + 1 + 1 + 1, oE2), (L' + 1 + 1, oKn), (L' + 1, oC)] ++ news, p.1 ∉ as := by
              intro p hp hin
              obtain ⟨z1, z2, z3, z4, z5⟩ := hdC p.1 hin
              rcases sub8 hp with rfl | rfl | rfl | rfl | rfl | rfl | rfl | rfl | hp
              · exact hras hin
              · exact hras hin
              · exact z4 rfl
              · exact z3 rfl
              · exact z1 rfl
              · exact absurd z2 (Nat.lt_irrefl _)
              · exact absurd z2 (Nat.not_lt.mpr (Nat.le_succ _))
              · exact absurd z2 (Nat.not_lt.mpr (Nat.le_trans (Nat.le_succ _) (Nat.le_succ _)))
              · exact z5 p hp rfl
         rename News g' L' _ _ => kN3
         refine ⟨rfl, _, _, _, ra2, ra2, rv2, rv2, rn2, rn2, rest, rest, oE2, oKn, rfl, toM (by assumption) ⟨rfl, rfl, trivial⟩ ?fo2, fun p hp => kN3 p ?nw2, hri, hri, ⟨_, hvE⟩, dKn, stepT_ge hkl, q4, ⟨hr1, hr2, hr3⟩, hdis, hrl, hTS⟩
         case fo2 =>
              intro y hy
              dsimp +zetaDelta only
         case nw2 => exact sub8_of hp (mem_at 3 rfl) (mem_at 3 rfl) (mem_at 0 rfl) (mem_at 1 rfl) (mem_at 2 rfl) (mem_at 4 rfl) (mem_at 5 rfl) (mem_at 6 rfl) fun _ hp => mem_tail 7 rfl hp
      case go =>
            rintro f s9 ⟨rfl, h, tk, u9, ta, rb, tvs, rbv, tn, rn9, TT, NR, oEn, oK9, rfl, kF9, kN9, hti, hbi2, ⟨vE9, dEn⟩, dK9, hst9, hri9, hr39, hdis, hTl, hTS⟩
            repeat' ((fail_if_success (with_reducible show wpAny _ _ (exec (Stmt.For _ _ _ _ _) _) _ _ _)); first | (k_unfold; (try dsimp only)) | (k_end; wrow_close) | k_extra "fold" | k_extra "u1" | walk1 | (dsimp only; (first | k_extra "fold" | k_extra "u1" | walk1)) | (leave1; walk_say "STEP leave1"; try dsimp only) | fail "no step")
            rename News g' L' _ _ => kN3
            rename Fr g' L' _ _ => kF3
            refine For_invVF kF3 (by exact rfl) (by exact rfl) ?_
            first | k_extra "fold" | k_extra "u1" | walk1
            refine iter_ledS (fun (_ : List Obj) => []) [] (fun os9 => [(ta, listOf tvs.toArray tn), (rb, listOf rbv.toArray rn9), (I, oI), (wl, listOf rv.toArray wn), (fa, lst (as.map Value.ref)), (L' + 1 + 1 + 1, oEn), (L' + 1 + 1, oK9), (L' + 1, oC)] ++ (fled as os9 ++ news))
              (fun j os9 => os9.length = as.length ∧ FansAre os9 ((TT.take j).foldl (addFan S0 k) (fansSt S0 ks k).2)) os (by exact rfl) kF3 kN3 ?isub (fun _ => List.Mem.head _) trivial ⟨hol, hfa⟩ ?iturn ?idone
            case isub =>
              intro p hp
              exact hp
            case idone =>
              rintro os9 u9 h9' tk9' ⟨hol9, hfa9⟩ F9' N9'
              simp only [List.cons_append, List.nil_append] at N9'
              repeat' (first | (k_unfold; (try dsimp only)) | (k_end; wrow_close) | k_extra "fold" | k_extra "u1" | walk1 | (dsimp only; (first | k_extra "fold" | k_extra "u1" | walk1)) | (leave1; walk_say "STEP leave1"; try dsimp only) | fail "no step")
              have htl : TT.take tvs.length = TT := List.take_of_length_le (by rw [hti.length]; exact Nat.le_refl _)
              rw [htl] at hfa9
              refine ⟨rfl, _, _, _, _, ⟨rb, rbv, rn9, NR, os9, oEn, oK9⟩, rfl, F9', N9', .tail _ (.tail _ (.head _)), ?d1, ?d2, ⟨rfl, trivial⟩, ?d3, ?d4⟩
              case d1 =>
                intro p hp
                simp only [List.mem_cons] at hp ⊢
                rcases hp with h | h | h | h | h | h | h
                · exact .inr (.inr (.inr (.inl h)))
                · exact .inr (.inr (.inr (.inr (.inl h))))
                · exact .inr (.inl h)
                · exact .inr (.inr (.inr (.inr (.inr (.inl h)))))
                · exact .inr (.inr (.inr (.inr (.inr (.inr (.inl h))))))
                · exact .inr (.inr (.inr (.inr (.inr (.inr (.inr (.inl h)))))))
                · exact .inr (.inr (.inr (.inr (.inr (.inr (.inr (.inr h)))))))
              case d2 =>
                intro p hp
                simp only [List.mem_cons] at hp
                rcases hp with rfl | rfl | rfl | rfl | rfl | rfl | h
                · exact q6
                · exact q5
                · exact hri9
                · exact q1
                · exact q2
                · exact q3
                · rcases List.mem_append.mp h with h | h
                  · exact fun e => hdis (I, oI) (by simp) (by have h9 := fled_addr h; rw [e] at h9; exact h9)
                  · exact hne p (.tail _ (.tail _ (.tail _ (.tail _ (.tail _ (.tail _ (List.mem_append_right _ h)))))))
              case d3 =>
                intro y h2
                have e1 : y ≠ Str.ofString "place" := nc h2 rfl
                have e2 : y ≠ Str.ofString "rest" := nc h2 rfl
                have e3 : y ≠ Str.ofString "three" := nc h2 rfl
                have e4 : y ≠ Str.ofString "behind" := nc h2 rfl
                have e5 : y ≠ Str.ofString "spot" := nc h2 rfl
                simp only [if_neg e1]
                rw [frameM_nil]
                dsimp +zetaDelta only
                (try simp only [if_neg e1])
                refine (frameM_out (by rfl) (sub_contains (by rfl) h2)).trans ?_
                (try simp only [if_neg e1, if_neg e2, if_neg e3, if_neg e4, if_neg e5])
                refine (frameM_out (by rfl) h2).trans ?_
                simp only [if_neg e2]
              case d4 =>
                have hst : fansSt S0 ks (k + 1) = ((stepT (fansSt S0 ks k).1 ks k).2, (stepT (fansSt S0 ks k).1 ks k).1.foldl (addFan S0 k) (fansSt S0 ks k).2) := rfl
                rw [hst, ← hre, hst9]
                exact ⟨rfl, hbi2, hfa9, ⟨_, dEn⟩, ⟨_, dK9⟩, hol9, hr39, hdis (rb, listOf rbv.toArray rn9) (by simp)⟩
            case iturn =>
              rintro I2 j v os9 u9 h9' tk9' oI2 hv9 ⟨hol9, hfa9⟩ hne2 F9' N9'
              simp only [List.cons_append, List.nil_append] at N9'
              obtain ⟨pl, tpl, rfl, hpl⟩ := IntsAre.at hti j v hv9
              have hplS : pl ∈ S0 := hTS pl (List.mem_of_getElem? hpl)
              repeat' ((fail_if_success (with_reducible show wpAny _ _ (call (Value.builtin "list.index") _ _) _ _ _)); first | (k_unfold; (try dsimp only)) | (k_end; wrow_close) | k_extra "fold" | k_extra "u1" | walk1 | (dsimp only; (first | k_extra "fold" | k_extra "u1" | walk1)) | (leave1; walk_say "STEP leave1"; try dsimp only) | fail "no step")
              refine my_index (l := wl) (vs := rv) (nn := wn) (ns := S0) (by assumption) (by news_mem) hSi (by k_extra "om") hplS ?_
              have hidx : S0.idxOf pl < S0.length := List.idxOf_lt_length_iff.mpr hplS
              have b_idx : S0.idxOf pl ≤ 7 := Nat.le_trans (Nat.le_of_lt hidx) b_S0
              have hidA : S0.idxOf pl < as.length := Nat.lt_of_lt_of_le hidx (Nat.le_of_eq hasl.symm)
              have hidO : S0.idxOf pl < os9.length := Nat.lt_of_lt_of_le hidA (Nat.le_of_eq hol9.symm)
              obtain ⟨aa, haa⟩ : ∃ aa, as[S0.idxOf pl]? = some aa := ⟨_, List.getElem?_eq_getElem (by k_extra "om")⟩
              repeat' ((fail_if_success (with_reducible show wpAny _ _ (subscriptTail _ _ _ _) _ _ _)); first | (k_unfold; (try dsimp only)) | (k_end; wrow_close) | k_extra "fold" | k_extra "u1" | walk1 | (dsimp only; (first | k_extra "fold" | k_extra "u1" | walk1)) | (leave1; walk_say "STEP leave1"; try dsimp only) | fail "no step")
              refine my_item (vs := as.map Value.ref) (News.isList (by assumption) (by news_mem)) (by k_extra "om") (by k_extra "om") (x := .ref aa) (by rw [Int.toNat_natCast, List.getElem?_map, haa]; rfl) ?_
              obtain ⟨oo, hoo⟩ : ∃ oo, os9[S0.idxOf pl]? = some oo := ⟨_, List.getElem?_eq_getElem (by k_extra "om")⟩
              have hmA : (aa, oo) ∈ fled as os9 := mem_fled.mpr ⟨_, haa, hoo⟩
              obtain ⟨ffs, hffs⟩ : ∃ ffs, ((TT.take j).foldl (addFan S0 k) (fansSt S0 ks k).2)[S0.idxOf pl]? = some ffs := ⟨_, List.getElem?_eq_getElem (by rw [← hfa9.1]; k_extra "om")⟩
              obtain ⟨avs, ann, rfl, hai⟩ := hfa9.2 _ _ _ hoo hffs
              have hmB : (aa, listOf avs.toArray ann) ∈ fled as os9 ++ news := List.mem_append_left _ hmA
              have hal9 : avs.length ≤ 1000 := by
                rw [hai.length]
                have h1 := foldFan_le (S := S0) (k := k) (T := TT.take j) hinv.short ffs (List.mem_of_getElem? hffs)
                have h2 : (TT.take j).length ≤ 7 := by rw [List.length_take]; exact Nat.le_trans (Nat.min_le_right _ _) hTl
                exact Nat.le_trans h1 (Nat.le_trans (Nat.add_le_add (Nat.mul_le_mul_left 10 b_k) h2) (by decide))
              repeat' ((fail_if_success (with_reducible show wpAny _ _ (call _ _ _) _ _ _)); first | (k_unfold; (try dsimp only)) | (k_end; wrow_close) | k_extra "fold" | k_extra "u1" | walk1 | (dsimp only; (first | k_extra "fold" | k_extra "u1" | walk1)) | (leave1; walk_say "STEP leave1"; try dsimp only) | fail "no step")
              have h2k : (1 * 2 ^ ((0 : Int) + (k : Int)).toNat : Int) = ((2 ^ k : Nat) : Int) := by simp
              rw [h2k]
              refine my_appendI (li := avs) (n := ann) (by assumption) (by assumption) (by news_mem) hal9 ?_
              intro t14 h14 F14 N14
              repeat' (first | (k_unfold; (try dsimp only)) | (k_end; wrow_close) | k_extra "fold" | k_extra "u1" | walk1 | (dsimp only; (first | k_extra "fold" | k_extra "u1" | walk1)) | (leave1; walk_say "STEP leave1"; try dsimp only) | fail "no step")
              refine ⟨_, _, _, _, os9.set (S0.idxOf pl) (listOf (avs ++ [Value.int ((2 ^ k : Nat) : Int) t14]).toArray (ann + 1)), rfl, F14, N14, ?i1, ?i2, ?i3, trivial, ?i4, by rw [List.length_set]; exact hol9, ?i5⟩
              case i1 => exact ledSet_ne (.head _) fun e => hne2 (aa, listOf avs.toArray ann) (List.mem_append_right _ hmB) e.symm
              case i2 => exact need_step hnd haa hdis
              case i3 => exact need_ne hnd haa hdis hmA hne2
              case i4 =>
                intro y h1 h2
                exact if_neg h1
              case i5 =>
                have e : (TT.take (j + 1)).foldl (addFan S0 k) (fansSt S0 ks k).2 = addFan S0 k ((TT.take j).foldl (addFan S0 k) (fansSt S0 ks k).2) pl := by
                  rw [List.take_add_one, hpl, List.foldl_append]; rfl
                rw [e]
                exact fans_step hfa9 hffs hai
end

/-! part StrPure -/
section
open PySem PySem.W PyProof.Rows PySem.Spec PySem.Calls
set_option Elab.async false
set_option maxRecDepth 100000
set_option maxHeartbeats 4000000

theorem reset_StrPure : True := by
  w_top off
  trivial
abbrev sl (a b : Str) : Prop := a.cps.toList < b.cps.toList
theorem sl_irrefl (a : Str) : ¬ sl a a := List.lt_irrefl _
theorem sl_trans {a b c : Str} (h : sl a b) (h' : sl b c) : sl a c := List.lt_trans h h'
theorem sl_asymm {a b : Str} (h : sl a b) : ¬ sl b a := List.lt_asymm h
theorem sl_eq {a b : Str} (h : ¬ sl a b) (h' : ¬ sl b a) : a = b := by
  have e : a.cps.toList = b.cps.toList := List.le_antisymm (List.not_lt.mp h') (List.not_lt.mp h)
  cases a; cases b
  simp only at e
  rw [Array.toList_inj] at e
  rw [e]
theorem sl_le_trans {a b x : Str} (h : ¬ sl b a) (h' : sl b x) : sl a x := by
  by_cases hab : sl a b
  · exact sl_trans hab h'
  · rw [sl_eq hab h]; exact h'
theorem sl_le_trans' {a b x : Str} (h : ¬ sl b a) (h' : sl x a) : sl x b := by
  by_cases hab : sl a b
  · exact sl_trans h' hab
  · rw [← sl_eq hab h]; exact h'
noncomputable abbrev gk (x k : Str) : Int := b2i (decide (sl x k)) - b2i (decide (sl k x))
theorem gk_neg {x k : Str} : gk x k < 0 ↔ sl k x := by
  unfold gk b2i
  by_cases h : sl k x
  · simp [h, sl_asymm h]
  · by_cases h' : sl x k <;> simp [h, h']
theorem gk_pos {x k : Str} : 0 < gk x k ↔ sl x k := by
  unfold gk b2i
  by_cases h : sl x k
  · simp [h, sl_asymm h]
  · by_cases h' : sl k x <;> simp [h, h']
theorem getq {α : Type} {l : List α} {a : α} (h : a ∈ l) : ∃ i : Nat, l[i]? = some a := List.mem_iff_getElem?.mp h
theorem count_bis {ks : List Str} {x : Str} {r1 r2 : Nat} (h1 : r1 ≤ ks.length) (h2 : r2 ≤ ks.length) (a1 : ∀ (i : Nat) (k : Str), i < r1 → ks[i]? = some k → sl k x) (a2 : ∀ (i : Nat) (k : Str), r1 ≤ i → ks[i]? = some k → ¬ sl k x)
    (b1 : ∀ (i : Nat) (k : Str), i < r2 → ks[i]? = some k → ¬ sl x k) (b2 : ∀ (i : Nat) (k : Str), r2 ≤ i → ks[i]? = some k → sl x k) : ((r2 : Int) - (r1 : Int)) = ((ks.count x : Nat) : Int) := by
  have h12 : r1 ≤ r2 := by
    by_cases h : r1 ≤ r2
    · exact h
    · have hl : r2 < ks.length := Nat.lt_of_lt_of_le (Nat.lt_of_not_le h) h1
      exact absurd (b2 r2 _ (Nat.le_refl _) (List.getElem?_eq_getElem hl)) (sl_asymm (a1 r2 _ (Nat.lt_of_not_le h) (List.getElem?_eq_getElem hl)))
  have e1 : ks.count x = (ks.take r1).count x + ((ks.drop r1).take (r2 - r1)).count x + ((ks.drop r1).drop (r2 - r1)).count x := by
    rw [Nat.add_assoc, ← List.count_append, List.take_append_drop, ← List.count_append, List.take_append_drop]
  have c1 : (ks.take r1).count x = 0 := by
    rw [List.count_eq_zero]
    intro hm
    obtain ⟨i, hi⟩ := getq hm
    rw [List.getElem?_take] at hi
    split at hi
    · exact sl_irrefl x (a1 i x (by assumption) hi)
    · cases hi
  have c3 : ((ks.drop r1).drop (r2 - r1)).count x = 0 := by
    rw [List.count_eq_zero]
    intro hm
    obtain ⟨i, hi⟩ := getq hm
    rw [List.getElem?_drop, List.getElem?_drop] at hi
    exact sl_irrefl x (b2 _ x (by rw [← Nat.add_assoc, Nat.add_sub_of_le h12]; exact Nat.le_add_right _ _) hi)
  have c2 : ((ks.drop r1).take (r2 - r1)).count x = r2 - r1 := by
    have : ((ks.drop r1).take (r2 - r1)).count x = ((ks.drop r1).take (r2 - r1)).length := by
      rw [List.count_eq_length]
      intro b hb
      obtain ⟨i, hi⟩ := getq hb
      rw [List.getElem?_take] at hi
      split at hi
      · rw [List.getElem?_drop] at hi
        exact (sl_eq (a2 _ b (Nat.le_add_right _ _) hi) (b1 _ b (Nat.add_lt_of_lt_sub' (by assumption)) hi)).symm
      · cases hi
    rw [this, List.length_take, List.length_drop, Nat.min_eq_left (Nat.sub_le_sub_right h2 r1)]
  rw [e1, c1, c2, c3, Nat.zero_add, Nat.add_zero]; exact (Int.ofNat_sub h12).symm
end

/-! part CorPure -/
section
open PySem PySem.W PyProof.Rows PySem.Spec PySem.Calls
set_option Elab.async false
set_option maxRecDepth 100000
set_option maxHeartbeats 4000000

theorem reset_CorPure : True := by
  w_top off
  trivial
inductive All2 {α β : Type} (R : α → β → Prop) : List α → List β → Prop
  | nil : All2 R [] []
  | cons {a b l r} : R a b → All2 R l r → All2 R (a :: l) (b :: r)
section
variable {α β : Type} {R R' : α → β → Prop}
theorem All2.length {l : List α} {r : List β} (h : All2 R l r) : l.length = r.length := by
  induction h with
  | nil => rfl
  | cons _ _ ih => rw [List.length_cons, List.length_cons, ih]
theorem All2.get {l : List α} {r : List β} (h : All2 R l r) : ∀ {i : Nat} {b : β}, r[i]? = some b → ∃ a, l[i]? = some a ∧ R a b := by
  induction h with
  | nil => intro i b hb; simp at hb
  | cons hab _ ih =>
    intro i b hb
    cases i with
    | zero => simp at hb; subst hb; exact ⟨_, rfl, hab⟩
    | succ i => simpa using ih (by simpa using hb)
theorem All2.get' {l : List α} {r : List β} (h : All2 R l r) : ∀ {i : Nat} {a : α}, l[i]? = some a → ∃ b, r[i]? = some b ∧ R a b := by
  induction h with
  | nil => intro i b hb; simp at hb
  | cons hab _ ih =>
    intro i b hb
    cases i with
    | zero => simp at hb; subst hb; exact ⟨_, rfl, hab⟩
    | succ i => simpa using ih (by simpa using hb)
theorem All2.append {l l' : List α} {r r' : List β} (h : All2 R l r) (h' : All2 R l' r') : All2 R (l ++ l') (r ++ r') := by
  induction h with
  | nil => exact h'
  | cons hab _ ih => exact .cons hab ih
theorem All2.take {l : List α} {r : List β} (h : All2 R l r) : ∀ n, All2 R (l.take n) (r.take n) := by
  induction h with
  | nil => intro n; simp; exact .nil
  | cons hab _ ih =>
    intro n
    cases n with
    | zero => exact .nil
    | succ n => exact .cons hab (ih n)
theorem All2.drop {l : List α} {r : List β} (h : All2 R l r) : ∀ n, All2 R (l.drop n) (r.drop n) := by
  induction h with
  | nil => intro n; simp; exact .nil
  | cons hab h ih =>
    intro n
    cases n with
    | zero => exact .cons hab h
    | succ n => exact ih n
theorem All2.imp {l : List α} {r : List β} (h : All2 R l r) (hi : ∀ a b, R a b → R' a b) : All2 R' l r := by
  induction h with
  | nil => exact .nil
  | cons hab _ ih => exact .cons (hi _ _ hab) ih
theorem All2.one {a : α} {b : β} (h : R a b) : All2 R [a] [b] := .cons h .nil
theorem All2.erase {l : List α} {r : List β} (h : All2 R l r) (j : Nat) : All2 R (l.take j ++ l.drop (j + 1)) (r.take j ++ r.drop (j + 1)) := (h.take j).append (h.drop (j + 1))
theorem All2.insert {l : List α} {r : List β} {a : α} {b : β} (h : All2 R l r) (j : Nat) (hab : R a b) : All2 R (l.take j ++ a :: l.drop j) (r.take j ++ b :: r.drop j) := (h.take j).append (.cons hab (h.drop j))
end
/-- the ear that bisect finds -/
theorem ear_bis {rest : List Int} {c : Int} {r : Nat} (h0 : 0 < rest.length) (hr : r ≤ rest.length) (h1 : ∀ (i : Nat) (k : Int), i < r → rest[i]? = some k → k < c) (h2 : ∀ (i : Nat) (k : Int), r ≤ i → rest[i]? = some k → ¬ k < c) :
    rest[r % rest.length]? = some (earOf rest c) := by
  have hf : rest.filter (fun p => decide (p ≥ c)) = rest.drop r := by
    conv => lhs; rw [← List.take_append_drop r rest]
    rw [List.filter_append]
    have e1 : (rest.take r).filter (fun p => decide (p ≥ c)) = [] := by
      rw [List.filter_eq_nil_iff]
      intro a ha
      obtain ⟨i, hi⟩ := getq ha
      rw [List.getElem?_take] at hi
      split at hi
      · exact fun h => Int.not_lt.mpr (of_decide_eq_true h) (h1 i a (by assumption) hi)
      · cases hi
    have e2 : (rest.drop r).filter (fun p => decide (p ≥ c)) = rest.drop r := by
      rw [List.filter_eq_self]
      intro a ha
      obtain ⟨i, hi⟩ := getq ha
      rw [List.getElem?_drop] at hi
      exact decide_eq_true (Int.not_lt.mp (h2 _ a (Nat.le_add_right _ _) hi))
    rw [e1, e2, List.nil_append]
  unfold earOf
  rw [hf]
  by_cases h : r = rest.length
  · subst h
    rw [Nat.mod_self, List.drop_length, List.nil_append]
    cases rest with
    | nil => simp at h0
    | cons a l => rfl
  · have hlt : r < rest.length := Nat.lt_of_le_of_ne hr h
    rw [Nat.mod_eq_of_lt hlt, List.headD_eq_head?_getD, List.head?_append, List.head?_drop, List.getElem?_eq_getElem hlt]
    rfl
theorem idx_of_get {l : List Int} (hn : l.Nodup) {j : Nat} {e : Int} (h : l[j]? = some e) : l.idxOf e = j := by
  have hj := (List.getElem?_eq_some_iff.mp h).1
  have he : l[j] = e := (List.getElem?_eq_some_iff.mp h).2
  subst he
  exact List.Nodup.idxOf_getElem hn j hj
theorem filter_erase {l : List Int} (hn : l.Nodup) {j : Nat} {e : Int} (h : l[j]? = some e) : (l.filter fun p => decide (p ≠ e)) = l.take j ++ l.drop (j + 1) := by
  have hi := idx_of_get hn h
  have e1 : l.erase e = l.filter fun p => decide (p ≠ e) := by
    rw [hn.erase_eq_filter]
    congr 1
    funext p
    by_cases hp : p = e <;> simp [hp]
  rw [← e1, List.erase_eq_eraseIdx_of_idxOf hi, List.eraseIdx_eq_take_drop_succ]
section
variable {α : Type}
theorem three_of {l : List α} (h : l.length = 3) : ∃ a b c, l = [a, b, c] := by
  obtain ⟨a, l, rfl⟩ := List.exists_cons_of_length_eq_add_one h
  obtain ⟨b, l, rfl⟩ := List.exists_cons_of_length_eq_add_one (Nat.succ.inj h)
  obtain ⟨c, l, rfl⟩ := List.exists_cons_of_length_eq_add_one (Nat.succ.inj (Nat.succ.inj h))
  cases List.eq_nil_of_length_eq_zero (Nat.succ.inj (Nat.succ.inj (Nat.succ.inj h)))
  exact ⟨a, b, c, rfl⟩
theorem era_len {l : List α} {j n : Nat} (hl : l.length = n) (hj : j < n) : (l.take j ++ l.drop (j + 1)).length = n - 1 := by
  rw [← List.eraseIdx_eq_take_drop_succ, List.length_eraseIdx_of_lt (hl ▸ hj), hl]
theorem era_at {l : List α} {j i : Nat} : (l.take j ++ l.drop (j + 1))[i]? = if i < j then l[i]? else l[i + 1]? := by
  rw [← List.eraseIdx_eq_take_drop_succ, List.getElem?_eraseIdx]
theorem era_prev {l : List α} : ∀ {j n : Nat} (_ : j < n) (_ : 2 ≤ n), (l.take j ++ l.drop (j + 1))[(j + (n - 1) - 1) % (n - 1)]? = l[(j + n - 1) % n]?
  | 0, m + 2, _, _ => by
    show (l.take 0 ++ l.drop (0 + 1))[(0 + m) % (m + 1)]? = l[(0 + (m + 1)) % (m + 2)]?
    rw [era_at, Nat.zero_add, Nat.zero_add, Nat.mod_eq_of_lt (Nat.lt_succ_self m), Nat.mod_eq_of_lt (Nat.lt_succ_self (m + 1)), if_neg (Nat.not_lt_zero m)]
  | j + 1, m + 2, hj, _ => by
    show (l.take (j + 1) ++ l.drop (j + 1 + 1))[(j + 1 + m) % (m + 1)]? = l[(j + 1 + (m + 1)) % (m + 2)]?
    rw [era_at, show j + 1 + m = j + (m + 1) from Nat.succ_add j m, show j + 1 + (m + 1) = j + (m + 2) from Nat.succ_add j (m + 1), Nat.add_mod_right, Nat.add_mod_right, Nat.mod_eq_of_lt (Nat.lt_of_succ_lt_succ hj), Nat.mod_eq_of_lt (Nat.lt_of_succ_lt hj), if_pos (Nat.lt_succ_self j)]
theorem era_next {l : List α} : ∀ {j n : Nat} (_ : j < n) (_ : 2 ≤ n), (l.take j ++ l.drop (j + 1))[j % (n - 1)]? = l[(j + 1) % n]?
  | j, m + 2, hj, _ => by
    show (l.take j ++ l.drop (j + 1))[j % (m + 1)]? = l[(j + 1) % (m + 2)]?
    rw [era_at]
    rcases Nat.lt_or_eq_of_le (Nat.le_of_lt_succ hj) with h | h
    · rw [Nat.mod_eq_of_lt h, Nat.mod_eq_of_lt (Nat.succ_lt_succ h), if_neg (Nat.lt_irrefl j)]
    · subst h
      rw [Nat.mod_self, show m + 1 + 1 = m + 2 from rfl, Nat.mod_self, if_pos (Nat.succ_pos m)]
end
theorem fans_sorted {S ks : List Int} (h : S.Pairwise (fun x y => x < y)) : ∀ k, (fansSt S ks k).1.Pairwise (fun x y => x < y)
  | 0 => h
  | k + 1 => by
    have ih := fans_sorted (ks := ks) h k
    show (stepT (fansSt S ks k).1 ks k).2.Pairwise _
    unfold stepT
    split
    · exact ih.filter _
    · exact ih
theorem pw_at {α : Type} {P : α → α → Prop} : ∀ {l : List α}, l.Pairwise P → ∀ {i j : Nat} {a b : α}, l[i]? = some a → l[j]? = some b → i < j → P a b := by
  intro l h i j a b ha hb hij
  have h1 := (List.getElem?_eq_some_iff.mp ha)
  have h2 := (List.getElem?_eq_some_iff.mp hb)
  obtain ⟨h1l, rfl⟩ := h1
  obtain ⟨h2l, rfl⟩ := h2
  exact List.pairwise_iff_getElem.mp h i j h1l h2l hij
/-- the triangles' corners -/
noncomputable def triS (S ks : List Int) (k : Nat) : List Int := (stepT (fansSt S ks k).1 ks k).1
/-- sorted texts, with one more -/
abbrev SortedS (ts : List Str) : Prop := ts.Pairwise fun a b => ¬ sl b a
theorem sorted_ins {ts : List Str} {x : Str} {r : Nat} (h : SortedS ts) (h1 : ∀ (i : Nat) (k : Str), i < r → ts[i]? = some k → sl k x) (h2 : ∀ (i : Nat) (k : Str), r ≤ i → ts[i]? = some k → ¬ sl k x) : SortedS (ts.take r ++ x :: ts.drop r) := by
  unfold SortedS
  rw [List.pairwise_append, List.pairwise_cons]
  refine ⟨h.take, ⟨fun b hb => ?_, h.drop⟩, fun a ha b hb => ?_⟩
  · obtain ⟨i, hi⟩ := getq hb
    rw [List.getElem?_drop] at hi
    exact h2 _ b (Nat.le_add_right _ _) hi
  · obtain ⟨i, hi⟩ := getq ha
    rw [List.getElem?_take] at hi
    split at hi
    · have ax := h1 i a (by assumption) hi
      rcases List.mem_cons.mp hb with rfl | hb
      · exact sl_asymm ax
      · obtain ⟨j, hj⟩ := getq hb
        rw [List.getElem?_drop] at hj
        exact pw_at h hi hj (Nat.lt_of_lt_of_le (by assumption) (Nat.le_add_right _ _))
    · cases hi
theorem perm_ins {α : Type} {ts : List α} {x : α} (r : Nat) : (ts.take r ++ x :: ts.drop r).Perm (ts ++ [x]) := by
  have h1 : (ts.take r ++ x :: ts.drop r).Perm (x :: (ts.take r ++ ts.drop r)) := List.perm_middle
  rw [List.take_append_drop] at h1
  exact h1.trans (List.perm_append_singleton x ts).symm
end

/-! part CorStep -/
section
open PySem PySem.W PyProof.Rows PySem.Spec PySem.Calls
set_option Elab.async false
set_option maxRecDepth 100000
set_option maxHeartbeats 4000000

theorem reset_CorStep : True := by
  w_top off
  trivial
open PyProof.Rows.LCg PyProof.Rows.LCt PyProof.Rows.LCp
theorem words_CorStep : True := by
  k_with_none
  k_with "om" => (first | (with_reducible first | assumption | exact Int.natCast_nonneg _ | exact Nat.le_trans (by assumption) (by decide) | exact Nat.lt_of_le_of_lt (by assumption) (by decide) | exact lt_lit (by assumption) (by decide) | exact le_lit (by assumption) (by decide) | exact le_flip (by assumption) (by decide) | exact lt_lit0 (by assumption) (by decide) | exact nn0) | decide | omega)
  trivial
section
variable {prog : Program} {w : World} {A : Around} {E : Value → Shared → Prop} {s : Shared}
end
section
variable {prog : Program} {w : World} {A : Around} {E : Value → Shared → Prop} {s : Shared} {env : Env} {h₀ : Heap} {target : Expr} {body : List Stmt} {Q : Flow → Shared → Prop} {σ : Type}
theorem iter_tupT (carried : σ → List (Str × Value)) (stored : List Str) (need : σ → Led) (K : Nat → σ → Prop) (z₀ : σ) {l : Addr} {vs : List Value} {ol : Obj} {m₀ : Str → Option Value} {news : Led}
    (hh : A.handled = none)
    (hgo : ∀ I (s' : Shared) v (Q' : Unit → Shared → Prop), (∃ i, s'.heap.IsTupleIter I l i) → Q' () s' → wpAny (model prog w) A (letOwnedTupleGo target (.ref I) v) Q' E s')
    (F : Fr h₀ env.locals s.heap m₀) (N : News h₀ env.locals s.heap news) (hnd : ∀ p ∈ need z₀, p ∈ news) (hl : ∀ z, (l, ol) ∈ need z) (hcls : ol.cls = .type "tuple") (hdat : ∃ n, ol.data = .seq vs.toArray n) (hc : Tells m₀ (carried z₀)) (hK : K 0 z₀)
    (turn : ∀ I i v z u h g d tk os oI, vs[i]? = some v → K i z → (∀ p ∈ need z, p.1 ≠ I) → Fr h₀ env.locals h (frameM (carried z) stored u m₀) → News h₀ env.locals h ((I, oI) :: need z) →
      wpAny (model prog w) A (assign target env v) (fun _ s₃ => wpAny (model prog w) A (execs body env) (EndT h₀ env.locals carried stored m₀ need (K (i + 1)) I oI ⟨h, g, d, tk, os⟩) E s₃) E ⟨h, g, d, tk, os⟩)
    (done : ∀ z u h tk, K vs.length z → Fr h₀ env.locals h (frameM (carried z) stored u m₀) → News h₀ env.locals h (need z) → Q .next { s with heap := h, toks := tk }) :
    wpAny (model prog w) A (pyIter (.ref l)) (fun it s₂ => LoopAtT prog w A h₀ env target body Q E it s₂) E s := by
  have hm := N _ (hnd _ (hl z₀))
  have hol : s.heap.get? l = some ol := hm.1
  have hls : s.heap.IsTuple l vs.toArray := ⟨_, hol, hcls, hdat⟩
  have hne : l ≠ s.heap.objs.size := Nat.ne_of_lt (Heap.lt_size hol)
  refine wpAny_pyIter_tuple hls ?_
  have W := Walks.tuple (prog := prog) (w := w) hh s.heap.objs.size l hne vs.toArray
  have hlen : vs.toArray.size = vs.length := by simp
  rw [hlen] at W
  refine loop_ledT need (fun i z m => (∀ y, m y = frameM (carried z) stored m m₀ y) ∧ K i z) z₀ W (List.mem_cons_self ..) (next_is_new F) ?_ ?_ ?_ ?_ ⟨⟨_, Heap.get?_push_size _ rfl, rfl, rfl⟩, hls.at fun o e => Heap.get?_push_of_some _ e⟩ (fun i s' v Q' st hq => hgo _ s' v Q' ⟨i, st.1⟩ hq) (F.push _) (fun p hp => ⟨Heap.get?_push_of_some _ (N p (hnd p hp)).1, (N p (hnd p hp)).2⟩) ⟨fun y => frameM_self hc fun _ => rfl, hK⟩ ?_ ?_
  · rintro i h ⟨⟨o, ho, _⟩, _⟩; exact ⟨o, ho⟩
  · intro b hb
    rcases List.mem_cons.mp hb with e | hb
    · exact .inl e
    · rw [List.mem_singleton.mp hb]; exact .inr (.inr ⟨_, hl⟩)
  · intro h1
    rcases List.mem_cons.mp h1 with e | h1
    · exact absurd F.ns.lt (e ▸ Nat.lt_irrefl _)
    · exact hm.2.1 ((List.mem_singleton.mp h1).symm)
  · intro p hp hI
    exact absurd (Heap.lt_size (N p (hnd p hp)).1) (hI ▸ Nat.lt_irrefl _)
  · rintro i v z m₁ h g d tk os oI hi hP ⟨hm, hKz⟩ hne F₁ N₁
    have e : m₁ = frameM (carried z) stored m₁ m₀ := funext hm
    rw [e] at F₁
    exact wpAny_mono (turn _ i v z m₁ h g d tk os oI (by simpa using hP) hKz hne F₁ N₁) (fun _ s₃ p3 => wpAny_mono p3 (fun f s₂ p => endT_led p) fun _ _ e => e) fun _ _ e => e
  · intro z m₁ h tk ⟨hm, hKz⟩ F₁ N₁
    have e : m₁ = frameM (carried z) stored m₁ m₀ := funext hm
    exact done z m₁ h tk hKz (by rw [← e]; exact F₁) N₁
end
/-- a light: a ring's item -/
def LightAt (led : Led) (nm : Int → Str) (v : Value) (p : Int) : Prop := ∃ a t t', v = .ref a ∧ (a, tup2 (.float (frac p 32) t) (.str (nm p) t')) ∈ led
def ThreeAt (led : Led) (nm : Int → Str) (v : Value) (T : List Int) : Prop := ∃ a x y z, v = .ref a ∧ (a, tup3 x y z) ∈ led ∧ All2 (LightAt led nm) [x, y, z] T
def StrAt (v : Value) (k : Str) : Prop := ∃ t, v = .str k t
theorem LightAt.mono {led led' : Led} {nm : Int → Str} (h : ∀ p ∈ led, p ∈ led') {v : Value} {p : Int} (hl : LightAt led nm v p) : LightAt led' nm v p := by
  obtain ⟨a, t, t', h1, h2⟩ := hl
  exact ⟨a, t, t', h1, h _ h2⟩
theorem ThreeAt.mono {led led' : Led} {nm : Int → Str} (h : ∀ p ∈ led, p ∈ led') {v : Value} {T : List Int} (hl : ThreeAt led nm v T) : ThreeAt led' nm v T := by
  obtain ⟨a, x, y, z, h1, h2, h3⟩ := hl
  exact ⟨a, x, y, z, h1, h _ h2, h3.imp fun _ _ => LightAt.mono h⟩
end

/-! part Cor -/
section
open PySem PySem.W PyProof.Rows PySem.Spec PySem.Calls
set_option Elab.async false
set_option maxRecDepth 100000
set_option maxHeartbeats 4000000

theorem reset_Cor : True := by
  w_top off
  trivial
open PyProof.Rows.LCg PyProof.Rows.LCt PyProof.Rows.LCp

theorem words_Cor : True := by
  k_with_none
  k_with "fold" => ((with_reducible show wpAny _ _ (execs (_ :: _) _) _ _ _); (try k_gentoks); (refine foldM (by with_reducible assumption) ?_); intro _ _; (with_reducible refine wpAny_execs_cons ?_); (try dsimp only); (refine foldQ ?_); intro _)
  k_with "nm" => first | assumption | exact List.Mem.head _ | (refine List.Mem.tail _ ?_; news_mem) | (refine List.mem_append_right _ ?_; news_mem)
  k_with "km" => first | assumption | (refine List.mem_append_right _ ?_; k_mem)
  k_with "ka" => first | assumption | exact Under.ne (by assumption) (by omega)
  k_with "ne" => ((try dsimp only); first | assumption | (refine Ne.symm ?_; assumption) | exact Nat.ne_of_gt (by assumption) | exact Nat.ne_of_lt (by assumption) | exact Nat.ne_of_lt (Nat.lt_succ_self _) | exact Nat.ne_of_gt (Nat.lt_succ_self _) | exact Nat.ne_of_lt (Nat.lt_succ_of_lt (Nat.lt_succ_self _)) | exact Nat.ne_of_gt (Nat.lt_succ_of_lt (Nat.lt_succ_self _)))
  k_with "room" => ((try dsimp +zetaDelta only); simp only [depth_under_make, depth_under_kw, depth_in1, depth_deeper, depth_caller, recursionLimit]; first | decide | exact room3 (by assumption) (by decide) | exact room1 (by assumption) | omega)
  k_with "units" => ((try dsimp +zetaDelta only); simp only [units_in1, units_deeper, Around.mark_units, units_caller, cLine]; first | decide | exact room3 (by assumption) (by decide) | exact room1 (by assumption) | omega)
  k_with "om" => (first | (with_reducible first | assumption | exact Int.natCast_nonneg _ | exact Nat.le_trans (by assumption) (by decide) | exact Nat.lt_of_le_of_lt (by assumption) (by decide) | exact lt_lit (by assumption) (by decide) | exact le_lit (by assumption) (by decide) | exact le_flip (by assumption) (by decide) | exact lt_lit0 (by assumption) (by decide) | exact nn0) | decide | omega)
  k_with "u1" => ((with_reducible show wpAny _ _ (call (Value.builtin "len") [Value.ref _]) _ _ _); refine my_len (by is_list) (by k_extra "om") ?_)
  trivial
structure CorZ where
  rv : List Value
  rn : Nat
  tv : List Value
  tn : Nat
  tt : Led
structure CorW where
  vs : List Value
  n : Nat
  ts : List Str
theorem c_corners (w : World) (lw lc : Addr) (wvs cvs : List Value) (n1 n2 : Nat) (S ks : List Int) (nm : Int → Str) (news : Led) (hw : (lw, listOf wvs.toArray n1) ∈ news) (hwi : All2 (LightAt news nm) wvs S) (hc : (lc, listOf cvs.toArray n2) ∈ news) (hci : IntsAre cvs ks)
    (hl : ks.length + 3 = S.length) (hl7 : S.length ≤ 7) (hSs : S.Pairwise (fun x y => x < y)) (hS32 : ∀ p ∈ S, 0 ≤ p ∧ p < 32) (hk32 : ∀ c ∈ ks, 0 ≤ c ∧ c < 32) :
    Cl w 6 113 [.ref lw, .ref lc] [] news (fun h₀ L m s Q => ∀ (D : Addr) (tvs : List Value) (tn : Nat) (ts : List Str) (big : Led) (h' : Heap) (tk' : Nat), Fr h₀ L h' m → News h₀ L h' big → (∀ p ∈ news, p ∈ big) → (D, listOf tvs.toArray tn) ∈ big → (∀ p ∈ news, p.1 ≠ D) →
      All2 StrAt tvs ts → SortedS ts → ts.Perm (((List.range (ks.length + 1)).flatMap (triS S ks)).map nm) → Q (.ref D) { s with heap := h', toks := tk' }) := by
  have hwl := hwi.length
  have hcl := hci.length
  have hSn : S.Nodup := hSs.imp fun h => by k_extra "om"
  unfold Cl
  k_fill
  intro mean mg mb dp un gd cn cs a ccd cl outer A₀ base h₀ L m s Q E B F X N T hk hd hu hret
  refine wpAny_call ?_
  k_dflt (refine' code_def ?k1 ?k2 ?k3 ?k4 ?k5 ?kA ?kF ?kK ?k6 ?k7 ?k8 ?k9 ?kB ?_ ?c2 ?c3 ?c4 ?c5; (case kA => exact rfl); (case kF => exact rfl); (case kK => assumption); (case k1 => k_asm); (case k2 => k_asm); (case k3 => k_asm); (case k4 => k_asm); (case k5 => k_asm); (case k6 => k_is); (case k7 => k_is); (case k8 => ktr_room); (case k9 => first | exact BindsTo.of_eq rfl | exact binds_K (by k_in) rfl (by k_is) rfl rfl rfl); (case c5 => decide); (case kB => exact locs rfl); (case c2 => exact rfl); (case c3 => exact rfl); (case c4 => exact rfl); k_whole; intro g' L' h' FG' F' N' B' X' T'; (try dsimp only); (try k_lift B'); (try k_fold))
  refine foldE ?_
  intro _ _
  repeat' ((fail_if_success (with_reducible show wpAny _ _ (exec (Stmt.For _ _ _ _ _) _) _ _ _)); first | (k_unfold; (try dsimp only)) | (k_end; wrow_close) | k_extra "fold" | k_extra "u1" | walk1 | (dsimp only; (first | k_extra "fold" | k_extra "u1" | walk1)) | (leave1; walk_say "STEP leave1"; try dsimp only) | fail "no step")
  refine For_invVF (by assumption) (by exact rfl) (by exact rfl) ?_
  repeat' ((fail_if_success (with_reducible show wpAny _ _ (pyIter _) _ _ _)); first | (k_unfold; (try dsimp only)) | (k_end; wrow_close) | k_extra "fold" | k_extra "u1" | walk1 | (dsimp only; (first | k_extra "fold" | k_extra "u1" | walk1)) | (leave1; walk_say "STEP leave1"; try dsimp only) | fail "no step")
  rename_i rg rn1 ha1 hU1 hb1 tk1 z1 z2 th hc1 hU2 hd1 kF0 kN z3 kF z5
  have hrt : @Ne Nat rg th := by k_extra "om"
  have hrn : ∀ p ∈ news, p.1 ≠ rg := fun p hp => Nat.ne_of_lt (hU1 p hp)
  have htn : ∀ p ∈ news, p.1 ≠ th := fun p hp => Nat.ne_of_lt (allLt_mem hU2.2 p hp)
  refine iter_ledS (fun (_ : CorZ) => []) [Str.ofString "spot", Str.ofString "ear"] (fun z => (th, listOf z.tv.toArray z.tn) :: (rg, listOf z.rv.toArray z.rn) :: (z.tt ++ news))
    (fun k z => All2 (LightAt news nm) z.rv (fansSt S ks k).1 ∧ All2 (ThreeAt (z.tt ++ news) nm) z.tv ((List.range k).map (triS S ks)) ∧ (∀ p ∈ z.tt, p.1 ≠ rg ∧ p.1 ≠ th))
    ⟨wvs, rn1, [], 0, []⟩ (by exact rfl) kF kN (fun _ h => h) (fun z => mem_tail 2 rfl (List.mem_append_right _ hc)) trivial ⟨hwi, .nil, fun _ h => nomatch h⟩ ?turn ?done
  case done =>
    rintro ⟨rv, rn, tv, tn, tt⟩ u h9 tk9 ⟨hr9, ht9, hd9⟩ F9 N9
    dsimp only at hr9 ht9 hd9 F9 N9
    rw [hcl] at hr9 ht9
    have hinv := fans_inv hSn hl ks.length (Nat.le_refl _)
    have hinvl := hinv.len
    have hrl := hr9.length
    have htl := ht9.length
    rw [List.length_map, List.length_range] at htl
    obtain ⟨rest, hre⟩ : ∃ rest, rest = (fansSt S ks ks.length).1 := ⟨_, rfl⟩
    rw [← hre] at hr9 hinvl hrl
    have hr3 : rv.length = 3 := by k_extra "om"
    obtain ⟨v1, v2, v3, rfl⟩ := three_of hr3
    repeat' ((fail_if_success (with_reducible show wpAny _ _ (call (Value.builtin "list.append") _ _) _ _ _)); first | (k_unfold; (try dsimp only)) | (k_end; wrow_close) | k_extra "fold" | k_extra "u1" | walk1 | (dsimp only; (first | k_extra "fold" | k_extra "u1" | walk1)) | (leave1; walk_say "STEP leave1"; try dsimp only) | fail "no step")
    rename_i ta h8 kF8 kN8 hT8
    obtain ⟨hT8a, hT8b, hT8d⟩ := hT8
    refine my_append (n := tn) (li := tv) (by assumption) (by assumption) (mem_at 1 rfl) (by k_extra "om") ?_
    intro h10 F10 N10
    have N11 : News g' L' h10 ((th, listOf (tv ++ [Value.ref ta]).toArray (tn + 1)) :: (ta, tup3 v1 v2 v3) :: (tt ++ news)) := by
      refine ledSet_clean N10 fun p hp => ?_
      rcases List.mem_cons.mp hp with rfl | hp
      · exact ⟨mem_at 0 rfl, Nat.ne_of_gt hT8a⟩
      · refine ⟨mem_tail 3 rfl hp, ?_⟩
        rcases List.mem_append.mp hp with hp | hp
        · exact (hd9 p hp).2
        · exact htn p hp
    clear N10 kN8
    have hTR : All2 (ThreeAt ((ta, tup3 v1 v2 v3) :: (tt ++ news)) nm) (tv ++ [Value.ref ta]) ((List.range (ks.length + 1)).map (triS S ks)) := by
      rw [List.range_succ, List.map_append]
      refine (ht9.imp fun _ _ h => h.mono fun p hp => .tail _ hp).append (.one ⟨ta, v1, v2, v3, rfl, .head _, ?_⟩)
      have e2 : triS S ks ks.length = rest := by
        unfold triS
        rw [← hre, stepT_ge (Nat.lt_irrefl _)]
      rw [e2]
      exact All2.imp hr9 fun _ _ h => h.mono fun p hp => .tail _ (List.mem_append_right _ hp)
    have hT3 : ∀ T ∈ (List.range (ks.length + 1)).map (triS S ks), T.length = 3 := by
      intro T hT
      obtain ⟨i, hi⟩ := getq hT
      obtain ⟨v, _, a, x, y, z, _, _, h3⟩ := hTR.get hi
      exact h3.length.symm
    have hTRl : ((List.range (ks.length + 1)).map (triS S ks)).length = ks.length + 1 := by simp
    have hflat : ((List.range (ks.length + 1)).flatMap (triS S ks)) = ((List.range (ks.length + 1)).map (triS S ks)).flatten := by rw [List.flatten_eq_flatMap, List.flatMap_map]; rfl
    rw [hflat] at hret
    generalize hTRq : (List.range (ks.length + 1)).map (triS S ks) = TR at *
    clear hflat
    repeat' ((fail_if_success (with_reducible show wpAny _ _ (exec (Stmt.For _ _ _ _ _) _) _ _ _)); first | (k_unfold; (try dsimp only)) | (k_end; wrow_close) | k_extra "fold" | k_extra "u1" | walk1 | (dsimp only; (first | k_extra "fold" | k_extra "u1" | walk1)) | (leave1; walk_say "STEP leave1"; try dsimp only) | fail "no step")
    rename_i cor hh12 fF12 fN12 hC12 h12 kF13 kN12 z1 kF12 z2
    obtain ⟨hC1, hC2, hC3⟩ := hC12
    have hC4 := allLt_mem hC3
    have hCt : @Ne Nat cor th := Nat.ne_of_gt hC1
    refine For_invVF (by assumption) (by exact rfl) (by exact rfl) ?_
    repeat' ((fail_if_success (with_reducible show wpAny _ _ (pyIter _) _ _ _)); first | (k_unfold; (try dsimp only)) | (k_end; wrow_close) | k_extra "fold" | k_extra "u1" | walk1 | (dsimp only; (first | k_extra "fold" | k_extra "u1" | walk1)) | (leave1; walk_say "STEP leave1"; try dsimp only) | fail "no step")
    refine iter_ledS (fun (_ : CorW) => []) [Str.ofString "hue", Str.ofString "name"] (fun z => (cor, listOf z.vs.toArray z.n) :: (th, listOf (tv ++ [Value.ref ta]).toArray (tn + 1)) :: (ta, tup3 v1 v2 v3) :: (tt ++ news))
      (fun j z => All2 StrAt z.vs z.ts ∧ SortedS z.ts ∧ z.ts.Perm ((TR.take j).flatten.map nm) ∧ z.ts.length = 3 * j)
      ⟨[], 0, []⟩ (by exact rfl) (by assumption) (by assumption) (fun _ h => h) (fun z => .tail _ (.head _)) trivial ⟨.nil, .nil, .nil, rfl⟩ ?turn2 ?done2
    case done2 =>
      rintro ⟨vs, n, ts⟩ u2 h13 tk13 ⟨hs1, hs2, hs3, hs4⟩ F13 N13
      dsimp only at hs1 hs2 hs3 hs4 F13 N13
      repeat' (first | (k_unfold; (try dsimp only)) | (k_end; wrow_close) | k_extra "fold" | k_extra "u1" | walk1 | (dsimp only; (first | k_extra "fold" | k_extra "u1" | walk1)) | (leave1; walk_say "STEP leave1"; try dsimp only) | fail "no step")
      have e : TR.take (tv ++ [Value.ref ta]).length = TR := List.take_of_length_le (by rw [hTR.length]; exact Nat.le_refl _)
      rw [e] at hs3
      exact hret cor vs n ts _ _ _ (by assumption) (by assumption) (fun p hp => mem_tail 3 rfl (List.mem_append_right _ hp)) (.head _) (fun p hp => Nat.ne_of_lt (hC4 p (List.mem_append_right _ hp))) hs1 hs2 hs3
    case turn2 =>
      rintro I j v ⟨vs, n, ts⟩ u2 h13 tk13 oI hv ⟨hs1, hs2, hs3, hs4⟩ hne F13 N13
      dsimp only at hs1 hs2 hs3 hs4 hne F13 N13
      obtain ⟨T, hTj, tb, x1, x2, x3, rfl, htb, hxT⟩ := hTR.get' hv
      repeat' ((fail_if_success (with_reducible show wpAny _ _ (exec (Stmt.For _ _ _ _ _) _) _ _ _)); first | (k_unfold; (try dsimp only)) | (k_end; wrow_close) | k_extra "fold" | k_extra "u1" | walk1 | (dsimp only; (first | k_extra "fold" | k_extra "u1" | walk1)) | (leave1; walk_say "STEP leave1"; try dsimp only) | fail "no step")
      refine For_invTF (by assumption) ?_ (by intro _; exact rfl)
      repeat' ((fail_if_success (with_reducible show wpAny _ _ (pyIter _) _ _ _)); first | (k_unfold; (try dsimp only)) | (k_end; wrow_close) | k_extra "fold" | k_extra "u1" | walk1 | (dsimp only; (first | k_extra "fold" | k_extra "u1" | walk1)) | (leave1; walk_say "STEP leave1"; try dsimp only) | fail "no step")
      rename News g' L' _ _ => kN14
      rename Fr g' L' _ _ => kF14
      refine iter_tupT (vs := [x1, x2, x3]) (fun (_ : CorW) => []) [Str.ofString "hue", Str.ofString "name"] (fun z => (cor, listOf z.vs.toArray z.n) :: (I, oI) :: (th, listOf (tv ++ [Value.ref ta]).toArray (tn + 1)) :: (ta, tup3 v1 v2 v3) :: (tt ++ news))
        (fun i z => All2 StrAt z.vs z.ts ∧ SortedS z.ts ∧ z.ts.Perm (((TR.take j).flatten ++ T.take i).map nm) ∧ z.ts.length = 3 * j + i)
        ⟨vs, n, ts⟩ (by exact rfl) (fun _ _ _ _ hi hq => hi.elim fun _ hi => letGo_tupleiter hi hq) kF14 kN14 ?sub3 (fun z => mem_tail 3 rfl htb) rfl ⟨_, rfl⟩ trivial ⟨hs1, hs2, by simpa using hs3, hs4⟩ ?turn3 ?done3
      case sub3 =>
        intro p hp
        rcases List.mem_cons.mp hp with rfl | hp
        · exact .tail _ (.head _)
        · rcases List.mem_cons.mp hp with rfl | hp
          · exact .head _
          · exact .tail _ (.tail _ hp)
      case done3 =>
        rintro ⟨vs3, n3, ts3⟩ u3 h15 tk15 ⟨hq1, hq2, hq3, hq4⟩ F15 N15
        dsimp only at hq1 hq2 hq3 hq4 F15 N15
        repeat' (first | (k_unfold; (try dsimp only)) | (k_end; wrow_close) | k_extra "fold" | k_extra "u1" | walk1 | (dsimp only; (first | k_extra "fold" | k_extra "u1" | walk1)) | (leave1; walk_say "STEP leave1"; try dsimp only) | fail "no step")
        have hT3l := hT3 T (List.mem_of_getElem? hTj)
        refine ⟨_, _, _, _, ⟨vs3, n3, ts3⟩, rfl, by assumption, by assumption, mem_at 1 rfl, ?e1, ?e2, trivial, ?e3, hq1, hq2, ?e6, ?e7⟩
        case e1 =>
          intro p hp
          rcases List.mem_cons.mp hp with rfl | hp
          · exact .head _
          · exact .tail _ (.tail _ hp)
        case e2 =>
          intro p hp
          rcases List.mem_cons.mp hp with rfl | hp
          · exact hne (cor, listOf vs.toArray n) (.head _)
          · exact hne p (.tail _ hp)
        case e3 =>
          intro y h1 h2
          refine (frameM_out (by rfl) h2).trans ?_
          (try dsimp +zetaDelta only)
          simp only [if_neg h1]
          exact frameM_out (by rfl) h2
        case e6 =>
          rw [List.take_add_one, hTj]
          have e : T.take [x1, x2, x3].length = T := List.take_of_length_le (by rw [hT3l]; exact Nat.le_refl _)
          rw [e] at hq3
          show ts3.Perm ((TR.take j ++ [T]).flatten.map nm)
          rw [List.flatten_append]
          simpa using hq3
        case e7 =>
          have : [x1, x2, x3].length = 3 := rfl
          dsimp only
          k_extra "om"
      case turn3 =>
        rintro I2 i v ⟨vs3, n3, ts3⟩ u3 h15 g15 d15 tk15 os15 oI2 hv3 ⟨hq1, hq2, hq3, hq4⟩ hne3 F15 N15
        dsimp only at hq1 hq2 hq3 hq4 hne3 F15 N15
        obtain ⟨p, hTi, ab, t1, t2, rfl, hab⟩ := hxT.get' hv3
        obtain ⟨LD, kN16, hLD⟩ : ∃ LD, News g' L' h15 LD ∧ LD = _ := ⟨_, N15, rfl⟩
        have hlD := mem_nth hLD 1 rfl
        have c1 : (ab, tup2 (.float (frac p 32) t1) (.str (nm p) t2)) ∈ LD := by rw [hLD]; exact mem_tail 4 rfl hab
        clear N15
        repeat' ((fail_if_success (with_reducible show wpAny _ _ (call (Value.ref 55) _ _) _ _ _)); first | (k_unfold; (try dsimp only)) | (k_end; wrow_close) | k_extra "fold" | k_extra "u1" | walk1 | (dsimp only; (first | k_extra "fold" | k_extra "u1" | walk1)) | (leave1; walk_say "STEP leave1"; try dsimp only) | fail "no step")
        have hjl := (List.getElem?_eq_some_iff.mp hTj).1
        have hT3l := hT3 T (List.mem_of_getElem? hTj)
        have hil := (List.getElem?_eq_some_iff.mp hTi).1
        k_dflt (refine' Cl.use (c_insort_left w cor n3 vs3 ts3 (nm p) t2 LD hlD hq1.length (by k_extra "om") ?hv (fun k => !(sLt k (nm p))) (fun _ => rfl) ?mono) ?k1 ?k2 ?k3 ?k4 ?k5 ?k6 ?k7 ?k8 ?_; (case k1 => k_asm); (case k2 => k_asm); (case k3 => k_asm); (case k4 => k_asm); (case k5 => k_asm); (case k6 => exact rfl); (case k7 => ktr_room); (case k8 => ktr_units))
        case hv =>
          intro q k hk2
          obtain ⟨v, hv1, t, rfl⟩ := hq1.get hk2
          exact ⟨t, hv1⟩
        case mono =>
          intro q r a b h1 h2 h3 h4
          simp only [Bool.not_eq_true', decide_eq_false_iff_not] at h4 ⊢
          intro h5
          refine h4 (sl_le_trans ?_ h5)
          rcases Nat.lt_or_eq_of_le h3 with h6 | h6
          · exact pw_at hq2 h1 h2 h6
          · subst h6; rw [h1] at h2; cases h2; exact sl_irrefl _
        intro r hr ha hb h16 tk16 F16 N16
        (try dsimp only)
        (try k_fold)
        rw [hLD] at N16
        have hcI : @Ne Nat cor I := hne _ (.head _)
        have hcI2 : @Ne Nat cor I2 := hne3 _ (.head _)
        have N17 : News g' L' h16 ((cor, listOf (vs3.take r ++ .str (nm p) t2 :: vs3.drop r).toArray (n3 + 1)) :: (I2, oI2) :: (I, oI) :: (th, listOf (tv ++ [Value.ref ta]).toArray (tn + 1)) :: (ta, tup3 v1 v2 v3) :: (tt ++ news)) := by
          refine ledSet_clean N16 fun p hp => ?_
          rcases List.mem_cons.mp hp with rfl | hp
          · exact ⟨mem_at 0 rfl, Ne.symm hcI2⟩
          · rcases List.mem_cons.mp hp with rfl | hp
            · exact ⟨mem_at 2 rfl, Ne.symm hcI⟩
            · rcases List.mem_cons.mp hp with rfl | hp
              · exact ⟨mem_at 3 rfl, Ne.symm hCt⟩
              · rcases List.mem_cons.mp hp with rfl | hp
                · exact ⟨mem_at 4 rfl, Nat.ne_of_lt hC2⟩
                · exact ⟨mem_tail 5 rfl hp, Nat.ne_of_lt (hC4 p hp)⟩
        clear N16
        repeat' (first | (k_unfold; (try dsimp only)) | (k_end; wrow_close) | k_extra "fold" | k_extra "u1" | walk1 | (dsimp only; (first | k_extra "fold" | k_extra "u1" | walk1)) | (leave1; walk_say "STEP leave1"; try dsimp only) | fail "no step")
        refine ⟨rfl, _, _, _, _, ⟨vs3.take r ++ .str (nm p) t2 :: vs3.drop r, n3 + 1, ts3.take r ++ nm p :: ts3.drop r⟩, rfl, by assumption, N17, mem_at 1 rfl, ?e1, ?e2, trivial, ?e3, ?e4, ?e5, ?e6, ?e7⟩
        case e1 =>
          intro p hp
          rcases List.mem_cons.mp hp with rfl | hp
          · exact .head _
          · exact mem_tail 2 rfl hp
        case e2 =>
          intro p hp
          rcases List.mem_cons.mp hp with rfl | hp
          · exact hcI2
          · exact hne3 p (.tail _ hp)
        case e3 =>
          intro y h2
          have e1 : y ≠ Str.ofString "hue" := nc h2 rfl
          have e2 : y ≠ Str.ofString "name" := nc h2 rfl
          (try dsimp +zetaDelta only)
          simp only [if_neg e1, if_neg e2]
          exact frameM_out (by rfl) h2
        case e4 => exact hq1.insert r ⟨t2, rfl⟩
        case e5 =>
          refine sorted_ins hq2 (fun i k h1 h2 => ?_) (fun i k h1 h2 => ?_)
          · have := ha i k h1 h2
            simpa only [Bool.not_eq_false', decide_eq_true_eq] using this
          · have := hb i k h1 h2
            simpa only [Bool.not_eq_true', decide_eq_false_iff_not] using this
        case e6 =>
          refine (perm_ins r).trans ?_
          rw [List.take_add_one, hTi]
          show (ts3 ++ [nm p]).Perm (((TR.take j).flatten ++ (T.take i ++ [p])).map nm)
          rw [← List.append_assoc, List.map_append]
          exact hq3.append_right _
        case e7 =>
          dsimp only
          rw [List.length_append, List.length_cons, List.length_take, List.length_drop]
          have := hq1.length
          k_extra "om"
  case turn =>
    rintro I k v ⟨rv, rn, tv, tn, tt⟩ u h2 tk2 oI hv ⟨hri, hti, htt⟩ hne F4 N4
    dsimp only at hri hti htt hne F4 N4
    obtain ⟨c, tc, rfl, hck⟩ := IntsAre.at hci k v hv
    have hkl : k < ks.length := (List.getElem?_eq_some_iff.mp hck).1
    obtain ⟨hc0, hc32⟩ := hk32 c (List.mem_of_getElem? hck)
    have i0 := noInf_p hc0 hc32
    unfold frac at i0
    have hinv := fans_inv hSn hl k (by k_extra "om")
    have hsrt := fans_sorted (ks := ks) hSs k
    have hinvl := hinv.len
    have hrl := hri.length
    have htl := hti.length
    rw [List.length_map, List.length_range] at htl
    obtain ⟨rest, hre⟩ : ∃ rest, rest = (fansSt S ks k).1 := ⟨_, rfl⟩
    rw [← hre] at hri hinvl hrl hsrt
    have hrS : ∀ p ∈ rest, p ∈ S := fun p hp => hinv.sub p (by rw [← hre]; exact hp)
    have b_rest : rest.length ≤ 7 := Nat.le_trans (Nat.le_trans (Nat.le_add_right _ k) (Nat.le_of_eq hinvl)) hl7
    have b_rv : rv.length ≤ 7 := Nat.le_trans (Nat.le_of_eq hrl) b_rest
    have c_rest : 4 ≤ rest.length := by clear b_rv hrl htl; k_extra "om"
    have hn0 : 0 < rest.length := Nat.lt_of_lt_of_le (by decide) c_rest
    have hn2 : 2 ≤ rest.length := Nat.le_trans (by decide) c_rest
    have hnz : (rv.length : Int) ≠ 0 := by rw [hrl]; exact Int.ofNat_ne_zero.mpr (Nat.ne_of_gt hn0)
    have b_tv : tv.length ≤ 7 := Nat.le_trans (Nat.le_of_eq htl) (Nat.le_trans (Nat.le_of_lt hkl) (Nat.le_trans (Nat.le_trans (Nat.le_add_right _ 3) (Nat.le_of_eq hl)) hl7))
    have hrN : rest.Nodup := hsrt.imp fun h => by k_extra "om"
    repeat' ((fail_if_success (with_reducible show wpAny _ _ (call (Value.ref 64) _ _) _ _ _)); first | (k_unfold; (try dsimp only)) | (k_end; wrow_close) | k_extra "fold" | k_extra "u1" | walk1 | (dsimp only; (first | k_extra "fold" | k_extra "u1" | walk1)) | (leave1; walk_say "STEP leave1"; try dsimp only) | fail "no step")
    rename News g' L' _ _ => kN1
    rename Fr g' L' _ _ => kF1
    obtain ⟨LD, kN2, hLD⟩ : ∃ LD, News g' L' h2 LD ∧ LD = _ := ⟨_, kN1, rfl⟩
    have hlD := mem_nth hLD 2 rfl
    have hsub : ∀ p ∈ news, p ∈ LD := fun p hp => by rw [hLD]; exact mem_tail 3 rfl (List.mem_append_right _ hp)
    clear kN1
    k_dflt (refine' Cl.use (c_bisect_left_f2 w rg rn rv (rest.map fun p => frac p 32) (frac c 32) _ LD hlD (by rw [List.length_map]; exact hrl) (by rw [List.length_map]; k_extra "om") ?hv (fun k => !(fLt k (frac c 32))) (fun _ => rfl) ?mono) ?k1 ?k2 ?k3 ?k4 ?k5 ?k6 ?k7 ?k8 ?_; (case k1 => k_asm); (case k2 => k_asm); (case k3 => k_asm); (case k4 => k_asm); (case k5 => k_asm); (case k6 => exact rfl); (case k7 => ktr_room); (case k8 => ktr_units))
    case hv =>
      intro i q hq
      rw [List.getElem?_map] at hq
      cases hp : rest[i]? with
      | none => rw [hp] at hq; cases hq
      | some p =>
        rw [hp] at hq
        cases hq
        obtain ⟨v, hv1, a, t, t', rfl, hm⟩ := hri.get hp
        exact ⟨a, t, _, hv1, hsub _ hm⟩
    case mono =>
      intro i j a b h1 h2 h3 h4
      rw [List.getElem?_map] at h1 h2
      cases hp : rest[i]? with
      | none => rw [hp] at h1; cases h1
      | some p =>
        cases hq : rest[j]? with
        | none => rw [hq] at h2; cases h2
        | some q =>
          rw [hp] at h1; rw [hq] at h2
          cases h1; cases h2
          have p1 := hS32 p (hrS p (List.mem_of_getElem? hp))
          have p2 := hS32 q (hrS q (List.mem_of_getElem? hq))
          have hpq : p ≤ q := by
            rcases Nat.lt_or_eq_of_le h3 with h5 | h5
            · exact Int.le_of_lt (pw_at hsrt hp hq h5)
            · subst h5; rw [hp] at hq; cases hq; exact Int.le_refl _
          rw [hue_lt p1.1 p1.2 hc0 hc32] at h4
          rw [hue_lt p2.1 p2.2 hc0 hc32]
          simp only [Bool.not_eq_true', decide_eq_false_iff_not] at h4 ⊢
          k_extra "om"
    intro r hr ha hb t9 h9 tk9 F9 N9
    (try dsimp only)
    (try k_fold)
    rw [hLD] at N9
    have hp1 : ∀ (i : Nat) (p : Int), i < r → rest[i]? = some p → p < c := by
      intro i p h1 h2
      have h3 : (!fLt (frac p 32) (frac c 32)) = false := ha i (frac p 32) h1 (by rw [List.getElem?_map, h2]; rfl)
      have p1 := hS32 p (hrS p (List.mem_of_getElem? h2))
      rw [hue_lt p1.1 p1.2 hc0 hc32] at h3
      simpa using h3
    have hp2 : ∀ (i : Nat) (p : Int), r ≤ i → rest[i]? = some p → ¬ p < c := by
      intro i p h1 h2
      have h3 : (!fLt (frac p 32) (frac c 32)) = true := hb i (frac p 32) h1 (by rw [List.getElem?_map, h2]; rfl)
      have p1 := hS32 p (hrS p (List.mem_of_getElem? h2))
      rw [hue_lt p1.1 p1.2 hc0 hc32] at h3
      simpa using h3
    have hear := ear_bis (by k_extra "om") (by k_extra "om") hp1 hp2
    clear ha hb hp1 hp2
    repeat' ((fail_if_success (with_reducible show wpAny _ _ (exec (Stmt.Assign _ _ _) _) _ _ _)); first | (k_unfold; (try dsimp only)) | (k_end; wrow_close) | k_extra "fold" | k_extra "u1" | walk1 | (dsimp only; (first | k_extra "fold" | k_extra "u1" | walk1)) | (leave1; walk_say "STEP leave1"; try dsimp only) | fail "no step")
    have hfm : Int.fmod (r : Int) (rv.length : Int) = ((r % rest.length : Nat) : Int) := by
      rw [Int.fmod_eq_emod_of_nonneg _ (by k_extra "om"), hrl]; push_cast; rfl
    simp only [hfm] at *
    have hjl : r % rest.length < rest.length := Nat.mod_lt _ (by k_extra "om")
    generalize hjq : r % rest.length = j at *
    obtain ⟨vj, hvj, hlj⟩ := hri.get hear
    repeat' ((fail_if_success (with_reducible show wpAny _ _ (call (Value.builtin "list.pop") _ _) _ _ _)); first | (k_unfold; (try dsimp only)) | (k_end; wrow_close) | k_extra "fold" | k_extra "u1" | walk1 | (dsimp only; (first | k_extra "fold" | k_extra "u1" | walk1)) | (leave1; walk_say "STEP leave1"; try dsimp only) | fail "no step")
    refine my_pop (by assumption) (by assumption) (mem_at 2 rfl) (by k_extra "om") hvj ?_
    intro h3 F5 N5
    have hIrg : @Ne Nat rg I := hne _ (.tail _ (.head _))
    have hIth : @Ne Nat th I := hne _ (.head _)
    have N6 : News g' L' h3 ((rg, listOf (rv.take j ++ rv.drop (j + 1)).toArray (rn + 1)) :: (I, oI) :: (th, listOf tv.toArray tn) :: (tt ++ news)) := by
      refine ledSet_clean N5 fun p hp => ?_
      rcases List.mem_cons.mp hp with rfl | hp
      · exact ⟨.head _, Ne.symm hIrg⟩
      · rcases List.mem_cons.mp hp with rfl | hp
        · exact ⟨.tail _ (.head _), Ne.symm hrt⟩
        · refine ⟨mem_tail 3 rfl hp, ?_⟩
          rcases List.mem_append.mp hp with hp | hp
          · exact (htt p hp).1
          · exact hrn p hp
    clear N5
    generalize hee : earOf rest c = ear at *
    have hidx := idx_of_get hrN hear
    obtain ⟨v1, hv1, hl1⟩ := hri.get (getD_some (l := rest) (i := (j + rest.length - 1) % rest.length) (Nat.mod_lt _ (by k_extra "om")))
    obtain ⟨v3, hv3, hl3⟩ := hri.get (getD_some (l := rest) (i := (j + 1) % rest.length) (Nat.mod_lt _ (by k_extra "om")))
    have hel := era_len hrl hjl
    have b_el : (rv.take j ++ rv.drop (j + 1)).length ≤ 7 := by rw [hel]; exact Nat.le_trans (Nat.sub_le _ _) b_rest
    have h1m : 0 < rest.length - 1 := Nat.sub_pos_of_lt hn2
    have c_el : 0 < (rv.take j ++ rv.drop (j + 1)).length := by rw [hel]; exact h1m
    have hjle : j ≤ (rv.take j ++ rv.drop (j + 1)).length := by rw [hel]; exact Nat.le_sub_one_of_lt hjl
    have hnz2 : (((rv.take j ++ rv.drop (j + 1)).length : Nat) : Int) ≠ 0 := Int.ofNat_ne_zero.mpr (Nat.ne_of_gt c_el)
    have hp3 := era_prev (l := rv) hjl hn2
    have hq3 := era_next (l := rv) hjl hn2
    repeat' ((fail_if_success (with_reducible show wpAny _ _ (subscriptTail _ _ _ _) _ _ _)); first | (k_unfold; (try dsimp only)) | (k_end; wrow_close) | k_extra "fold" | k_extra "u1" | walk1 | (dsimp only; (first | k_extra "fold" | k_extra "u1" | walk1)) | (leave1; walk_say "STEP leave1"; try dsimp only) | fail "no step")
    refine my_itemPy2 (vs := rv.take j ++ rv.drop (j + 1)) (News.isList (by assumption) (.head _)) (by k_extra "om") (by k_extra "om") (by k_extra "om") (by rw [hel]; exact hp3.trans hv1) ?_
    repeat' ((fail_if_success (with_reducible show wpAny _ _ (subscriptTail _ _ _ _) _ _ _)); first | (k_unfold; (try dsimp only)) | (k_end; wrow_close) | k_extra "fold" | k_extra "u1" | walk1 | (dsimp only; (first | k_extra "fold" | k_extra "u1" | walk1)) | (leave1; walk_say "STEP leave1"; try dsimp only) | fail "no step")
    have hfm : Int.fmod (j : Int) (((rv.take j ++ rv.drop (j + 1)).length : Nat) : Int) = ((j % (rest.length - 1) : Nat) : Int) := by
      rw [Int.fmod_eq_emod_of_nonneg _ (by k_extra "om"), hel]; push_cast; rfl
    rw [hfm]
    have hml := Nat.mod_lt j h1m
    have b_ml : j % (rest.length - 1) ≤ 7 := Nat.le_trans (Nat.le_of_lt hml) (Nat.le_trans (Nat.sub_le _ _) b_rest)
    refine my_item (vs := rv.take j ++ rv.drop (j + 1)) (News.isList (by assumption) (.head _)) (by k_extra "om") (by k_extra "om") (by rw [Int.toNat_natCast]; exact hq3.trans hv3) ?_
    repeat' ((fail_if_success (with_reducible show wpAny _ _ (call (Value.builtin "list.append") _ _) _ _ _)); first | (k_unfold; (try dsimp only)) | (k_end; wrow_close) | k_extra "fold" | k_extra "u1" | walk1 | (dsimp only; (first | k_extra "fold" | k_extra "u1" | walk1)) | (leave1; walk_say "STEP leave1"; try dsimp only) | fail "no step")
    rename_i ta h8 kF8 kN8 hT8
    obtain ⟨hT8a, hT8b, hT8c, hT8d⟩ := hT8
    have hT8e := allLt_mem hT8d
    refine my_append (n := tn) (li := tv) (by assumption) (by assumption) (mem_at 3 rfl) (by k_extra "om") ?_
    intro h10 F10 N10
    have N11 : News g' L' h10 ((th, listOf (tv ++ [Value.ref ta]).toArray (tn + 1)) :: (rg, listOf (rv.take j ++ rv.drop (j + 1)).toArray (rn + 1)) :: (I, oI) :: (ta, tup3 v1 vj v3) :: (tt ++ news)) := by
      refine ledSet_clean N10 fun p hp => ?_
      rcases List.mem_cons.mp hp with rfl | hp
      · exact ⟨mem_at 1 rfl, hrt⟩
      · rcases List.mem_cons.mp hp with rfl | hp
        · exact ⟨mem_at 2 rfl, Ne.symm hIth⟩
        · rcases List.mem_cons.mp hp with rfl | hp
          · exact ⟨mem_at 0 rfl, Nat.ne_of_gt hT8c⟩
          · refine ⟨mem_tail 4 rfl hp, ?_⟩
            rcases List.mem_append.mp hp with hp | hp
            · exact (htt p hp).2
            · exact htn p hp
    clear N10 kN8
    repeat' (first | (k_unfold; (try dsimp only)) | (k_end; wrow_close) | k_extra "fold" | k_extra "u1" | walk1 | (dsimp only; (first | k_extra "fold" | k_extra "u1" | walk1)) | (leave1; walk_say "STEP leave1"; try dsimp only) | fail "no step")
    have hck2 : ks.getD k 0 = c := by rw [List.getD_eq_getElem?_getD, hck]; rfl
    have e1 : (fansSt S ks (k + 1)).1 = rest.take j ++ rest.drop (j + 1) := by
      show (stepT (fansSt S ks k).1 ks k).2 = _
      rw [← hre, stepT_lt hkl, hck2, hee]
      exact filter_erase hrN hear
    have e2 : triS S ks k = threeOf rest ear := by
      unfold triS
      rw [← hre, stepT_lt hkl, hck2, hee]
    refine ⟨_, _, _, _, ⟨rv.take j ++ rv.drop (j + 1), rn + 1, tv ++ [Value.ref ta], tn + 1, (ta, tup3 v1 vj v3) :: tt⟩, rfl, by assumption, N11, mem_at 2 rfl, ?d1, ?d2, trivial, ?d3, ?d4, ?d5, ?d6⟩
    case d1 =>
      intro p hp
      rcases List.mem_cons.mp hp with rfl | hp
      · exact .head _
      · rcases List.mem_cons.mp hp with rfl | hp
        · exact .tail _ (.head _)
        · exact mem_tail 3 rfl hp
    case d2 =>
      intro p hp
      rcases List.mem_cons.mp hp with rfl | hp
      · exact hIth
      · rcases List.mem_cons.mp hp with rfl | hp
        · exact hIrg
        · rcases List.mem_cons.mp hp with rfl | hp
          · exact Nat.ne_of_gt hT8b
          · exact hne p (.tail _ (.tail _ hp))
    case d3 =>
      intro y h1 h2
      have e1 : y ≠ Str.ofString "spot" := nc h2 rfl
      have e2 : y ≠ Str.ofString "ear" := nc h2 rfl
      dsimp +zetaDelta only
      simp only [if_neg e1, if_neg e2, if_neg h1]
      exact frameM_out (by rfl) h2
    case d4 =>
      rw [e1]
      exact hri.erase j
    case d5 =>
      rw [List.range_succ, List.map_append]
      refine (hti.imp fun _ _ h => h.mono fun p hp => .tail _ hp).append (.one ⟨ta, v1, vj, v3, rfl, .head _, ?_⟩)
      rw [e2]
      unfold threeOf
      rw [hidx]
      exact All2.imp (.cons hl1 (.cons hlj (.cons hl3 .nil))) fun _ _ h => h.mono fun p hp => .tail _ (List.mem_append_right _ hp)
    case d6 =>
      intro p hp
      rcases List.mem_cons.mp hp with rfl | hp
      · exact ⟨Nat.ne_of_gt hT8a, Nat.ne_of_gt hT8c⟩
      · exact htt p hp
end

/-! part Cnt -/
section
open PySem PySem.W PyProof.Rows PySem.Spec PySem.Calls
set_option Elab.async false
set_option maxRecDepth 100000
set_option maxHeartbeats 4000000


theorem reset_Cnt : True := by
  w_top off
  trivial

theorem words_Cnt : True := by
  k_with_none
  k_with "fold" => ((with_reducible show wpAny _ _ (execs (_ :: _) _) _ _ _); (try k_gentoks); (refine foldM (by with_reducible assumption) ?_); intro _ _; (with_reducible refine wpAny_execs_cons ?_); (try dsimp only); (refine foldQ ?_); intro _)
  k_with "nm" => first | assumption | exact List.Mem.head _ | (refine List.Mem.tail _ ?_; news_mem) | (refine List.mem_append_right _ ?_; news_mem)
  k_with "km" => first | assumption | (refine List.mem_append_right _ ?_; k_mem)
  k_with "ka" => first | assumption | exact Under.ne (by assumption) (by omega)
  k_with "ne" => ((try dsimp only); first | assumption | (refine Ne.symm ?_; assumption) | exact Nat.ne_of_gt (by assumption) | exact Nat.ne_of_lt (by assumption) | exact Nat.ne_of_lt (Nat.lt_succ_self _) | exact Nat.ne_of_gt (Nat.lt_succ_self _) | exact Nat.ne_of_lt (Nat.lt_succ_of_lt (Nat.lt_succ_self _)) | exact Nat.ne_of_gt (Nat.lt_succ_of_lt (Nat.lt_succ_self _)))
  k_with "room" => ((try dsimp +zetaDelta only); simp only [depth_under_make, depth_under_kw, depth_in1, depth_deeper, depth_caller, recursionLimit]; first | decide | exact room3 (by assumption) (by decide) | exact room1 (by assumption) | omega)
  k_with "units" => ((try dsimp +zetaDelta only); simp only [units_in1, units_deeper, Around.mark_units, units_caller, cLine]; first | decide | exact room3 (by assumption) (by decide) | exact room1 (by assumption) | omega)
  k_with "om" => (first | (with_reducible first | assumption | exact Int.natCast_nonneg _ | exact Nat.le_trans (by assumption) (by decide) | exact Nat.lt_of_le_of_lt (by assumption) (by decide) | exact lt_lit (by assumption) (by decide) | exact le_lit (by assumption) (by decide) | exact le_flip (by assumption) (by decide) | exact lt_lit0 (by assumption) (by decide) | exact nn0) | decide | omega)
  k_with "u1" => ((with_reducible show wpAny _ _ (call (Value.builtin "len") [Value.ref _]) _ _ _); refine my_len (by is_list) (by k_extra "om") ?_)
  k_with "u2" => ((with_reducible show wpAny _ _ (call (Value.ref 71) [_, _] []) _ _ _); k_dflt (refine' Cl.use (c_strcoll _ _ _ _ _ _) ?k1 ?k2 ?k3 ?k4 ?k5 ?k6 ?k7 ?k8 ?_;  (case k1 => k_asm); (case k2 => k_asm); (case k3 => k_asm); (case k4 => k_asm); (case k5 => k_asm); (case k6 => first | exact rfl | assumption); (case k7 => ktr_room); (case k8 => ktr_units); k_whole); intro _ _ _ _ _; (try dsimp only); (try k_fold))
  trivial
def TabOk (news : Led) : Prop := (101, tabObj #[]) ∈ news ∨ ∃ c1 o1 v1 t1 c2 o2 v2 t2, (101, tabObj #[rawInt 124, rawInt 40, .ref c1, rawInt 125, rawInt 41, .ref c2]) ∈ news ∧
  (c1, o1) ∈ news ∧ o1.data = .fields v1 ∧ v1[1]? = some (.str (Str.ofString "_law_count.<locals>.<lambda>") t1) ∧ (c2, o2) ∈ news ∧ o2.data = .fields v2 ∧ v2[1]? = some (.str (Str.ofString "_law_count.<locals>.<lambda>") t2)
theorem c_count1 (w : World) (l : Addr) (nn : Nat) (vs : List Value) (ks : List Str) (x : Str) (tx : Tok) (rest : Led) (hl : (l, listOf vs.toArray nn) ∈ rest) (hne : ∀ p ∈ rest, p.1 ≠ 101)
    (hlen : vs.length = ks.length) (hlen2 : ks.length ≤ 100)
    (hv : ∀ (i : Nat) (k : Str), ks[i]? = some k → ∃ tk, vs[i]? = some (Value.str k tk)) (hsort : ∀ (i j : Nat) (a b : Str), ks[i]? = some a → ks[j]? = some b → i ≤ j → ¬ sl b a) :
    Cl w 6 106 [.ref l, .str x tx] [] ((101, tabObj #[]) :: rest) (fun h₀ L m s Q => ∀ (big tab' : Led) (t : Tok) (h' : Heap) (tk' : Nat), Fr h₀ L h' m → News h₀ L h' big → (∀ p ∈ rest, p ∈ big) → TabOk tab' → (∀ p ∈ tab', p ∈ big) → (∀ p ∈ tab', p.1 = 101 ∨ ∀ q ∈ (101, tabObj #[]) :: rest, q.1 < p.1) → Q (.int (ks.count x : Nat) t) { s with heap := h', toks := tk' }) := by
  unfold Cl
  k_fill
  intro mean mg mb dp un gd cn cs a ccd cl outer A₀ base h₀ L m s Q E B F X N T hk hd hu hret
  refine wpAny_call ?_
  k_dflt (refine' code_defC ?k1 ?k2 ?k3 ?k4 ?k5 ?kA ?kF ?kK ?k6 ?k7 ?k8 ?k9 ?kB ?kD ?_ ?c2 ?c3 ?c4; (case kA => exact rfl); (case kF => exact rfl); (case kK => assumption); (case k1 => k_asm); (case k2 => k_asm); (case k3 => k_asm); (case k4 => k_asm); (case k5 => k_asm); (case k6 => k_is); (case k7 => k_is); (case k8 => ktr_room); (case k9 => first | exact BindsTo.of_eq rfl | exact binds_K (by k_in) rfl (by k_is) rfl rfl rfl); (case kB => exact rfl); (case kD => decide +kernel); (case c2 => exact rfl); (case c3 => exact rfl); (case c4 => exact rfl); k_whole; intro g' L' h' tk' cells' FG' F' N' Y' B' X' T' l1; (try dsimp only); (try k_lift B'); (try k_fold))
  refine foldE ?_
  intro _ _
  have codeHd := codeHd_of_K (c := 105) (P := 101) X' (by kernel_rfl)
  obtain ⟨oC, hE', dC⟩ := CellsAre.one Y'
  subst hE'
  have dC : oC.data = .cell (some (.str x tx)) := dC
  clear Y'
  simp only [List.cons_append, List.nil_append] at N'
  have hU : Under L' ((101, tabObj #[]) :: rest) := l1
  have hL1 : @LT.lt Nat _ 101 L' := l1 _ (.head _)
  repeat' ((fail_if_success (with_reducible show wpAny _ _ (call (Value.ref 64) _ _) _ _ _)); first | (k_unfold; (try dsimp only)) | (k_end; wrow_close) | k_extra "fold" | k_extra "u2" | k_extra "u1" | walk1 | (dsimp only; (first | k_extra "fold" | k_extra "u2" | k_extra "u1" | walk1)) | (leave1; walk_say "STEP leave1"; try dsimp only) | fail "no step")
  rename News g' L' _ _ => kN
  rename_i fN cN ocN vsN tN ctN hhN tkN FN dN1 dN2 lN1 lN2
  obtain ⟨LD, kN2, hLD⟩ : ∃ LD, News g' L' hhN LD ∧ LD = _ := ⟨_, kN, rfl⟩
  have hf := mem_nth hLD 0 rfl
  have hcd := mem_nth hLD 1 rfl
  have hcl := mem_nth hLD 2 rfl
  have hlD : (l, listOf vs.toArray nn) ∈ LD := by rw [hLD]; exact List.mem_cons_of_mem _ <| List.mem_cons_of_mem _ <| List.mem_cons_of_mem _ <| List.mem_cons_of_mem _ hl
  have CL : ∀ (y : Str) (t : Tok), y ∈ ks → Cl w 2 fN [.str y t] [] LD (Gives LD fun t => .int (gk x y) t) := by
    clear hLD hlD kN kN2 hret F N X T FG' F' N' B' X' T' FN codeHd
    intro y t hy
    unfold Cl
    k_fill
    intro mean mg mb dp un gd cn cs a ccd cl outer A₀ base h₀ L m s Q E B F X N T hk hd hu hret
    refine wpAny_call ?_
    k_dflt (refine' kla_code ?k1 ?k2 ?k3 ?k4 ?k5 ?kA ?kF ?kK ?k6 ?k7 ?k8 ?k9 ?kB ?_ ?c2 ?c3 ?c4 ?c5; (case kA => exact rfl); (case kF => exact rfl); (case kK => assumption); (case k1 => k_asm); (case k2 => k_asm); (case k3 => k_asm); (case k4 => k_asm); (case k5 => k_asm); (case k6 => k_mem); (case k7 => exact codeRec_news (by k_asm) (by k_mem) (by assumption) (by assumption)); (case k8 => ktr_room); (case k9 => exact rfl); (case c5 => decide); (case kB => exact locs rfl); (case c2 => exact rfl); (case c3 => exact rfl); (case c4 => exact rfl); k_whole; intro g' L' h' FG' F' N' B' X' T'; (try dsimp only); (try k_lift B'); (try k_fold))
    have codeHd := codeHd_of_K (c := 105) (P := 101) X' (by kernel_rfl)
    repeat' (first | (k_unfold; (try dsimp only)) | (k_end; wrow_close) | k_extra "fold" | k_extra "u2" | k_extra "u1" | walk1 | (dsimp only; (first | k_extra "fold" | k_extra "u2" | k_extra "u1" | walk1)) | (leave1; walk_say "STEP leave1"; try dsimp only) | fail "no step")
    exact hret _ _ _ (by assumption) (by assumption)
  clear kN
  k_dflt (refine' Cl.use (c_bisect_left_k w l nn vs ks fN _ _ _ _ (gk x) _ LD hlD hlen hlen2 hv (fun k => !(decide (gk x k < 0))) (fun _ => rfl) hf CL ?mono) ?k1 ?k2 ?k3 ?k4 ?k5 ?k6 ?k7 ?k8 ?_; (case k1 => k_asm); (case k2 => k_asm); (case k3 => k_asm); (case k4 => k_asm); (case k5 => k_asm); (case k6 => exact rfl); (case k7 => ktr_room); (case k8 => ktr_units))
  case mono =>
    intro i j a b h1 h2 h3 h4
    simp only [Bool.not_eq_true', decide_eq_false_iff_not, gk_neg] at h4 ⊢
    exact fun h5 => h4 (sl_le_trans (hsort i j a b h1 h2 h3) h5)
  intro r1 hr1 ha1 ha2 t9 h9 tk9 F9 N9
  (try dsimp only)
  (try k_fold)
  rw [hLD] at N9
  repeat' ((fail_if_success (with_reducible show wpAny _ _ (call (Value.ref 46) _ _) _ _ _)); first | (k_unfold; (try dsimp only)) | (k_end; wrow_close) | k_extra "fold" | k_extra "u2" | k_extra "u1" | walk1 | (dsimp only; (first | k_extra "fold" | k_extra "u2" | k_extra "u1" | walk1)) | (leave1; walk_say "STEP leave1"; try dsimp only) | fail "no step")
  rename News g' L' _ _ => kN
  rename_i fN2 cN2 ocN2 vsN2 tN2 ctN2 hhN2 tkN2 FN2 dN12 dN22 lN12 lN22
  obtain ⟨LD2, kN22, hLD2⟩ : ∃ LD2, News g' L' hhN2 LD2 ∧ LD2 = _ := ⟨_, kN, rfl⟩
  have hf2 := mem_nth hLD2 0 rfl
  have hcd2 := mem_nth hLD2 1 rfl
  have hcl2 := mem_nth hLD2 4 rfl
  have hlD2 : (l, listOf vs.toArray nn) ∈ LD2 := by rw [hLD2]; exact List.mem_cons_of_mem _ <| List.mem_cons_of_mem _ <| List.mem_cons_of_mem _ <| List.mem_cons_of_mem _ <| List.mem_cons_of_mem _ <| List.mem_cons_of_mem _ hl
  have CL2 : ∀ (y : Str) (t : Tok), y ∈ ks → Cl w 2 fN2 [.str y t] [] LD2 (Gives LD2 fun t => .int (gk x y) t) := by
    clear ha1 ha2 hLD2 hlD2 kN kN22 hret F N X T FG' B' X' T' FN2 codeHd
    (try clear F')
    (try clear N')
    intro y t hy
    unfold Cl
    k_fill
    intro mean mg mb dp un gd cn cs a ccd cl outer A₀ base h₀ L m s Q E B F X N T hk hd hu hret
    refine wpAny_call ?_
    k_dflt (refine' kla_code ?k1 ?k2 ?k3 ?k4 ?k5 ?kA ?kF ?kK ?k6 ?k7 ?k8 ?k9 ?kB ?_ ?c2 ?c3 ?c4 ?c5; (case kA => exact rfl); (case kF => exact rfl); (case kK => assumption); (case k1 => k_asm); (case k2 => k_asm); (case k3 => k_asm); (case k4 => k_asm); (case k5 => k_asm); (case k6 => k_mem); (case k7 => exact codeRec_news (by k_asm) (by k_mem) (by assumption) (by assumption)); (case k8 => ktr_room); (case k9 => exact rfl); (case c5 => decide); (case kB => exact locs rfl); (case c2 => exact rfl); (case c3 => exact rfl); (case c4 => exact rfl); k_whole; intro g' L' h' FG' F' N' B' X' T'; (try dsimp only); (try k_lift B'); (try k_fold))
    have codeHd := codeHd_of_K (c := 105) (P := 101) X' (by kernel_rfl)
    repeat' (first | (k_unfold; (try dsimp only)) | (k_end; wrow_close) | k_extra "fold" | k_extra "u2" | k_extra "u1" | walk1 | (dsimp only; (first | k_extra "fold" | k_extra "u2" | k_extra "u1" | walk1)) | (leave1; walk_say "STEP leave1"; try dsimp only) | fail "no step")
    exact hret _ _ _ (by assumption) (by assumption)
  clear kN
  k_dflt (refine' Cl.use (c_bisect_right_k w l nn vs ks fN2 _ _ _ _ (gk x) _ LD2 hlD2 hlen hlen2 hv (fun k => decide (0 < gk x k)) (fun _ => rfl) hf2 CL2 ?mono) ?k1 ?k2 ?k3 ?k4 ?k5 ?k6 ?k7 ?k8 ?_; (case k1 => k_asm); (case k2 => k_asm); (case k3 => k_asm); (case k4 => k_asm); (case k5 => k_asm); (case k6 => exact rfl); (case k7 => ktr_room); (case k8 => ktr_units))
  case mono =>
    intro i j a b h1 h2 h3 h4
    simp only [decide_eq_true_eq, gk_pos] at h4 ⊢
    exact sl_le_trans' (hsort i j a b h1 h2 h3) h4
  intro r2 hr2 hb1 hb2 t10 h10 tk10 F10 N10
  (try dsimp only)
  (try k_fold)
  repeat' (first | (k_unfold; (try dsimp only)) | (k_end; wrow_close) | k_extra "fold" | k_extra "u2" | k_extra "u1" | walk1 | (dsimp only; (first | k_extra "fold" | k_extra "u2" | k_extra "u1" | walk1)) | (leave1; walk_say "STEP leave1"; try dsimp only) | fail "no step")
  have hcnt := count_bis (x := x) (by rw [← hlen]; exact hr1) (by rw [← hlen]; exact hr2) (fun i k h1 h2 => by have := ha1 i k h1 h2; simp only [Bool.not_eq_false', decide_eq_true_eq] at this; exact gk_neg.mp this) (fun i k h1 h2 h3 => by have := ha2 i k h1 h2; simp only [Bool.not_eq_true', decide_eq_false_iff_not] at this; exact this (gk_neg.mpr h3)) (fun i k h1 h2 h3 => of_decide_eq_false (hb1 i k h1 h2) (gk_pos.mpr h3)) (fun i k h1 h2 => gk_pos.mp (of_decide_eq_true (hb2 i k h1 h2)))
  rw [hcnt]
  have hlrest1 := allLt_mem lN1.2.2
  have hlrest2 := allLt_mem lN12.2.2.2.2
  refine hret LD2 [(101, tabObj #[rawInt 124, rawInt 40, .ref cN, rawInt 125, rawInt 41, .ref cN2]), (cN, ocN), (cN2, ocN2)] _ _ _ (by assumption) (by assumption) (fun p hp => by rw [hLD2]; exact List.mem_cons_of_mem _ <| List.mem_cons_of_mem _ <| List.mem_cons_of_mem _ <| List.mem_cons_of_mem _ <| List.mem_cons_of_mem _ <| List.mem_cons_of_mem _ hp) (.inr ⟨cN, ocN, vsN, tN, cN2, ocN2, vsN2, tN2, mem_at 0 rfl, mem_at 1 rfl, dN1, dN2, mem_at 2 rfl, dN12, dN22⟩) ?_ ?_
  · intro p hp
    simp only [List.mem_cons, List.not_mem_nil, or_false] at hp
    rcases hp with rfl | rfl | rfl
    · exact mem_nth hLD2 5 rfl
    · exact mem_nth hLD2 3 rfl
    · exact hcd2
  · intro p hp
    simp only [List.mem_cons, List.not_mem_nil, or_false] at hp
    rcases hp with rfl | rfl | rfl
    · exact .inl rfl
    · refine .inr fun q hq => ?_
      rcases List.mem_cons.mp hq with rfl | hq
      · exact lN1.2.1
      · exact hlrest1 q hq
    · refine .inr fun q hq => ?_
      rcases List.mem_cons.mp hq with rfl | hq
      · exact lN12.2.2.2.1
      · exact hlrest2 q hq
theorem c_count2 (w : World) (l : Addr) (nn : Nat) (vs : List Value) (ks : List Str) (x : Str) (tx : Tok) (news : Led) (hl : (l, listOf vs.toArray nn) ∈ news) (c1 c2 : Addr) (o1 o2 : Obj) (v1 v2 : Array Value) (t1 t2 : Tok) (hT : (101, tabObj #[rawInt 124, rawInt 40, .ref c1, rawInt 125, rawInt 41, .ref c2]) ∈ news) (hc1 : (c1, o1) ∈ news) (d1 : o1.data = .fields v1) (e1 : v1[1]? = some (.str (Str.ofString "_law_count.<locals>.<lambda>") t1)) (hc2 : (c2, o2) ∈ news) (d2 : o2.data = .fields v2) (e2 : v2[1]? = some (.str (Str.ofString "_law_count.<locals>.<lambda>") t2))
    (hlen : vs.length = ks.length) (hlen2 : ks.length ≤ 100)
    (hv : ∀ (i : Nat) (k : Str), ks[i]? = some k → ∃ tk, vs[i]? = some (Value.str k tk)) (hsort : ∀ (i j : Nat) (a b : Str), ks[i]? = some a → ks[j]? = some b → i ≤ j → ¬ sl b a) :
    Cl w 6 106 [.ref l, .str x tx] [] news (fun h₀ L m s Q => ∀ (big : Led) (t : Tok) (h' : Heap) (tk' : Nat), Fr h₀ L h' m → News h₀ L h' big → (∀ p ∈ news, p ∈ big) → Q (.int (ks.count x : Nat) t) { s with heap := h', toks := tk' }) := by
  unfold Cl
  k_fill
  intro mean mg mb dp un gd cn cs a ccd cl outer A₀ base h₀ L m s Q E B F X N T hk hd hu hret
  refine wpAny_call ?_
  k_dflt (refine' code_defC ?k1 ?k2 ?k3 ?k4 ?k5 ?kA ?kF ?kK ?k6 ?k7 ?k8 ?k9 ?kB ?kD ?_ ?c2 ?c3 ?c4; (case kA => exact rfl); (case kF => exact rfl); (case kK => assumption); (case k1 => k_asm); (case k2 => k_asm); (case k3 => k_asm); (case k4 => k_asm); (case k5 => k_asm); (case k6 => k_is); (case k7 => k_is); (case k8 => ktr_room); (case k9 => first | exact BindsTo.of_eq rfl | exact binds_K (by k_in) rfl (by k_is) rfl rfl rfl); (case kB => exact rfl); (case kD => decide +kernel); (case c2 => exact rfl); (case c3 => exact rfl); (case c4 => exact rfl); k_whole; intro g' L' h' tk' cells' FG' F' N' Y' B' X' T' l1; (try dsimp only); (try k_lift B'); (try k_fold))
  refine foldE ?_
  intro _ _
  have codeHd := codeHd_of_K (c := 105) (P := 101) X' (by kernel_rfl)
  obtain ⟨oC, hE', dC⟩ := CellsAre.one Y'
  subst hE'
  have dC : oC.data = .cell (some (.str x tx)) := dC
  clear Y'
  simp only [List.cons_append, List.nil_append] at N'
  have hU : Under L' news := l1
  repeat' ((fail_if_success (with_reducible show wpAny _ _ (call (Value.ref 64) _ _) _ _ _)); first | (k_unfold; (try dsimp only)) | (k_end; wrow_close) | k_extra "fold" | k_extra "u2" | k_extra "u1" | walk1 | (dsimp only; (first | k_extra "fold" | k_extra "u2" | k_extra "u1" | walk1)) | (leave1; walk_say "STEP leave1"; try dsimp only) | fail "no step")
  rename News g' L' _ _ => kN
  rename_i fN ctN hhN tkN FN lN1
  obtain ⟨LD, kN2, hLD⟩ : ∃ LD, News g' L' hhN LD ∧ LD = _ := ⟨_, kN, rfl⟩
  have hf := mem_nth hLD 0 rfl
  have hcd : (c1, o1) ∈ LD := by rw [hLD]; exact List.mem_cons_of_mem _ <| List.mem_cons_of_mem _ hc1
  have hcl := mem_nth hLD 1 rfl
  have hlD : (l, listOf vs.toArray nn) ∈ LD := by rw [hLD]; exact List.mem_cons_of_mem _ <| List.mem_cons_of_mem _ hl
  have CL : ∀ (y : Str) (t : Tok), y ∈ ks → Cl w 2 fN [.str y t] [] LD (Gives LD fun t => .int (gk x y) t) := by
    clear hLD hlD kN kN2 hret F N X T FG' F' N' B' X' T' FN codeHd
    intro y t hy
    unfold Cl
    k_fill
    intro mean mg mb dp un gd cn cs a ccd cl outer A₀ base h₀ L m s Q E B F X N T hk hd hu hret
    refine wpAny_call ?_
    k_dflt (refine' kla_code ?k1 ?k2 ?k3 ?k4 ?k5 ?kA ?kF ?kK ?k6 ?k7 ?k8 ?k9 ?kB ?_ ?c2 ?c3 ?c4 ?c5; (case kA => exact rfl); (case kF => exact rfl); (case kK => assumption); (case k1 => k_asm); (case k2 => k_asm); (case k3 => k_asm); (case k4 => k_asm); (case k5 => k_asm); (case k6 => k_mem); (case k7 => exact codeRec_news (by k_asm) (by k_mem) (by assumption) (by assumption)); (case k8 => ktr_room); (case k9 => exact rfl); (case c5 => decide); (case kB => exact locs rfl); (case c2 => exact rfl); (case c3 => exact rfl); (case c4 => exact rfl); k_whole; intro g' L' h' FG' F' N' B' X' T'; (try dsimp only); (try k_lift B'); (try k_fold))
    have codeHd := codeHd_of_K (c := 105) (P := 101) X' (by kernel_rfl)
    repeat' (first | (k_unfold; (try dsimp only)) | (k_end; wrow_close) | k_extra "fold" | k_extra "u2" | k_extra "u1" | walk1 | (dsimp only; (first | k_extra "fold" | k_extra "u2" | k_extra "u1" | walk1)) | (leave1; walk_say "STEP leave1"; try dsimp only) | fail "no step")
    exact hret _ _ _ (by assumption) (by assumption)
  clear kN
  k_dflt (refine' Cl.use (c_bisect_left_k w l nn vs ks fN _ _ _ _ (gk x) _ LD hlD hlen hlen2 hv (fun k => !(decide (gk x k < 0))) (fun _ => rfl) hf CL ?mono) ?k1 ?k2 ?k3 ?k4 ?k5 ?k6 ?k7 ?k8 ?_; (case k1 => k_asm); (case k2 => k_asm); (case k3 => k_asm); (case k4 => k_asm); (case k5 => k_asm); (case k6 => exact rfl); (case k7 => ktr_room); (case k8 => ktr_units))
  case mono =>
    intro i j a b h1 h2 h3 h4
    simp only [Bool.not_eq_true', decide_eq_false_iff_not, gk_neg] at h4 ⊢
    exact fun h5 => h4 (sl_le_trans (hsort i j a b h1 h2 h3) h5)
  intro r1 hr1 ha1 ha2 t9 h9 tk9 F9 N9
  (try dsimp only)
  (try k_fold)
  rw [hLD] at N9
  repeat' ((fail_if_success (with_reducible show wpAny _ _ (call (Value.ref 46) _ _) _ _ _)); first | (k_unfold; (try dsimp only)) | (k_end; wrow_close) | k_extra "fold" | k_extra "u2" | k_extra "u1" | walk1 | (dsimp only; (first | k_extra "fold" | k_extra "u2" | k_extra "u1" | walk1)) | (leave1; walk_say "STEP leave1"; try dsimp only) | fail "no step")
  rename News g' L' _ _ => kN
  rename_i fN2 ctN2 hhN2 tkN2 FN2 lN12
  obtain ⟨LD2, kN22, hLD2⟩ : ∃ LD2, News g' L' hhN2 LD2 ∧ LD2 = _ := ⟨_, kN, rfl⟩
  have hf2 := mem_nth hLD2 0 rfl
  have hcd2 : (c2, o2) ∈ LD2 := by rw [hLD2]; exact List.mem_cons_of_mem _ <| List.mem_cons_of_mem _ <| List.mem_cons_of_mem _ hc2
  have hcl2 := mem_nth hLD2 2 rfl
  have hlD2 : (l, listOf vs.toArray nn) ∈ LD2 := by rw [hLD2]; exact List.mem_cons_of_mem _ <| List.mem_cons_of_mem _ <| List.mem_cons_of_mem _ hl
  have CL2 : ∀ (y : Str) (t : Tok), y ∈ ks → Cl w 2 fN2 [.str y t] [] LD2 (Gives LD2 fun t => .int (gk x y) t) := by
    clear ha1 ha2 hLD2 hlD2 kN kN22 hret F N X T FG' B' X' T' FN2 codeHd
    (try clear F')
    (try clear N')
    intro y t hy
    unfold Cl
    k_fill
    intro mean mg mb dp un gd cn cs a ccd cl outer A₀ base h₀ L m s Q E B F X N T hk hd hu hret
    refine wpAny_call ?_
    k_dflt (refine' kla_code ?k1 ?k2 ?k3 ?k4 ?k5 ?kA ?kF ?kK ?k6 ?k7 ?k8 ?k9 ?kB ?_ ?c2 ?c3 ?c4 ?c5; (case kA => exact rfl); (case kF => exact rfl); (case kK => assumption); (case k1 => k_asm); (case k2 => k_asm); (case k3 => k_asm); (case k4 => k_asm); (case k5 => k_asm); (case k6 => k_mem); (case k7 => exact codeRec_news (by k_asm) (by k_mem) (by assumption) (by assumption)); (case k8 => ktr_room); (case k9 => exact rfl); (case c5 => decide); (case kB => exact locs rfl); (case c2 => exact rfl); (case c3 => exact rfl); (case c4 => exact rfl); k_whole; intro g' L' h' FG' F' N' B' X' T'; (try dsimp only); (try k_lift B'); (try k_fold))
    have codeHd := codeHd_of_K (c := 105) (P := 101) X' (by kernel_rfl)
    repeat' (first | (k_unfold; (try dsimp only)) | (k_end; wrow_close) | k_extra "fold" | k_extra "u2" | k_extra "u1" | walk1 | (dsimp only; (first | k_extra "fold" | k_extra "u2" | k_extra "u1" | walk1)) | (leave1; walk_say "STEP leave1"; try dsimp only) | fail "no step")
    exact hret _ _ _ (by assumption) (by assumption)
  clear kN
  k_dflt (refine' Cl.use (c_bisect_right_k w l nn vs ks fN2 _ _ _ _ (gk x) _ LD2 hlD2 hlen hlen2 hv (fun k => decide (0 < gk x k)) (fun _ => rfl) hf2 CL2 ?mono) ?k1 ?k2 ?k3 ?k4 ?k5 ?k6 ?k7 ?k8 ?_; (case k1 => k_asm); (case k2 => k_asm); (case k3 => k_asm); (case k4 => k_asm); (case k5 => k_asm); (case k6 => exact rfl); (case k7 => ktr_room); (case k8 => ktr_units))
  case mono =>
    intro i j a b h1 h2 h3 h4
    simp only [decide_eq_true_eq, gk_pos] at h4 ⊢
    exact sl_le_trans' (hsort i j a b h1 h2 h3) h4
  intro r2 hr2 hb1 hb2 t10 h10 tk10 F10 N10
  (try dsimp only)
  (try k_fold)
  repeat' (first | (k_unfold; (try dsimp only)) | (k_end; wrow_close) | k_extra "fold" | k_extra "u2" | k_extra "u1" | walk1 | (dsimp only; (first | k_extra "fold" | k_extra "u2" | k_extra "u1" | walk1)) | (leave1; walk_say "STEP leave1"; try dsimp only) | fail "no step")
  have hcnt := count_bis (x := x) (by rw [← hlen]; exact hr1) (by rw [← hlen]; exact hr2) (fun i k h1 h2 => by have := ha1 i k h1 h2; simp only [Bool.not_eq_false', decide_eq_true_eq] at this; exact gk_neg.mp this) (fun i k h1 h2 h3 => by have := ha2 i k h1 h2; simp only [Bool.not_eq_true', decide_eq_false_iff_not] at this; exact this (gk_neg.mpr h3)) (fun i k h1 h2 h3 => of_decide_eq_false (hb1 i k h1 h2) (gk_pos.mpr h3)) (fun i k h1 h2 => gk_pos.mp (of_decide_eq_true (hb2 i k h1 h2)))
  rw [hcnt]
  have hin : ∀ p ∈ news, p ∈ LD2 := fun p hp => by rw [hLD2]; exact List.mem_cons_of_mem _ <| List.mem_cons_of_mem _ <| List.mem_cons_of_mem _ hp
  exact hret LD2 _ _ _ (by assumption) (by assumption) hin

/-- the contract of _law_count, at the first call and at the later ones -/
theorem c_count (w : World) (l : Addr) (nn : Nat) (vs : List Value) (ks : List Str) (x : Str) (tx : Tok) (news tab : Led) (hl : (l, listOf vs.toArray nn) ∈ news) (hlk : l ≠ 101) (hT : TabOk tab) (hts : ∀ p ∈ tab, p ∈ news)
    (hlen : vs.length = ks.length) (hlen2 : ks.length ≤ 100)
    (hv : ∀ (i : Nat) (k : Str), ks[i]? = some k → ∃ tk, vs[i]? = some (Value.str k tk)) (hsort : ∀ (i j : Nat) (a b : Str), ks[i]? = some a → ks[j]? = some b → i ≤ j → ¬ sl b a) :
    Cl w 6 106 [.ref l, .str x tx] [] news (fun h₀ L m s Q => ∀ (big tab' : Led) (t : Tok) (h' : Heap) (tk' : Nat), Fr h₀ L h' m → News h₀ L h' big → (∀ p ∈ news, p.1 ≠ 101 → p ∈ big) → TabOk tab' → (∀ p ∈ tab', p ∈ big) → (∀ p ∈ tab', p.1 = 101 ∨ p ∈ tab ∨ ∀ q ∈ news, q.1 < p.1) → Q (.int (ks.count x : Nat) t) { s with heap := h', toks := tk' }) := by
  rcases id hT with h0 | ⟨c1, o1, v1, t1, c2, o2, v2, t2, h1, h2, h3, h4, h5, h6, h7⟩
  · intro mean mg mb dp un gd cn cs a ccd cl outer A₀ base h₀ L m s Q E B F X N T hk hd hu hret
    refine c_count1 w l nn vs ks x tx (news.filter fun p => decide (p.1 ≠ 101)) (List.mem_filter.mpr ⟨hl, by simpa using hlk⟩) (fun p hp => by simpa using (List.mem_filter.mp hp).2) hlen hlen2 hv hsort mean mg mb dp un gd cn cs a ccd cl outer A₀ base h₀ L m s Q E B F X (ledSet_up N (hts _ h0)) T hk hd hu ?_
    intro big tab' t h' tk' F' N' hs hT' hb hf
    refine hret big tab' t h' tk' F' N' (fun p hp hn => hs p (List.mem_filter.mpr ⟨hp, by simpa using hn⟩)) hT' hb fun p hp => ?_
    rcases hf p hp with e | e
    · exact .inl e
    · refine .inr (.inr fun q hq => ?_)
      by_cases hq1 : q.1 = 101
      · rw [hq1]; exact e _ (.head _)
      · exact e q (.tail _ (List.mem_filter.mpr ⟨hq, by simpa using hq1⟩))
  · intro mean mg mb dp un gd cn cs a ccd cl outer A₀ base h₀ L m s Q E B F X N T hk hd hu hret
    refine c_count2 w l nn vs ks x tx news hl c1 c2 o1 o2 v1 v2 t1 t2 (hts _ h1) (hts _ h2) h3 h4 (hts _ h5) h6 h7 hlen hlen2 hv hsort mean mg mb dp un gd cn cs a ccd cl outer A₀ base h₀ L m s Q E B F X N T hk hd hu ?_
    intro big t h' tk' F' N' hs
    exact hret big tab t h' tk' F' N' (fun p hp _ => hs p hp) hT (fun p hp => hs p (hts p hp)) fun p hp => .inr (.inl hp)
end

/-! part FrzPure -/
section
open PySem PySem.W PyProof.Rows PySem.Spec PySem.Calls
set_option Elab.async false
set_option maxRecDepth 100000
set_option maxHeartbeats 4000000

theorem reset_FrzPure : True := by
  w_top off
  trivial
/-! the counts and fans of an ear's way make the frieze: by the ears' places alone -/
noncomputable abbrev toI (l : List Nat) : List Int := l.map fun b : Nat => (b : Int)
noncomputable def nW (ways fan : List Nat) : List Nat := ways.flatMap fun b => (fan.filter fun f => Nat.beq (Nat.land b f) 0).map fun f => Nat.lor b f
theorem bitAnd_nat (a b : Nat) : Builtin.bitAnd (a : Int) (b : Int) = ((Nat.land a b : Nat) : Int) := by
  unfold Builtin.bitAnd
  rw [decide_eq_true (show (0 : Int) ≤ (a : Int) by omega), decide_eq_true (show (0 : Int) ≤ (b : Int) by omega)]
  rfl
theorem bitOr_nat (a b : Nat) : Builtin.bitOr (a : Int) (b : Int) = ((Nat.lor a b : Nat) : Int) := by
  unfold Builtin.bitOr Builtin.bitAnd
  rw [decide_eq_false (show ¬ (0 : Int) ≤ Builtin.bitNot (a : Int) by unfold Builtin.bitNot; omega), decide_eq_false (show ¬ (0 : Int) ≤ Builtin.bitNot (b : Int) by unfold Builtin.bitNot; omega)]
  simp only [PyProof.Rows.bitNot_bitNot, Int.toNat_natCast]
  rfl
theorem nextWays_nat (ways fan : List Nat) : nextWays (toI ways) (toI fan) = toI (nW ways fan) := by
  unfold nextWays nW toI
  rw [List.flatMap_map, List.map_flatMap]
  congr 1
  funext b
  rw [List.filter_map, List.map_map, List.map_map]
  have e : (fan.filter fun f => Nat.beq (Nat.land b f) 0) = fan.filter ((fun f : Int => decide (Builtin.bitAnd (b : Int) f = 0)) ∘ fun b : Nat => (b : Int)) := by
    congr 1
    funext f
    simp only [Function.comp_apply, bitAnd_nat]
    cases h : Nat.beq (Nat.land b f) 0 with
    | true => rw [Nat.eq_of_beq_eq_true h]; rfl
    | false =>
      have := Nat.ne_of_beq_eq_false h
      symm; apply decide_eq_false; omega
  rw [← e]
  congr 1
  funext f
  simp only [Function.comp_apply, bitOr_nat]
/-- the ways, step by step; the number of ways the step ahead -/
noncomputable def frN (fs : List (List Nat)) (st : Nat) : Nat → Nat × List Nat
  | 0 => (0, [0])
  | j + 1 => ((frN fs st j).2.length, nW (frN fs st j).2 (fs.getD ((st + 1 + j) % fs.length) []))
def Good (fs : List (List Nat)) (st j : Nat) : Prop :=
  (frN fs st (j + 1)).2.length + (frN fs st j).1 = (fs.getD ((st + 1 + j) % fs.length) []).length * (frN fs st j).2.length ∧ (frN fs st j).2.length ≤ 90
theorem frz_nat {fs : List (List Nat)} {st n : Nat} (h : ∀ j, j < n → Good fs st j) : ∀ j, j ≤ n → frz (fs.map fun f => (f.length : Int)) (fs.map toI) st j = (((frN fs st j).1 : Int), ((frN fs st j).2.length : Int), toI (frN fs st j).2)
  | 0, _ => rfl
  | j + 1, hj => by
    have ih := frz_nat h j (by omega)
    have hg := h j (by omega)
    have e : ∀ li, (fs.map toI).getD li [] = toI (fs.getD li []) := by
      intro li
      rw [List.getD_eq_getElem?_getD, List.getD_eq_getElem?_getD, List.getElem?_map]
      cases fs[li]? <;> rfl
    have e2 : ∀ li, (fs.map fun f => (f.length : Int)).getD li 0 = ((fs.getD li []).length : Int) := by
      intro li
      rw [List.getD_eq_getElem?_getD, List.getD_eq_getElem?_getD, List.getElem?_map]
      cases fs[li]? <;> rfl
    unfold frz
    rw [ih]
    simp only [e, e2, List.length_map, nextWays_nat]
    refine Prod.ext rfl (Prod.ext ?_ rfl)
    show ((fs.getD ((st + 1 + j) % fs.length) []).length : Int) * ((frN fs st j).2.length : Int) - ((frN fs st j).1 : Int) = ((frN fs st (j + 1)).2.length : Int)
    have h1 := hg.1
    have h2 : (((fs.getD ((st + 1 + j) % fs.length) []).length * (frN fs st j).2.length : Nat) : Int) = (((frN fs st (j + 1)).2.length + (frN fs st j).1 : Nat) : Int) := by rw [h1]
    push_cast at h2
    omega
/-! the same, laid for the kernel's eye: by the recursors alone -/
noncomputable def frcN (n : Nat) (f : Nat → Bool) : Bool := Nat.rec (motive := fun _ => Bool) (f 0) (fun k _ => f (Nat.succ k)) n
theorem frcN_eq (n : Nat) (f : Nat → Bool) : frcN n f = f n := by cases n <;> rfl
noncomputable def forceL (l : List Nat) : (List Nat → Bool) → Bool := List.rec (motive := fun _ => (List Nat → Bool) → Bool) (fun f => f []) (fun x _ ih f => frcN x fun x => ih fun r => f (x :: r)) l
theorem forceL_eq : ∀ (l : List Nat) (f : List Nat → Bool), forceL l f = f l
  | [], _ => rfl
  | x :: r, f => by
    show frcN x (fun x => forceL r fun r => f (x :: r)) = _
    rw [frcN_eq, forceL_eq r]
noncomputable def forceLL (l : List (List Nat)) : (List (List Nat) → Bool) → Bool := List.rec (motive := fun _ => (List (List Nat) → Bool) → Bool) (fun f => f []) (fun x _ ih f => forceL x fun x => ih fun r => f (x :: r)) l
theorem forceLL_eq : ∀ (l : List (List Nat)) (f : List (List Nat) → Bool), forceLL l f = f l
  | [], _ => rfl
  | x :: r, f => by
    show forceL x (fun x => forceLL r fun r => f (x :: r)) = _
    rw [forceL_eq, forceLL_eq r]
noncomputable def nW1 (b : Nat) (fan acc : List Nat) : List Nat := List.rec (motive := fun _ => List Nat) acc (fun f _ ih => Bool.rec (motive := fun _ => List Nat) ih (Nat.lor b f :: ih) (Nat.beq (Nat.land b f) 0)) fan
noncomputable def nWK (ways fan : List Nat) : List Nat := List.rec (motive := fun _ => List Nat) [] (fun b _ ih => nW1 b fan ih) ways
theorem nW1_eq (b : Nat) (acc : List Nat) : ∀ fan, nW1 b fan acc = ((fan.filter fun f => Nat.beq (Nat.land b f) 0).map fun f => Nat.lor b f) ++ acc
  | [] => rfl
  | f :: r => by
    have ih := nW1_eq b acc r
    show Bool.rec (motive := fun _ => List Nat) (nW1 b r acc) (Nat.lor b f :: nW1 b r acc) (Nat.beq (Nat.land b f) 0) = _
    rw [ih]
    cases h : Nat.beq (Nat.land b f) 0 with
    | true => rw [List.filter_cons_of_pos (by exact h)]; rfl
    | false => rw [List.filter_cons_of_neg (by rw [h]; decide)]
theorem nWK_eq (fan : List Nat) : ∀ ways, nWK ways fan = nW ways fan
  | [] => rfl
  | b :: r => by
    show nW1 b fan (nWK r fan) = _
    rw [nW1_eq, nWK_eq fan r]
    unfold nW
    rw [List.flatMap_cons]
noncomputable def lenK (l : List Nat) : Nat := List.rec (motive := fun _ => Nat) 0 (fun _ _ ih => Nat.succ ih) l
theorem lenK_eq : ∀ l, lenK l = l.length
  | [] => rfl
  | _ :: r => by show Nat.succ (lenK r) = _; rw [lenK_eq r]; rfl
noncomputable def turnK (fs : List (List Nat)) : Nat → Nat → List Nat → Bool :=
  List.rec (motive := fun _ => Nat → Nat → List Nat → Bool) (fun _ _ _ => true) (fun fan _ ih last n ways =>
    forceL (nWK ways fan) fun w2 => frcN (lenK w2) fun n2 => Bool.rec (motive := fun _ => Bool) false (Bool.rec (motive := fun _ => Bool) false (ih n n2 w2) (Nat.ble n 90)) (Nat.beq (Nat.add n2 last) (Nat.mul (lenK fan) n))) fs
theorem turnK_cons {fan : List Nat} {fs : List (List Nat)} {last n : Nat} {ways : List Nat} (h : turnK (fan :: fs) last n ways = true) :
    (nW ways fan).length + last = fan.length * n ∧ n ≤ 90 ∧ turnK fs n (nW ways fan).length (nW ways fan) = true := by
  have h2 : (forceL (nWK ways fan) fun w2 => frcN (lenK w2) fun n2 => Bool.rec (motive := fun _ => Bool) false (Bool.rec (motive := fun _ => Bool) false (turnK fs n n2 w2) (Nat.ble n 90)) (Nat.beq (Nat.add n2 last) (Nat.mul (lenK fan) n))) = true := h
  rw [forceL_eq, frcN_eq, nWK_eq, lenK_eq, lenK_eq] at h2
  cases e1 : Nat.beq (Nat.add (nW ways fan).length last) (Nat.mul fan.length n) with
  | false => rw [e1] at h2; cases h2
  | true =>
    rw [e1] at h2
    cases e2 : Nat.ble n 90 with
    | false => rw [e2] at h2; cases h2
    | true =>
      rw [e2] at h2
      exact ⟨Nat.eq_of_beq_eq_true e1, Nat.le_of_ble_eq_true e2, h2⟩
/-- the fans from a light on -/
noncomputable def sufK (fs : List (List Nat)) (st : Nat) : List (List Nat) := ((fs ++ fs).drop (st + 1)).take (fs.length - 1)
theorem turnK_good {fs : List (List Nat)} {st n : Nat} (hst : st < fs.length) (hn : n = fs.length - 1) : ∀ (m j : Nat), j + m = n → turnK ((sufK fs st).drop j) (frN fs st j).1 (frN fs st j).2.length (frN fs st j).2 = true → ∀ i, i < m → Good fs st (j + i)
  | 0, _, _, _, i, hi => by omega
  | m + 1, j, hj, h, i, hi => by
    have hx : (sufK fs st)[j]? = some (fs.getD ((st + 1 + j) % fs.length) []) := by
      unfold sufK
      rw [List.getElem?_take, if_pos (by omega), List.getElem?_drop, List.getElem?_append]
      by_cases h1 : st + 1 + j < fs.length
      · rw [if_pos h1, Nat.mod_eq_of_lt h1, List.getD_eq_getElem?_getD, List.getElem?_eq_getElem h1]; rfl
      · rw [if_neg h1, show (st + 1 + j) % fs.length = st + 1 + j - fs.length from by rw [Nat.mod_eq_sub_mod (by omega), Nat.mod_eq_of_lt (by omega)], List.getD_eq_getElem?_getD, List.getElem?_eq_getElem (by omega)]; rfl
    have hlt := (List.getElem?_eq_some_iff.mp hx).1
    have e : (sufK fs st).drop j = fs.getD ((st + 1 + j) % fs.length) [] :: (sufK fs st).drop (j + 1) := by
      rw [List.drop_eq_getElem_cons hlt, (List.getElem?_eq_some_iff.mp hx).2]
    rw [e] at h
    obtain ⟨h1, h2, h3⟩ := turnK_cons h
    cases i with
    | zero => exact ⟨h1, h2⟩
    | succ i =>
      have := turnK_good hst hn m (j + 1) (by omega) h3 i (by omega)
      rw [show j + (i + 1) = j + 1 + i from by omega]; exact this
noncomputable def chkN (fs : List (List Nat)) : Bool := (fs.all fun f => Nat.ble (lenK f) 10) && (List.range fs.length).all fun st => turnK (sufK fs st) 0 1 [0]
theorem chkN_le {fs : List (List Nat)} (h : chkN fs = true) : ∀ f ∈ fs, f.length ≤ 10 := fun f hf => by
  have := List.all_eq_true.mp (Bool.and_eq_true_iff.mp h).1 f hf
  rw [lenK_eq] at this
  exact Nat.le_of_ble_eq_true this
theorem chkN_ok {fs : List (List Nat)} (h : chkN fs = true) : ∀ st j, st < fs.length → j < fs.length - 1 →
    (frz (fs.map fun f => (f.length : Int)) (fs.map toI) st (j + 1)).2.1 = ((frz (fs.map fun f => (f.length : Int)) (fs.map toI) st (j + 1)).2.2.length : Int) ∧ (frz (fs.map fun f => (f.length : Int)) (fs.map toI) st j).2.2.length ≤ 90 := by
  intro st j hst hj
  have h1 : turnK ((sufK fs st).drop 0) (frN fs st 0).1 (frN fs st 0).2.length (frN fs st 0).2 = true := all_range (Bool.and_eq_true_iff.mp h).2 hst
  have hg : ∀ j, j < fs.length - 1 → Good fs st j := fun j hj => by
    have := turnK_good hst rfl (fs.length - 1) 0 (by omega) h1 j hj
    rwa [Nat.zero_add] at this
  rw [frz_nat hg (j + 1) (by omega), frz_nat hg j (by omega)]
  exact ⟨by simp, by simpa using (hg j hj).2⟩
/-! the ears by their places -/
noncomputable def addI (k : Nat) (fs : List (List Nat)) (p : Nat) : List (List Nat) := fs.set p (fs.getD p [] ++ [2 ^ k])
noncomputable def triI (rest : List Nat) (j : Nat) : List Nat := [rest.getD ((j + rest.length - 1) % rest.length) 0, rest.getD j 0, rest.getD ((j + 1) % rest.length) 0]
structure StI where
  k : Nat
  rest : List Nat
  fans : List (List Nat)
noncomputable def stepI (s : StI) (j : Nat) : StI := ⟨s.k + 1, s.rest.take j ++ s.rest.drop (j + 1), (triI s.rest j).foldl (addI s.k) s.fans⟩
noncomputable def finI (s : StI) : List (List Nat) := s.rest.foldl (addI s.k) s.fans
noncomputable def allJ : Nat → StI → Bool
  | 0, s => forceLL (finI s) chkN
  | m + 1, s => (List.range s.rest.length).all fun j => frcN (s.k + 1) fun k => forceL (s.rest.take j ++ s.rest.drop (j + 1)) fun rest => forceLL ((triI s.rest j).foldl (addI s.k) s.fans) fun fans => allJ m ⟨k, rest, fans⟩
noncomputable def InJ : StI → List Nat → Prop
  | _, [] => True
  | s, j :: js => j < s.rest.length ∧ InJ (stepI s j) js
theorem allJ_ok : ∀ (js : List Nat) (s : StI), allJ js.length s = true → InJ s js → chkN (finI (js.foldl stepI s)) = true
  | [], s, h, _ => by
    have h2 : forceLL (finI s) chkN = true := h
    rwa [forceLL_eq] at h2
  | j :: js, s, h, hj => by
    have h2 := all_range (show (List.range s.rest.length).all _ = true from h) hj.1
    rw [frcN_eq, forceL_eq, forceLL_eq] at h2
    exact allJ_ok js (stepI s j) h2 hj.2
noncomputable def startI (n : Nat) : StI := ⟨0, List.range n, List.replicate n []⟩
set_option maxRecDepth 1000000

theorem all5 : allJ 2 (startI 5) = true := by decide +kernel
theorem all6 : allJ 3 (startI 6) = true := by decide +kernel
noncomputable def allK (m : Nat) (s : StI) (j : Nat) : Bool := frcN (s.k + 1) fun k => forceL (s.rest.take j ++ s.rest.drop (j + 1)) fun rest => forceLL ((triI s.rest j).foldl (addI s.k) s.fans) fun fans => allJ m ⟨k, rest, fans⟩
theorem all70 : allK 3 (startI 7) 0 = true := by decide +kernel
theorem all71 : allK 3 (startI 7) 1 = true := by decide +kernel
theorem all72 : allK 3 (startI 7) 2 = true := by decide +kernel
theorem all73 : allK 3 (startI 7) 3 = true := by decide +kernel
theorem all74 : allK 3 (startI 7) 4 = true := by decide +kernel
theorem all75 : allK 3 (startI 7) 5 = true := by decide +kernel
theorem all76 : allK 3 (startI 7) 6 = true := by decide +kernel
theorem all7 : allJ 4 (startI 7) = true := by
  show (List.range 7).all (allK 3 (startI 7)) = true
  refine List.all_eq_true.mpr fun j hj => ?_
  rcases (by decide : ∀ j < 7, j = 0 ∨ j = 1 ∨ j = 2 ∨ j = 3 ∨ j = 4 ∨ j = 5 ∨ j = 6) j (List.mem_range.mp hj) with rfl | rfl | rfl | rfl | rfl | rfl | rfl
  · exact all70
  · exact all71
  · exact all72
  · exact all73
  · exact all74
  · exact all75
  · exact all76
end

/-! part FrzLink -/
section
open PySem PySem.W PyProof.Rows PySem.Spec PySem.Calls
set_option Elab.async false
set_option maxRecDepth 100000
set_option maxHeartbeats 4000000

theorem reset_FrzLink : True := by
  w_top off
  trivial
theorem addFan_nat {S : List Int} (hn : S.Nodup) {k i : Nat} {fans : List (List Nat)} (hi : i < S.length) : addFan S k (fans.map toI) (S.getD i 0) = (addI k fans i).map toI := by
  have e : S.idxOf (S.getD i 0) = i := idx_of_get hn (by rw [List.getD_eq_getElem?_getD, List.getElem?_eq_getElem hi]; rfl)
  unfold addFan addI
  rw [e, List.map_set]
  congr 1
  rw [List.getD_eq_getElem?_getD, List.getD_eq_getElem?_getD, List.getElem?_map]
  cases fans[i]? with
  | none => rfl
  | some f => simp [toI]
theorem foldFan_nat {S : List Int} (hn : S.Nodup) {k : Nat} : ∀ (T : List Nat) (fans : List (List Nat)), (∀ i ∈ T, i < S.length) → (T.map fun i => S.getD i 0).foldl (addFan S k) (fans.map toI) = (T.foldl (addI k) fans).map toI
  | [], _, _ => rfl
  | i :: T, fans, h => by
    rw [List.map_cons, List.foldl_cons, List.foldl_cons, addFan_nat hn (h i (List.mem_cons_self ..)), foldFan_nat hn T _ fun i hi => h i (List.mem_cons_of_mem _ hi)]
structure RelI (S ks : List Int) (k : Nat) (s : StI) : Prop where
  kk : s.k = k
  rest : (fansSt S ks k).1 = s.rest.map fun i => S.getD i 0
  fans : (fansSt S ks k).2 = s.fans.map toI
  lt : ∀ i ∈ s.rest, i < S.length
theorem inJ_append : ∀ (js : List Nat) (s : StI) (j : Nat), InJ s js → j < (js.foldl stepI s).rest.length → InJ s (js ++ [j])
  | [], _, _, _, h => ⟨h, trivial⟩
  | i :: js, s, j, h, hj => ⟨h.1, inJ_append js (stepI s i) j h.2 hj⟩
theorem getD_map_lt {l : List Nat} {S : List Int} {i : Nat} (h : i < l.length) : (l.map fun i => S.getD i 0).getD i 0 = S.getD (l.getD i 0) 0 := by
  rw [List.getD_eq_getElem?_getD, List.getD_eq_getElem?_getD (l := l), List.getElem?_map, List.getElem?_eq_getElem h]; rfl
theorem getD_memN {l : List Nat} {i : Nat} (h : i < l.length) : l.getD i 0 ∈ l := by
  rw [List.getD_eq_getElem?_getD, List.getElem?_eq_getElem h]; exact List.getElem_mem h
theorem fans_rel {S ks : List Int} (hn : S.Nodup) (hl : ks.length + 3 = S.length) : ∀ k, k ≤ ks.length → ∃ js : List Nat, js.length = k ∧ InJ (startI S.length) js ∧ RelI S ks k (js.foldl stepI (startI S.length))
  | 0, _ => ⟨[], rfl, trivial, rfl, by
      show S = (List.range S.length).map fun i => S.getD i 0
      refine List.ext_getElem? fun i => ?_
      rw [List.getElem?_map]
      by_cases h : i < S.length
      · rw [List.getElem?_range h, Option.map_some, List.getD_eq_getElem?_getD, List.getElem?_eq_getElem h]; rfl
      · rw [List.getElem?_eq_none (l := S) (by omega), List.getElem?_eq_none (l := List.range S.length) (by simp; omega)]; rfl,
    by
      show (S.map fun _ => ([] : List Int)) = (List.replicate S.length []).map toI
      rw [List.map_replicate]
      exact List.map_const' ..,
    fun i hi => by simpa [startI] using hi⟩
  | k + 1, hk => by
    obtain ⟨js, h1, h2, hr⟩ := fans_rel hn hl k (by omega)
    have hinv := fans_inv hn hl k (by omega)
    obtain ⟨s, hs⟩ : ∃ s, s = js.foldl stepI (startI S.length) := ⟨_, rfl⟩
    rw [← hs] at hr
    obtain ⟨rest, hre⟩ : ∃ rest, rest = (fansSt S ks k).1 := ⟨_, rfl⟩
    have hrr := hr.rest
    rw [← hre] at hrr
    have hrl : rest.length = s.rest.length := by rw [hrr, List.length_map]
    have h0 : 0 < rest.length := by have := hinv.len; rw [← hre] at this; omega
    have hnd : rest.Nodup := by rw [hre]; exact hinv.nodup
    have hm := earOf_mem (c := ks.getD k 0) h0
    have hj := List.idxOf_lt_length_iff.mpr hm
    have hear : rest[rest.idxOf (earOf rest (ks.getD k 0))]? = some (earOf rest (ks.getD k 0)) := by
      rw [List.getElem?_eq_getElem hj, List.getElem_idxOf hj]
    generalize hee : earOf rest (ks.getD k 0) = ear at *
    generalize hjj : rest.idxOf ear = j at *
    have hst : stepT (fansSt S ks k).1 ks k = (threeOf rest ear, rest.filter fun p => decide (p ≠ ear)) := by
      rw [← hre, stepT_lt (by omega), hee]
    have hn0 : 0 < s.rest.length := by omega
    refine ⟨js ++ [j], by rw [List.length_append, h1]; rfl, inJ_append js _ j h2 (by rw [← hs, ← hrl]; exact hj), ?_, ?_, ?_, ?_⟩
    all_goals rw [List.foldl_append, ← hs]
    · show s.k + 1 = k + 1
      rw [hr.kk]
    · show (stepT (fansSt S ks k).1 ks k).2 = (s.rest.take j ++ s.rest.drop (j + 1)).map fun i => S.getD i 0
      rw [hst]
      show (rest.filter fun p => decide (p ≠ ear)) = _
      rw [filter_erase hnd hear, hrr, List.map_append, List.map_take, List.map_drop]
    · show (stepT (fansSt S ks k).1 ks k).1.foldl (addFan S k) (fansSt S ks k).2 = ((triI s.rest j).foldl (addI s.k) s.fans).map toI
      rw [hst, hr.fans, hr.kk]
      have e : threeOf rest ear = (triI s.rest j).map fun i => S.getD i 0 := by
        unfold threeOf triI
        rw [hjj]
        have hel : ear = rest.getD j 0 := by rw [List.getD_eq_getElem?_getD, hear]; rfl
        simp only [List.map_cons, List.map_nil]
        have hjs : j < s.rest.length := by omega
        rw [← getD_map_lt hjs, ← getD_map_lt (Nat.mod_lt (j + s.rest.length - 1) hn0), ← getD_map_lt (Nat.mod_lt (j + 1) hn0), ← hrr, hel, hrl]
      show (threeOf rest ear).foldl (addFan S k) (s.fans.map toI) = _
      rw [e, foldFan_nat hn]
      intro i hi
      unfold triI at hi
      simp only [List.mem_cons, List.not_mem_nil, or_false] at hi
      rcases hi with rfl | rfl | rfl
      · exact hr.lt _ (getD_memN (Nat.mod_lt _ hn0))
      · exact hr.lt _ (getD_memN (by omega))
      · exact hr.lt _ (getD_memN (Nat.mod_lt _ hn0))
    · intro i hi
      rcases List.mem_append.mp hi with hi | hi
      · exact hr.lt _ (List.mem_of_mem_take hi)
      · exact hr.lt _ (List.mem_of_mem_drop hi)
theorem fans_good {S ks : List Int} (hn : S.Nodup) (hl : ks.length + 3 = S.length) (h5 : 5 ≤ S.length) (h7 : S.length ≤ 7) : ∃ fs : List (List Nat), fs.length = S.length ∧ (fansSt S ks (ks.length + 1)).2 = fs.map toI ∧ chkN fs = true := by
  obtain ⟨js, h1, h2, hr⟩ := fans_rel hn hl ks.length (Nat.le_refl _)
  have hc : chkN (finI (js.foldl stepI (startI S.length))) = true := by
    have hcase : ks.length = 2 ∨ ks.length = 3 ∨ ks.length = 4 := by omega
    refine allJ_ok js _ ?_ h2
    rw [h1]
    rcases hcase with h | h | h
    · rw [h, show S.length = 5 from by omega]; exact all5
    · rw [h, show S.length = 6 from by omega]; exact all6
    · rw [h, show S.length = 7 from by omega]; exact all7
  have e : (fansSt S ks (ks.length + 1)).2 = (finI (js.foldl stepI (startI S.length))).map toI := by
    show (stepT (fansSt S ks ks.length).1 ks ks.length).1.foldl (addFan S ks.length) (fansSt S ks ks.length).2 = _
    rw [stepT_ge (Nat.lt_irrefl _)]
    unfold finI
    rw [hr.kk, ← foldFan_nat hn _ _ hr.lt, ← hr.rest, ← hr.fans]
  refine ⟨_, ?_, e, hc⟩
  have h3 := congrArg List.length e
  rw [List.length_map] at h3
  rw [← h3]
  show ((stepT (fansSt S ks ks.length).1 ks ks.length).1.foldl (addFan S ks.length) (fansSt S ks ks.length).2).length = _
  rw [foldFan_length, (fans_inv hn hl ks.length (Nat.le_refl _)).flen]
/-! how many triangles -/
theorem addFan_len {S : List Int} (hn : S.Nodup) {k i : Nat} {fss : List (List Int)} {p q : Int} (hf : fss.length = S.length) (hp : p ∈ S) (hq : S[i]? = some q) : ((addFan S k fss p).getD i []).length = (fss.getD i []).length + (if p = q then 1 else 0) := by
  unfold addFan
  have hi := (List.getElem?_eq_some_iff.mp hq).1
  have hj := List.idxOf_lt_length_iff.mpr hp
  rw [List.getD_eq_getElem?_getD]
  by_cases h : p = q
  · subst h
    rw [idx_of_get hn hq, List.getElem?_set_self (by omega), if_pos rfl]
    simp
  · rw [List.getElem?_set_ne, if_neg h, List.getD_eq_getElem?_getD]
    · rfl
    · intro e
      refine h ?_
      have h1 := List.getElem_idxOf hj
      have h2 := (List.getElem?_eq_some_iff.mp hq).2
      rw [← h1, ← h2]
      congr 1
theorem foldFan_len {S : List Int} (hn : S.Nodup) {k i : Nat} {q : Int} (hq : S[i]? = some q) : ∀ (T : List Int) (fss : List (List Int)), fss.length = S.length → (∀ p ∈ T, p ∈ S) → ((T.foldl (addFan S k) fss).getD i []).length = (fss.getD i []).length + T.count q
  | [], _, _, _ => rfl
  | p :: T, fss, hf, h => by
    rw [List.foldl_cons, foldFan_len hn hq T _ (by rw [addFan_length]; exact hf) fun p hp => h p (List.mem_cons_of_mem _ hp), addFan_len hn hf (h p (List.mem_cons_self ..)) hq, List.count_cons]
    by_cases e : p = q
    · subst e; simp; omega
    · rw [if_neg e]
      have : (p == q) = false := by simpa using e
      rw [this]; simp
theorem tri_sub {S ks : List Int} (hn : S.Nodup) (hl : ks.length + 3 = S.length) {k : Nat} (hk : k ≤ ks.length) : ∀ p ∈ triS S ks k, p ∈ S := by
  have hinv := fans_inv hn hl k hk
  have h0 : 0 < (fansSt S ks k).1.length := by have := hinv.len; omega
  intro p hp
  unfold triS stepT at hp
  split at hp
  · exact hinv.sub p (threeOf_mem (earOf_mem h0) p hp)
  · exact hinv.sub p hp
theorem fans_count {S ks : List Int} (hn : S.Nodup) (hl : ks.length + 3 = S.length) {i : Nat} {q : Int} (hq : S[i]? = some q) : ∀ k, k ≤ ks.length + 1 → ((fansSt S ks k).2.getD i []).length = ((List.range k).flatMap (triS S ks)).count q ∧ (fansSt S ks k).2.length = S.length
  | 0, _ => by
    refine ⟨?_, by simp [fansSt]⟩
    simp only [fansSt, List.range_zero, List.flatMap_nil, List.count_nil]
    rw [List.getD_eq_getElem?_getD, List.getElem?_map]
    cases S[i]? <;> rfl
  | k + 1, hk => by
    obtain ⟨ih, hlen⟩ := fans_count hn hl hq k (by omega)
    have e : (fansSt S ks (k + 1)).2 = (triS S ks k).foldl (addFan S k) (fansSt S ks k).2 := rfl
    rw [e, foldFan_len hn hq _ _ hlen (tri_sub hn hl (by omega)), ih, foldFan_length, List.range_succ, List.flatMap_append, List.count_append]
    exact ⟨by simp, hlen⟩
theorem count_map_inj {nm : Int → Str} {q : Int} : ∀ (l : List Int), (∀ p ∈ l, nm p = nm q → p = q) → (l.map nm).count (nm q) = l.count q
  | [], _ => rfl
  | p :: l, h => by
    rw [List.map_cons, List.count_cons, List.count_cons, count_map_inj l fun p hp => h p (List.mem_cons_of_mem _ hp)]
    congr 1
    by_cases e : p = q
    · subst e; simp
    · have : nm p ≠ nm q := fun e2 => e (h p (List.mem_cons_self ..) e2)
      simp [e, this]
theorem counts_eq {S ks : List Int} {nm : Int → Str} {ts : List Str} {fs : List (List Nat)} (hn : S.Nodup) (hl : ks.length + 3 = S.length) (hperm : ts.Perm (((List.range (ks.length + 1)).flatMap (triS S ks)).map nm)) (hinj : ∀ p ∈ S, ∀ q ∈ S, nm p = nm q → p = q)
    (hfl : fs.length = S.length) (he : (fansSt S ks (ks.length + 1)).2 = fs.map toI) : (S.map fun p => ((ts.count (nm p) : Nat) : Int)) = fs.map fun f => (f.length : Int) := by
  refine List.ext_getElem? fun i => ?_
  rw [List.getElem?_map, List.getElem?_map]
  by_cases h : i < S.length
  · rw [List.getElem?_eq_getElem h, List.getElem?_eq_getElem (l := fs) (by omega), Option.map_some, Option.map_some]
    congr 1
    have hq : S[i]? = some S[i] := List.getElem?_eq_getElem h
    have h1 := (fans_count hn hl hq (ks.length + 1) (Nat.le_refl _)).1
    have h2 : ts.count (nm S[i]) = ((List.range (ks.length + 1)).flatMap (triS S ks)).count S[i] := by
      rw [hperm.count_eq, count_map_inj]
      intro p hp e
      obtain ⟨k, hk, hp⟩ := List.mem_flatMap.mp hp
      exact hinj p (tri_sub hn hl (by have := List.mem_range.mp hk; omega) p hp) _ (List.getElem_mem h) e
    rw [h2, ← h1, he, List.getD_eq_getElem?_getD, List.getElem?_map, List.getElem?_eq_getElem (l := fs) (by omega)]
    simp [toI]
  · rw [List.getElem?_eq_none (by omega), List.getElem?_eq_none (l := fs) (by omega)]; rfl
end

/-! part SortTree -/
section
open PySem PySem.W PyProof.Rows PySem.Spec PySem.Calls
set_option Elab.async false
set_option maxRecDepth 100000
set_option maxHeartbeats 4000000

theorem reset_SortTree : True := by
  w_top off
  trivial
/-! the sort's tree of questions, answered by distinct numbers -/
noncomputable def runT {α : Type} (c : Nat → Nat → Bool) : KasT α → α
  | .ret a => a
  | .ask i j k => runT c (k (c i j))
theorem runT_bind {α β : Type} (c : Nat → Nat → Bool) (f : α → KasT β) : ∀ t : KasT α, runT c (t.bind f) = runT c (f (runT c t))
  | .ret _ => rfl
  | .ask i j k => runT_bind c f (k (c i j))
section
variable (key : Nat → Int)
noncomputable abbrev cK (i j : Nat) : Bool := decide (key i < key j)
noncomputable abbrev KP (p : Array Nat) (i : Nat) : Int := key (p.getD i 0)
def SortTo (p : Array Nat) (m : Nat) : Prop := ∀ i j : Nat, i < j → j < m → KP key p i < KP key p j
structure POk (n : Nat) (p : Array Nat) : Prop where
  size : p.size = n
  perm : p.toList.Perm (List.range n)
  ne : ∀ i j : Nat, i < j → j < n → KP key p i ≠ KP key p j
variable {key}
theorem pok_of {n : Nat} {p : Array Nat} (hinj : ∀ i j, i < n → j < n → key i = key j → i = j) (hp : p.toList.Perm (List.range n)) : POk key n p := by
  have hs : p.size = n := by have := hp.length_eq; simpa using this
  refine ⟨hs, hp, fun i j hij hj e => ?_⟩
  have hnd : p.toList.Nodup := hp.symm.nodup List.nodup_range
  have at_ : ∀ i : Nat, i < n → p.toList[i]? = some (p.getD i 0) := fun i hi => by
    rw [List.getElem?_eq_getElem (by simpa [hs] using hi)]
    simp [Array.getD, hs, hi]
  have lt_ : ∀ i : Nat, i < n → p.getD i 0 < n := fun i hi => by simpa using hp.subset (List.mem_of_getElem? (at_ i hi))
  have hi := Nat.lt_trans hij hj
  have h1 := hinj _ _ (lt_ i hi) (lt_ j hj) e
  obtain ⟨a1, b1⟩ := List.getElem?_eq_some_iff.mp (at_ i hi)
  obtain ⟨a2, b2⟩ := List.getElem?_eq_some_iff.mp (at_ j hj)
  exact Nat.ne_of_lt hij ((List.getElem_inj hnd).mp (b1.trans (h1.trans b2.symm)))
theorem chain_ext {R : Nat → Nat → Prop} (ht : ∀ {a b c : Nat}, R a b → R b c → R a c) {m : Nat} (hs : ∀ i j : Nat, i < j → j < m + 1 → R i j) (h : R m (m + 1)) : ∀ i j : Nat, i < j → j < m + 1 + 1 → R i j := by
  intro i j hij hj
  rcases Nat.lt_or_eq_of_le (Nat.le_of_lt_succ hj) with h1 | rfl
  · exact hs i j hij h1
  · rcases Nat.lt_or_eq_of_le (Nat.le_of_lt_succ hij) with h2 | rfl
    · exact ht (hs i m h2 (Nat.lt_succ_self m)) h
    · exact h
theorem run_asc {p : Array Nat} : ∀ (f m : Nat), SortTo key p (m + 1) → (∀ i j : Nat, i < j → j < m + 1 + f → KP key p i ≠ KP key p j) → SortTo key p (runT (cK key) (kas_asc p f (m + 1))) ∧ m + 1 ≤ runT (cK key) (kas_asc p f (m + 1)) ∧ runT (cK key) (kas_asc p f (m + 1)) ≤ m + 1 + f ∧
    (runT (cK key) (kas_asc p f (m + 1)) < m + 1 + f → KP key p (runT (cK key) (kas_asc p f (m + 1))) < KP key p (runT (cK key) (kas_asc p f (m + 1)) - 1))
  | 0, m, hs, _ => ⟨hs, Nat.le_refl _, Nat.le_refl _, fun h => absurd h (Nat.lt_irrefl _)⟩
  | f + 1, m, hs, hd => by
    have e : runT (cK key) (kas_asc p (f + 1) (m + 1)) = runT (cK key) (if cK key (p.getD (m + 1) 0) (p.getD m 0) = true then KasT.ret (m + 1) else kas_asc p f (m + 1 + 1)) := rfl
    rw [e]
    by_cases hc : KP key p (m + 1) < KP key p m
    · rw [if_pos (decide_eq_true hc)]
      exact ⟨hs, Nat.le_refl _, Nat.le_add_right _ _, fun _ => hc⟩
    · rw [if_neg (fun h => hc (of_decide_eq_true h))]
      have hlt : KP key p m < KP key p (m + 1) := Int.lt_iff_le_and_ne.mpr ⟨Int.not_lt.mp hc, hd m (m + 1) (Nat.lt_succ_self m) (Nat.lt_add_of_pos_right (Nat.succ_pos f))⟩
      have hb : m + 1 + 1 + f = m + 1 + (f + 1) := Nat.succ_add (m + 1) f
      have h := run_asc f (m + 1) (chain_ext (R := fun i j => KP key p i < KP key p j) Int.lt_trans hs hlt) fun i j h1 h2 => hd i j h1 (Nat.lt_of_lt_of_eq h2 hb)
      rw [hb] at h
      exact ⟨h.1, Nat.le_of_succ_le h.2.1, h.2.2⟩
def DescTo (key : Nat → Int) (p : Array Nat) (m : Nat) : Prop := ∀ i j : Nat, i < j → j < m → KP key p j < KP key p i
theorem run_desc {p : Array Nat} : ∀ (f m : Nat), DescTo key p (m + 1) → (∀ i j : Nat, i < j → j < m + 1 + f → KP key p i ≠ KP key p j) → ∃ m', runT (cK key) (kas_desc f p (m + 1) 0) = (p, m' + 1, 0) ∧ DescTo key p (m' + 1) ∧ m' + 1 ≤ m + 1 + f
  | 0, m, hs, _ => ⟨m, rfl, hs, Nat.le_refl _⟩
  | f + 1, m, hs, hd => by
    have e : runT (cK key) (kas_desc (f + 1) p (m + 1) 0) = runT (cK key) (if cK key (p.getD (m + 1) 0) (p.getD m 0) = true then (if 0 > 0 then kas_desc f (kas_rev p (m + 1 - (0 + 1)) (m + 1)) (m + 1 + 1) 0 else kas_desc f p (m + 1 + 1) 0)
      else .ask (p.getD m 0) (p.getD (m + 1) 0) fun d => if d = true then .ret (p, m + 1, 0) else kas_desc f p (m + 1 + 1) (0 + 1)) := rfl
    rw [e]
    by_cases hc : KP key p (m + 1) < KP key p m
    · rw [if_pos (decide_eq_true hc), if_neg (Nat.lt_irrefl 0)]
      have hb : m + 1 + 1 + f = m + 1 + (f + 1) := Nat.succ_add (m + 1) f
      obtain ⟨m', a, b, c⟩ := run_desc f (m + 1) (chain_ext (R := fun i j => KP key p j < KP key p i) (fun h1 h2 => Int.lt_trans h2 h1) hs hc) fun i j h1 h2 => hd i j h1 (Nat.lt_of_lt_of_eq h2 hb)
      exact ⟨m', a, b, Nat.le_trans c (Nat.le_of_eq hb)⟩
    · rw [if_neg (fun h => hc (of_decide_eq_true h))]
      have hc2 : KP key p m < KP key p (m + 1) := Int.lt_iff_le_and_ne.mpr ⟨Int.not_lt.mp hc, hd m (m + 1) (Nat.lt_succ_self m) (Nat.lt_add_of_pos_right (Nat.succ_pos f))⟩
      have e2 : runT (cK key) (KasT.ask (p.getD m 0) (p.getD (m + 1) 0) fun d => if d = true then KasT.ret (p, m + 1, 0) else kas_desc f p (m + 1 + 1) (0 + 1)) = (p, m + 1, 0) := by
        show runT (cK key) (if cK key (p.getD m 0) (p.getD (m + 1) 0) = true then KasT.ret (p, m + 1, 0) else kas_desc f p (m + 1 + 1) (0 + 1)) = _
        rw [if_pos (decide_eq_true hc2)]; rfl
      exact ⟨m, e2, hs, Nat.le_add_right _ _⟩
theorem getD_rev {p : Array Nat} {m k : Nat} (hm : m ≤ p.size) (hk : k < m) : (kas_rev p 0 m).getD k 0 = p.getD (m - 1 - k) 0 := by
  have h := getElem?_mirror_all (xs := p) (i := 0) hm k
  rw [Array.getD_eq_getD_getElem?]
  unfold kas_rev
  rw [h, if_pos ⟨Nat.zero_le _, hk⟩, Array.getD_eq_getD_getElem?, Nat.zero_add]
theorem perm_toList {p q : Array Nat} (h : p.Perm q) : p.toList.Perm q.toList := Array.perm_iff_toList_perm.mp h
theorem run_tail3 {n m : Nat} {p : Array Nat} (hinj : ∀ i j, i < n → j < n → key i = key j → i = j) (hp : p.toList.Perm (List.range n)) (hm : m + 1 ≤ n) (hs : DescTo key p (m + 1)) :
    ∃ m' p', runT (cK key) (kas_tail3 (m + 1) n p) = (m', p') ∧ p'.toList.Perm (List.range n) ∧ SortTo key p' m' ∧ m' ≤ n := by
  unfold kas_tail3
  rw [runT_bind]
  have hsz : m + 1 ≤ p.size := by rw [(pok_of hinj hp).size]; exact hm
  have hp' : (kas_rev p 0 (m + 1)).toList.Perm (List.range n) := (perm_toList (mirror_perm _ _ _ _)).trans hp
  have hs' : SortTo key (kas_rev p 0 (m + 1)) (m + 1) := by
    intro i j hij hj
    unfold KP
    rw [getD_rev hsz (Nat.lt_trans hij hj), getD_rev hsz hj]
    exact hs (m - j) (m - i) (Nat.sub_lt_sub_left (Nat.lt_of_lt_of_le hij (Nat.le_of_lt_succ hj)) hij) (Nat.lt_succ_of_le (Nat.sub_le m i))
  have hb := Nat.add_sub_of_le hm
  obtain ⟨a, _, c, _⟩ := run_asc (n - (m + 1)) m hs' fun i j h1 h2 => (pok_of hinj hp').ne i j h1 (Nat.lt_of_lt_of_eq h2 hb)
  exact ⟨_, _, rfl, hp', a, Nat.le_trans c (Nat.le_of_eq hb)⟩
theorem run_count {n : Nat} {p : Array Nat} (hinj : ∀ i j, i < n + 2 → j < n + 2 → key i = key j → i = j) (hp : p.toList.Perm (List.range (n + 2))) :
    ∃ m' p', runT (cK key) (kas_count (n + 2) p) = (m', p') ∧ p'.toList.Perm (List.range (n + 2)) ∧ SortTo key p' m' ∧ m' ≤ n + 2 := by
  have hok := pok_of hinj hp
  unfold kas_count
  rw [runT_bind]
  have hn : 0 + 1 + (n + 1) = n + 2 := Nat.add_comm 1 (n + 1)
  have H := run_asc (key := key) (p := p) (n + 1) 0 (fun i j h1 h2 => absurd (Nat.lt_of_lt_of_le h1 (Nat.le_of_lt_succ h2)) (Nat.not_lt_zero i)) fun i j h1 h2 => hok.ne i j h1 (Nat.lt_of_lt_of_eq h2 hn)
  rw [hn] at H
  change (SortTo key p (runT (cK key) (kas_asc p (n + 2 - 1) 1)) ∧ 1 ≤ runT (cK key) (kas_asc p (n + 2 - 1) 1) ∧ runT (cK key) (kas_asc p (n + 2 - 1) 1) ≤ n + 2 ∧ (runT (cK key) (kas_asc p (n + 2 - 1) 1) < n + 2 → KP key p (runT (cK key) (kas_asc p (n + 2 - 1) 1)) < KP key p (runT (cK key) (kas_asc p (n + 2 - 1) 1) - 1))) at H
  generalize runT (cK key) (kas_asc p (n + 2 - 1) 1) = m at *
  obtain ⟨a, b, c, d⟩ := H
  by_cases hmn : m = n + 2
  · subst hmn
    rw [if_pos (by simp)]
    exact ⟨_, _, rfl, hp, a, Nat.le_refl _⟩
  · rw [if_neg (by simpa using hmn)]
    by_cases h1 : m > 1
    · rw [if_pos h1]
      have e : runT (cK key) (KasT.ask (p.getD 0 0) (p.getD (m - 1) 0) fun c => if c = true then KasT.ret (m, p) else kas_descPart m (n + 2) (kas_rev p 0 m)) = (m, p) := by
        show runT (cK key) (if cK key (p.getD 0 0) (p.getD (m - 1) 0) = true then KasT.ret (m, p) else kas_descPart m (n + 2) (kas_rev p 0 m)) = _
        rw [if_pos (decide_eq_true (a 0 (m - 1) (Nat.sub_pos_of_lt h1) (Nat.sub_lt b Nat.one_pos)))]; rfl
      exact ⟨_, _, e, hp, a, c⟩
    · rw [if_neg h1]
      cases Nat.le_antisymm (Nat.not_lt.mp h1) b
      have hlt := d (Nat.succ_lt_succ (Nat.succ_pos n))
      unfold kas_descPart
      rw [runT_bind]
      have hb : 1 + 1 + (n + 2 - (1 + 1)) = n + 2 := Nat.add_comm 2 n
      obtain ⟨m', e, hs, h4⟩ := run_desc (key := key) (p := p) (n + 2 - (1 + 1)) 1 (chain_ext (m := 0) (R := fun i j => KP key p j < KP key p i) (fun h1 h2 => Int.lt_trans h2 h1) (fun i j h1 h2 => absurd (Nat.lt_of_lt_of_le h1 (Nat.le_of_lt_succ h2)) (Nat.not_lt_zero i)) hlt) fun i j h1 h2 => hok.ne i j h1 (Nat.lt_of_lt_of_eq h2 hb)
      rw [e]
      dsimp only
      rw [if_neg (Nat.lt_irrefl 0)]
      exact run_tail3 hinj hp (Nat.le_trans h4 (Nat.le_of_eq hb)) hs
theorem run_place {p : Array Nat} {k : Nat} : ∀ (f l r : Nat), r - l ≤ f → l ≤ r → r ≤ k → SortTo key p k → (∀ i, i < l → KP key p i < KP key p k) → (∀ i, r ≤ i → i < k → KP key p k < KP key p i) → (∀ i, i < k → KP key p i ≠ KP key p k) →
    ∃ l', runT (cK key) (kas_place p k f l r) = l' ∧ l' ≤ k ∧ (∀ i, i < l' → KP key p i < KP key p k) ∧ (∀ i, l' ≤ i → i < k → KP key p k < KP key p i)
  | 0, l, r, hf, hlr, hrk, _, h1, h2, _ => ⟨l, rfl, Nat.le_trans hlr hrk, h1, fun i a b => h2 i (Nat.le_trans (Nat.le_of_sub_eq_zero (Nat.eq_zero_of_le_zero hf)) a) b⟩
  | f + 1, l, r, hf, hlr, hrk, hs, h1, h2, hd => by
    by_cases h : l ≥ r
    · refine ⟨l, ?_, Nat.le_trans hlr hrk, h1, fun i a b => h2 i (Nat.le_trans h a) b⟩
      unfold kas_place
      rw [if_pos h]; rfl
    · have e : runT (cK key) (kas_place p k (f + 1) l r) = runT (cK key) (if cK key (p.getD k 0) (p.getD ((l + r) / 2) 0) = true then kas_place p k f l ((l + r) / 2) else kas_place p k f ((l + r) / 2 + 1) r) := by
        rw [kas_place, if_neg h]; rfl
      rw [e]
      have hlt := Nat.lt_of_not_le h
      have hlq : l ≤ (l + r) / 2 := (Nat.le_div_iff_mul_le Nat.two_pos).mpr (by rw [Nat.mul_two]; exact Nat.add_le_add_left hlr l)
      have hqr : (l + r) / 2 < r := Nat.div_lt_of_lt_mul (by rw [Nat.two_mul]; exact Nat.add_lt_add_right hlt r)
      clear e h
      generalize (l + r) / 2 = q at *
      have hqk := Nat.lt_of_lt_of_le hqr hrk
      by_cases hc : KP key p k < KP key p q
      · rw [if_pos (decide_eq_true hc)]
        refine run_place f l q (Nat.le_of_lt_succ (Nat.lt_of_lt_of_le (Nat.sub_lt_sub_right hlq hqr) hf)) hlq (Nat.le_of_lt hqk) hs h1 (fun i a b => ?_) hd
        rcases Nat.lt_or_eq_of_le a with hi | rfl
        · exact Int.lt_trans hc (hs q i hi b)
        · exact hc
      · rw [if_neg (fun h => hc (of_decide_eq_true h))]
        have hcq : KP key p q < KP key p k := Int.lt_iff_le_and_ne.mpr ⟨Int.not_lt.mp hc, hd q hqk⟩
        refine run_place f (q + 1) r (Nat.le_of_lt_succ (Nat.lt_of_lt_of_le (Nat.sub_lt_sub_left hlt (Nat.lt_succ_of_le hlq)) hf)) hqr hrk hs (fun i a => ?_) h2 hd
        rcases Nat.lt_or_eq_of_le (Nat.le_of_lt_succ a) with hi | rfl
        · exact Int.lt_trans (hs i q hi hqk) hcq
        · exact hcq
theorem getD_bubble {p : Array Nat} {src d k : Nat} (hs : src < p.size) (hd : d ≤ src) : (bubble p src d).getD k 0 = if k = src - d then p.getD src 0 else if src - d < k ∧ k ≤ src then p.getD (k - 1) 0 else p.getD k 0 := by
  rw [Array.getD_eq_getD_getElem?, getElem?_bubble hs d hd, Array.getD_eq_getD_getElem?, Array.getD_eq_getD_getElem?, Array.getD_eq_getD_getElem?]
  by_cases h1 : k = src - d
  · rw [if_pos h1, if_pos h1]
  · rw [if_neg h1, if_neg h1]
    by_cases h2 : src - d < k ∧ k ≤ src
    · rw [if_pos h2, if_pos h2]
    · rw [if_neg h2, if_neg h2]
theorem run_bin {n : Nat} (hinj : ∀ i j, i < n → j < n → key i = key j → i = j) : ∀ (f : Nat) (p : Array Nat) (k : Nat), k + f = n → p.toList.Perm (List.range n) → SortTo key p k → ∃ p', runT (cK key) (kas_bin f p k) = p' ∧ p'.toList.Perm (List.range n) ∧ SortTo key p' n
  | 0, p, k, hk, hp, hs => ⟨p, rfl, hp, by rw [← hk]; exact hs⟩
  | f + 1, p, k, hk, hp, hs => by
    have hok := pok_of hinj hp
    have hkn : k < n := Nat.lt_of_lt_of_eq (Nat.lt_add_of_pos_right (Nat.succ_pos f)) hk
    have hkp : k < p.size := Nat.lt_of_lt_of_eq hkn hok.size.symm
    unfold kas_bin
    rw [runT_bind]
    obtain ⟨l, e, hl, h1, h2⟩ := run_place (key := key) (p := p) (k := k) k 0 k (Nat.le_refl _) (Nat.zero_le k) (Nat.le_refl _) hs (fun i h => absurd h (Nat.not_lt_zero i)) (fun i a b => absurd b (Nat.not_lt.mpr a)) fun i h => hok.ne i k h hkn
    rw [e]
    refine run_bin hinj f (bubble p k (k - l)) (k + 1) ((Nat.succ_add k f).trans hk) ((perm_toList (bubble_perm _ _ _)).trans hp) ?_
    have hB := getD_bubble (k := l) hkp (Nat.sub_le k l)
    have hA := fun i => getD_bubble (k := i) hkp (Nat.sub_le k l)
    rw [Nat.sub_sub_self hl] at hA hB
    rw [if_pos rfl] at hB
    have hA1 : ∀ {i : Nat}, i < l → KP key (bubble p k (k - l)) i = KP key p i := fun {i} h => by
      unfold KP
      rw [hA, if_neg (Nat.ne_of_lt h), if_neg (fun h' => Nat.lt_asymm h h'.1)]
    have hC : ∀ {i : Nat}, l < i + 1 → i < k → KP key (bubble p k (k - l)) (i + 1) = KP key p i := fun {i} h h' => by
      unfold KP
      rw [hA, if_neg (Nat.ne_of_gt h), if_pos ⟨h, h'⟩]; rfl
    have hB1 : KP key (bubble p k (k - l)) l = KP key p k := congrArg key hB
    clear hA hB
    intro i j hij hj
    cases j with
    | zero => exact absurd hij (Nat.not_lt_zero i)
    | succ j =>
      have hjk : j < k := Nat.lt_of_succ_lt_succ hj
      rcases Nat.lt_trichotomy (j + 1) l with h | h | h
      · rw [hA1 (Nat.lt_trans hij h), hA1 h]; exact hs i (j + 1) hij (Nat.lt_of_lt_of_le h hl)
      · subst h; rw [hB1, hA1 hij]; exact h1 i hij
      · rw [hC h hjk]
        have hlj : l ≤ j := Nat.le_of_lt_succ h
        rcases Nat.lt_trichotomy i l with g | g | g
        · rw [hA1 g]; exact hs i j (Nat.lt_of_lt_of_le g hlj) hjk
        · subst g; rw [hB1]; exact h2 j hlj hjk
        · cases i with
          | zero => exact absurd g (Nat.not_lt_zero l)
          | succ i => rw [hC g (Nat.lt_trans (Nat.lt_of_succ_lt_succ hij) hjk)]; exact hs i j (Nat.lt_of_succ_lt_succ hij) hjk
theorem run_sort {n : Nat} (hinj : ∀ i j, i < n → j < n → key i = key j → i = j) (hn : 2 ≤ n) : ∃ p, runT (cK key) (kas_sort n) = p ∧ p.toList.Perm (List.range n) ∧ SortTo key p n := by
  obtain ⟨n, rfl⟩ := Nat.exists_eq_add_of_le' hn
  unfold kas_sort
  rw [runT_bind]
  obtain ⟨m, p, e, hp, hs, hm⟩ := run_count (key := key) (p := (List.range (n + 2)).toArray) hinj (by simp)
  rw [e]
  by_cases h : m < n + 2
  · rw [if_pos h]
    refine run_bin hinj (n + 2 - max m 1) p (max m 1) (Nat.add_sub_of_le (Nat.max_le.mpr ⟨hm, Nat.le_of_lt hn⟩)) hp ?_
    cases m with
    | zero => exact fun i j h1 h2 => absurd (Nat.lt_of_lt_of_le h1 (Nat.le_of_lt_succ (n := 0) h2)) (Nat.not_lt_zero i)
    | succ m => rw [Nat.max_eq_left (Nat.succ_le_succ (Nat.zero_le m))]; exact hs
  · rw [if_neg h]
    cases Nat.le_antisymm hm (Nat.not_lt.mp h)
    exact ⟨p, rfl, hp, hs⟩
end
/-- every question asks after items that are there -/
noncomputable def AllT {α : Type} (n : Nat) (R : α → Prop) : KasT α → Prop
  | .ret a => R a
  | .ask i j k => i < n ∧ j < n ∧ ∀ b, AllT n R (k b)
theorem AllT.bind {α β : Type} {n : Nat} {R : α → Prop} {R' : β → Prop} {f : α → KasT β} (hf : ∀ a, R a → AllT n R' (f a)) : ∀ {t : KasT α}, AllT n R t → AllT n R' (t.bind f)
  | .ret a, h => hf a h
  | .ask _ _ _, ⟨h1, h2, h3⟩ => ⟨h1, h2, fun b => AllT.bind hf (h3 b)⟩
def Small (n : Nat) (p : Array Nat) : Prop := 0 < n ∧ ∀ x ∈ p.toList, x < n
theorem Small.at {n : Nat} {p : Array Nat} (h : Small n p) (i : Nat) : p.getD i 0 < n := by
  rw [Array.getD_eq_getD_getElem?]
  cases e : p[i]? with
  | none => exact h.1
  | some x =>
    refine h.2 x ?_
    rw [← Array.getElem?_toList] at e
    exact List.mem_of_getElem? e
theorem Small.perm {n : Nat} {p q : Array Nat} (h : Small n p) (e : q.Perm p) : Small n q := ⟨h.1, fun x hx => h.2 x ((perm_toList e).subset hx)⟩
theorem Small.rev {n : Nat} {p : Array Nat} (h : Small n p) (i j : Nat) : Small n (kas_rev p i j) := h.perm (mirror_perm _ _ _ _)
theorem all_asc {n : Nat} {p : Array Nat} (h : Small n p) : ∀ f m, AllT n (fun _ => True) (kas_asc p f m)
  | 0, _ => trivial
  | f + 1, m => ⟨h.at _, h.at _, fun b => by
      dsimp only
      split
      · trivial
      · exact all_asc h f (m + 1)⟩
theorem all_desc {n : Nat} : ∀ f (p : Array Nat) m q, Small n p → AllT n (fun r => Small n r.1) (kas_desc f p m q)
  | 0, _, _, _, h => h
  | f + 1, p, m, q, h => ⟨h.at _, h.at _, fun b => by
      dsimp only
      split
      · split
        · exact all_desc f _ _ _ (h.rev _ _)
        · exact all_desc f _ _ _ h
      · refine ⟨h.at _, h.at _, fun d => ?_⟩
        dsimp only
        split
        · exact h
        · exact all_desc f _ _ _ h⟩
theorem all_tail3 {n m k : Nat} {p : Array Nat} (h : Small n p) : AllT n (fun r => Small n r.2) (kas_tail3 m k p) := by
  unfold kas_tail3
  refine AllT.bind (fun m' _ => ?_) (all_asc (h.rev 0 m) _ _)
  exact h.rev 0 m
theorem all_descPart {n m k : Nat} {p : Array Nat} (h : Small n p) : AllT n (fun r => Small n r.2) (kas_descPart m k p) := by
  refine AllT.bind (fun r hr => ?_) (all_desc _ _ _ _ h)
  split
  · exact all_tail3 (hr.rev _ _)
  · exact all_tail3 hr
theorem all_count {n k : Nat} {p : Array Nat} (h : Small n p) : AllT n (fun r => Small n r.2) (kas_count k p) := by
  refine AllT.bind (fun m _ => ?_) (all_asc h _ _)
  split
  · exact h
  · split
    · refine ⟨h.at _, h.at _, fun c => ?_⟩
      dsimp only
      split
      · exact h
      · exact all_descPart (h.rev _ _)
    · exact all_descPart h
theorem all_place {n k : Nat} {p : Array Nat} (h : Small n p) : ∀ f l r, AllT n (fun _ => True) (kas_place p k f l r)
  | 0, _, _ => trivial
  | f + 1, l, r => by
    rw [kas_place]
    split
    · trivial
    · refine ⟨h.at _, h.at _, fun c => ?_⟩
      dsimp only
      split
      · exact all_place h f _ _
      · exact all_place h f _ _
theorem all_bin {n : Nat} : ∀ f (p : Array Nat) k, Small n p → AllT n (fun _ => True) (kas_bin f p k)
  | 0, _, _, _ => trivial
  | f + 1, _, _, h => AllT.bind (fun _ _ => all_bin f _ _ (h.perm (bubble_perm _ _ _))) (all_place h _ _ _)
theorem all_sort {n : Nat} (h : 0 < n) : AllT n (fun _ => True) (kas_sort n) := by
  refine AllT.bind (fun r hr => ?_) (all_count ⟨h, fun x hx => by simpa using hx⟩)
  split
  · exact all_bin _ _ _ hr
  · trivial
/-- the tree's end, where each question leaves all but the marks -/
theorem kas_run {α : Type} {n : Nat} {R : α → Prop} {cmp : Nat → Nat → (Bool → Shared → Prop) → Shared → Prop} {c : Nat → Nat → Bool} {I : Shared → Prop} (hc : ∀ i j (C : Bool → Shared → Prop) s, i < n → j < n → I s → (∀ s', I s' → C (c i j) s') → cmp i j C s) {Q : α → Shared → Prop} :
    ∀ (t : KasT α) (s : Shared), AllT n R t → I s → (∀ s', I s' → Q (runT c t) s') → t.kasWp cmp Q s
  | .ret _, s, _, hs, h => h s hs
  | .ask i j k, s, ⟨h1, h2, h3⟩, hs, h => hc i j _ s h1 h2 hs fun s' hs' => kas_run hc (k (c i j)) s' (h3 _) hs' h
end

/-! part SortT -/
section
open PySem PySem.W PyProof.Rows PySem.Spec PySem.Calls
set_option Elab.async false
set_option maxRecDepth 100000
set_option maxHeartbeats 4000000

theorem reset_SortT : True := by
  w_top off
  trivial
section
variable {prog : Program} {w : World} {A : Around} {E : Value → Shared → Prop} {s : Shared} {h₀ : Heap} {L : Addr} {m : Str → Option Value} {news : Led}
theorem tups_of : ∀ (vs : List Value), (∀ v ∈ vs, ∃ a k t x, v = Value.ref a ∧ (a, tup2 (.int k t) x) ∈ news) → News h₀ L s.heap news → ∃ fs, KatTups s.heap vs fs ∧ fs.length = vs.length ∧ ∀ v ∈ fs, ∃ k t, v = Value.int k t
  | [], _, _ => ⟨[], KatTups.nil, rfl, fun _ h => nomatch h⟩
  | v :: vs, h, N => by
    obtain ⟨a, k, t, x, rfl, hm⟩ := h v (List.mem_cons_self ..)
    obtain ⟨fs, h1, h2, h3⟩ := tups_of vs (fun v hv => h v (List.mem_cons_of_mem _ hv)) N
    refine ⟨.int k t :: fs, KatTups.cons (N _ hm).1 rfl rfl rfl h1, by rw [List.length_cons, List.length_cons, h2], fun v hv => ?_⟩
    rcases List.mem_cons.mp hv with rfl | hv
    · exact ⟨_, _, rfl⟩
    · exact h3 v hv
/-- sorted of a list of pairs whose first items are distinct ints -/
theorem my_sortedT {l : Addr} {vs : List Value} {ks : List Int} {Q : Value → Shared → Prop} (F : Fr h₀ L s.heap m) (N : News h₀ L s.heap news) (hl : s.heap.IsList l vs.toArray) (hlen : vs.length = ks.length) (h2 : 2 ≤ vs.length) (h64 : vs.length < 64)
    (hv : ∀ (i : Nat) (k : Int), ks[i]? = some k → ∃ a t x tx, vs[i]? = some (Value.ref a) ∧ (a, tup2 (.int k t) (.str x tx)) ∈ news) (hnd : ks.Nodup)
    (h : ∀ D c h' tk (p : List Nat), Fr h₀ L h' m → News h₀ L h' ((D, listOf (p.map fun i => vs.getD i Value.none).toArray c) :: news) → (∀ q ∈ news, q.1 < D) → p.Perm (List.range vs.length) → (p.map fun i => ks.getD i 0).Pairwise (fun x y => x < y) → Q (.ref D) { s with heap := h', toks := tk }) :
    wpAny (model prog w) A (call (.builtin "sorted") [.ref l]) Q E s := by
  refine kat_sorted F N hl h2 h64 fun D e1 h' F' N' l1 => ?_
  have N'' : News h₀ L h' news := fun p hp => N' p (.tail _ hp)
  have hall : ∀ v ∈ vs, ∃ a k t x, v = Value.ref a ∧ (a, tup2 (.int k t) x) ∈ news := by
    intro v hv'
    obtain ⟨i, hi⟩ := List.mem_iff_getElem?.mp hv'
    have hil := (List.getElem?_eq_some_iff.mp hi).1
    obtain ⟨a, t, x, tx, h1, h2⟩ := hv i _ (List.getElem?_eq_getElem (by omega))
    rw [hi] at h1
    exact ⟨a, _, t, _, Option.some.inj h1, h2⟩
  obtain ⟨fs, t1, t2, t3⟩ := tups_of (s := { s with heap := h' }) vs hall N''
  refine kat_kind (T := .type "int") t1 (by omega) (fun v hv => ?_) rfl ?_
  · obtain ⟨k, t, rfl⟩ := t3 v hv
    exact Looks.of_pure rfl
  have hinj : ∀ i j, i < vs.length → j < vs.length → ks.getD i 0 = ks.getD j 0 → i = j := by
    intro i j hi hj e
    rw [List.getD_eq_getElem?_getD, List.getD_eq_getElem?_getD, List.getElem?_eq_getElem (by omega), List.getElem?_eq_getElem (by omega)] at e
    exact (List.getElem_inj hnd).mp e
  obtain ⟨p, ep, hp, hs⟩ := run_sort hinj h2
  refine kas_run (c := cK fun i => ks.getD i 0) (I := fun s' => ∃ tk, s' = { s with heap := h', toks := tk }) ?hc _ _ (all_sort (by omega)) ⟨_, rfl⟩ ?hq
  case hc =>
    rintro i j C s' hi hj ⟨tk, rfl⟩ hC
    obtain ⟨a, t, x, tx, e1, m1⟩ := hv i _ (List.getElem?_eq_getElem (by omega))
    have g1 : vs.getD i Value.none = .ref a := by rw [List.getD_eq_getElem?_getD, e1]; rfl
    have k1 : ks.getD i 0 = ks[i]'(by omega) := by rw [List.getD_eq_getElem?_getD, List.getElem?_eq_getElem (by omega)]; rfl
    by_cases hij : i = j
    · subst hij
      unfold kas_ask
      rw [g1]
      have hf : cK (fun i => ks.getD i 0) i i = false := decide_eq_false (Int.lt_irrefl _)
      rw [hf] at hC
      refine kat_lt (N'' _ m1).1 rfl (N'' _ m1).1 rfl (kat_cons (wpAny_eqBool_int ?_))
      rw [beq_self_eq_true]
      refine kat_yes (kat_cons (wpAny_eqBool_str ?_))
      rw [decide_eq_true (rfl : x = x)]
      exact kat_yes (kat_nil (hC _ ⟨_, rfl⟩))
    · obtain ⟨b, u, y, ty, e2, m2⟩ := hv j _ (List.getElem?_eq_getElem (by omega))
      have g2 : vs.getD j Value.none = .ref b := by rw [List.getD_eq_getElem?_getD, e2]; rfl
      have k2 : ks.getD j 0 = ks[j]'(by omega) := by rw [List.getD_eq_getElem?_getD, List.getElem?_eq_getElem (by omega)]; rfl
      have hk : ks.getD i 0 ≠ ks.getD j 0 := fun e => hij (hinj i j hi hj e)
      unfold kas_ask
      rw [g1, g2]
      refine kat_lt (N'' _ m1).1 rfl (N'' _ m2).1 rfl (kat_cons (wpAny_eqBool_int ?_))
      rw [← k1, ← k2, beq_eq_false_iff_ne.mpr hk]
      refine kat_no ?_
      show wpAny _ _ (oneLt' true _ _) _ _ _
      exact oneLt_int (hC _ ⟨_, rfl⟩)
  case hq =>
    rintro s' ⟨tk, rfl⟩
    rw [ep]
    refine KasFin.intro F' N' (UpdF.head fun q hq => Nat.ne_of_lt (l1 q hq)) fun h'' c F'' N3 => ?_
    refine h D c h'' tk p.toList F'' N3 l1 hp ?_
    have hok := pok_of hinj hp
    rw [List.pairwise_iff_getElem]
    intro i j hi hj hij
    rw [List.length_map] at hi hj
    have hsz : p.toList.length = vs.length := by rw [Array.length_toList]; exact hok.size
    have := hs i j hij (by omega)
    simp only [List.getElem_map]
    have e : ∀ (i : Nat) (h : i < p.toList.length), p.toList[i] = p.getD i 0 := by
      intro i h
      have h' : i < p.size := by simpa using h
      simp [Array.getD, h']
    rw [e, e]
    exact this
end
end

/-! part LawStep -/
section
open PySem PySem.W PyProof.Rows PySem.Spec PySem.Calls
set_option Elab.async false
set_option maxRecDepth 100000
set_option maxHeartbeats 4000000

theorem reset_LawStep : True := by
  w_top off
  trivial
open PyProof.Rows.LCg PyProof.Rows.LCt PyProof.Rows.LCp
theorem words_LawStep : True := by
  k_with_none
  k_with "om" => (first | (with_reducible first | assumption | exact Int.natCast_nonneg _ | exact Nat.le_trans (by assumption) (by decide) | exact Nat.lt_of_le_of_lt (by assumption) (by decide) | exact lt_lit (by assumption) (by decide) | exact le_lit (by assumption) (by decide) | exact le_flip (by assumption) (by decide) | exact lt_lit0 (by assumption) (by decide) | exact nn0) | decide | omega)
  trivial
noncomputable def dr (x : Int) : Int := x.fmod 1000000
section
variable {prog : Program} {w : World} {A : Around} {E : Value → Shared → Prop} {s : Shared} {h₀ : Heap} {L : Addr} {m : Str → Option Value} {env : Env}
/-- [f(x) for x in a list of ints], the element quiet -/
theorem comp_mapU {elt : Expr} {x y : Str} {scope : Scope} {cl : List (Str × Addr)} {Q : Flow → Shared → Prop} {ra : Addr} {rv : List Value} {rn : Nat} {rs : List Int} {news : Led} (f : Int → Int) (hh : A.handled = none) (F₀ : Fr h₀ L s.heap m) (N₀ : News h₀ L s.heap news)
    (hrm : (ra, listOf rv.toArray rn) ∈ news) (hri : IntsAre rv rs) (hpl : rs.length ≤ 1000)
    (HE : ∀ k t1, k ∈ rs → QuietT prog w A h₀ L m s news (fun C => eval elt (compEnvC scope cl C env)) (fun m₂ => m₂ x = some (.int k t1)) (fun r => ∃ t, r = .int (f k) t))
    (fin : ∀ D ys h tk, Fr h₀ L h (fun z => if z = y then some (.ref D) else m z) → News h₀ L h ((D, lst ys) :: news) → (∀ p ∈ news, p.1 ≠ D) → IntsAre ys (rs.map f) → Q .next { s with heap := h, toks := tk }) :
    CompSrc prog w A h₀ L m env elt x scope cl (fun s₂ => FinA h₀ L m s₂ y Q) (.ref ra) s := by
  have hlen := hri.length
  refine CompSrc.ledger hh F₀ N₀ hrm (by rw [List.size_toArray]; simp only [sizeLine]; k_extra "om") fun g' => ?_
  refine compU (fun i ys nw => nw = news ∧ IntsAre ys ((rs.take i).map f)) ⟨rfl, by simpa using IntsAre.nil⟩ ?_ ?_
  · rintro i v ys nw I oI C oC D m₂ h tk E' hi hP ⟨rfl, hys⟩ hoC hxv F N off ne
    obtain ⟨k, t, rfl, hk⟩ := IntsAre.at hri i v (by simpa using hP)
    refine HE k t (List.mem_of_getElem? hk) C oC m₂ h tk _ _ _ hoC hxv F N (.tail _ (.head _)) (fun p hp => .tail _ (.tail _ (.tail _ hp))) fun r h' tk' hr F' N' => ?_
    obtain ⟨t2, rfl⟩ := hr
    refine CompEnd.intro F' N' nw (fun p hp => hp) off (.inr ⟨_, hrm, rfl, _, rfl⟩) ⟨rfl, ?_⟩
    rw [List.take_add_one, hk, List.map_append]
    exact hys.append (IntsAre.cons _ _ IntsAre.nil)
  · rintro ys nw ⟨rfl, hys⟩ D h tk F N off
    have e : (rs.take rv.toArray.size) = rs := List.take_of_length_le (by rw [List.size_toArray]; k_extra "om")
    rw [e] at hys
    exact fin D ys h tk F N (Off1.mem off) hys
end
section
variable {prog : Program} {w : World} {A : Around} {E : Value → Shared → Prop} {s : Shared} {h₀ : Heap} {L : Addr} {m : Str → Option Value} {news : Led}
/-- xs[x:] of a list of ints, whatever its expression -/
theorem my_slice_from {value slice : Expr} {l : Addr} {vs : List Value} {ns : List Int} {x : Int} {tx : Tok} {Q : Value → Shared → Prop} (F : Fr h₀ L s.heap m) (N : News h₀ L s.heap news) (hl : s.heap.IsList l vs.toArray) (hi : IntsAre vs ns) (h0 : 0 ≤ x) (hz : vs.length ≤ 1000)
    (h : ∀ D ws h', Fr h₀ L h' m → News h₀ L h' ((D, listOf (List.toArray ws) 0) :: news) → IntsAre ws (ns.drop x.toNat) → (∀ p ∈ news, p.1 < D) → Q (.ref D) { s with heap := h' })
    (hs : subscripted slice false (.ref l) (.ref s.heap.objs.size) = operate [.ref s.heap.objs.size, .ref l] (getItem (.ref l) (.ref s.heap.objs.size))) :
    wpAny (model prog w) A (subscriptTail value slice (.ref l) (.ref s.heap.objs.size)) Q E { s with heap := s.heap.push { cls := .type "slice", data := .fields #[.int x tx, .none, .none] } } := by
  refine tail_any (Heap.IsList.typeIs (s := { s with heap := s.heap.push { cls := .type "slice", data := .fields #[.int x tx, .none, .none] } }) (hl.push _)) slot_list_getitem.lookup
    (wpAny_getItem_list_slice (hl.push _) (Heap.IsSliceOf.new ..) (IsPart.int x tx) IsPart.none .none (by simp) ?_ (by rw [List.size_toArray]; simp only [sizeLine]; k_extra "om")) hs
  have N1 := News.push (F.push { cls := .type "slice", data := .fields #[.int x tx, .none, .none] }) (N.grown fun _ _ e => Heap.get?_push_of_some _ e) { cls := .type "list", data := .seq (slicePick vs.toArray (some x) none none) }
  rw [Heap.size_push] at N1
  show Q (.ref (s.heap.push _).objs.size) _
  rw [Heap.size_push]
  refine h _ (slicePick vs.toArray (some x) none none).toList _ ((F.push _).push _) ?_ (kmk_from hi h0) fun p hp => Nat.lt_succ_of_lt (Heap.lt_size (N p hp).1)
  rw [Array.toArray_toList]
  exact N1
end
section
variable {prog : Program} {w : World} {A : Around} {E : Value → Shared → Prop} {s : Shared} {h₀ : Heap} {L : Addr} {m : Str → Option Value} {news : Led}
/-- list(range(n)) -/
theorem my_list_range {r : Addr} {a b : Int} {t u v : Tok} {n : Nat} {Q : Value → Shared → Prop} (hh : A.handled = none) (F : Fr h₀ L s.heap m) (N : News h₀ L s.heap news) (hr : IsRange s.heap r a b 1 t u v) (hsmall : Builtin.Range.small a b 1 = true) (hn : Builtin.Range.rangeSize a b 1 = (n : Int)) (hlen : n ≤ 1000)
    (h : ∀ D ys k h' tk, Fr h₀ L h' m → News h₀ L h' ((D, listOf (List.toArray ys) k) :: news) → IntsAre ys (rangeInts a 1 n) → (∀ p ∈ news, p.1 < D) → Q (.ref D) { s with heap := h', toks := tk }) :
    wpAny (model prog w) A (call (.type "list") [.ref r]) Q E s := by
  refine list_rangeD hh F N hr hsmall hn (by k_extra "om") fun h' tk ys F' N' hk h0 hl hp hc => ?_
  obtain ⟨k, N2⟩ := made_enters hp F' N' h0
  exact h _ ys k h' tk F' N2 (by unfold rangeInts at hc ⊢; rw [List.map_map] at hc; exact CarriedAll.intsOf hc) fun p hp => Heap.lt_size (N p hp).1
theorem my_itemT {value slice : Expr} {l : Addr} {vs : List Value} {k : Int} {u : Tok} {x : Value} {Q : Value → Shared → Prop} {nn : Nat} (hm : (l, ({ cls := .type "tuple", data := .seq vs.toArray nn } : Obj)) ∈ news) (N : News h₀ L s.heap news) (h0 : 0 ≤ k) (h1 : k < 1000)
    (hx : vs[k.toNat]? = some x) (h : Q x s)
    (hs : subscripted slice false (.ref l) (.int k u) = operate [.ref l, .int k u] (getItem (.ref l) (.int k u)) := by with_unfolding_all rfl) :
    wpAny (model prog w) A (subscriptTail value slice (.ref l) (.int k u)) Q E s := by
  have ht : IsTup s.heap l vs.toArray := ⟨_, (N _ hm).1, rfl, _, rfl⟩
  refine tail_any ht.typeIs slot_tuple_getitem.lookup (getItem_tuple ht (by k_extra "om") (by k_extra "om") (seqIndex_of (k := k) h0 ?_) (x := x) (by simpa using hx) h) hs
  have := (List.getElem?_eq_some_iff.mp hx).1
  rw [List.size_toArray]; k_extra "om"
end
/-! the names -/
noncomputable def letS (i : Nat) : Str := [Str.ofString "C", Str.ofString "f", Str.ofString "b", Str.ofString "g", Str.ofString "d", Str.ofString "a", Str.ofString "e"].getD i (Str.ofString "C")
noncomputable def nameS (i : Nat) (b : Bool) : Str := if b = true then letS i ++ Str.ofString ".x" else letS i
def LetAt (i : Nat) (v : Value) : Prop := (i = 0 ∧ v = .none) ∨ (0 < i ∧ i < 7 ∧ ∃ t, v = .str (letS i) t)
def ExtAt (b : Bool) (v : Value) : Prop := (b = false ∧ v = .none) ∨ (b = true ∧ ∃ t, v = .str (Str.ofString "x") t)
theorem seven {i : Nat} (h : i < 7) : i = 0 ∨ i = 1 ∨ i = 2 ∨ i = 3 ∨ i = 4 ∨ i = 5 ∨ i = 6 := (by decide : ∀ j < 7, j = 0 ∨ j = 1 ∨ j = 2 ∨ j = 3 ∨ j = 4 ∨ j = 5 ∨ j = 6) i h
theorem letS_len {i : Nat} (h : i < 7) : (letS i).length = 1 := by
  rcases seven h with rfl | rfl | rfl | rfl | rfl | rfl | rfl <;> rfl
theorem letS_dot {i : Nat} (h : i < 7) : letS i ++ Str.ofString "." ++ Str.ofString "x" = letS i ++ Str.ofString ".x" := by
  rcases seven h with rfl | rfl | rfl | rfl | rfl | rfl | rfl <;> rfl
theorem letS_nil {i : Nat} (h : i < 7) : letS i ++ Str.ofString "" = letS i := by
  rcases seven h with rfl | rfl | rfl | rfl | rfl | rfl | rfl <;> rfl
noncomputable def allNames : List (Nat × Bool) := [(0, false), (0, true), (1, false), (1, true), (2, false), (2, true), (3, false), (3, true), (4, false), (4, true), (5, false), (5, true), (6, false), (6, true)]
theorem nameS_ok : (allNames.all fun p => allNames.all fun q => (decide (nameS p.1 p.2 = nameS q.1 q.2)) == (decide (p = q))) = true := by decide +kernel
theorem nameS_inj {i j : Nat} {b c : Bool} (hi : i < 7) (hj : j < 7) (h : nameS i b = nameS j c) : i = j := by
  have mem : ∀ {i : Nat} {b : Bool}, i < 7 → (i, b) ∈ allNames := by
    intro i b hi
    rcases seven hi with rfl | rfl | rfl | rfl | rfl | rfl | rfl <;> cases b <;> decide
  have h1 := List.all_eq_true.mp (List.all_eq_true.mp nameS_ok (i, b) (mem hi)) (j, c) (mem hj)
  rw [decide_eq_true h] at h1
  have h2 : decide ((i, b) = (j, c)) = true := by simpa using h1
  exact (Prod.mk.inj (of_decide_eq_true h2)).1
theorem c_buildU (w : World) (l : Addr) (i : Nat) (b : Bool) (lv ev : Value) (hi : LetAt i lv) (he : ExtAt b ev) (news : Led) (hpre : (l, tup2 lv ev) ∈ news) : Cl w 1 85 [.ref l] [] news (Gives news fun t => .str (nameS i b) t) := by
  rcases hi with ⟨rfl, rfl⟩ | ⟨h0, h7, t, rfl⟩
  · rcases he with ⟨rfl, rfl⟩ | ⟨rfl, u, rfl⟩
    · intro mean mg mb dp un gd cn cs a ccd cl outer A₀ base h₀ L m s Q E B F X N T hk hd hu hret
      exact c_build3 w l news hpre mean mg mb dp un gd cn cs a ccd cl outer A₀ base h₀ L m s Q E B F X N T hk hd hu fun t _ h' tk' F' N' => hret t h' tk' F' N'
    · exact c_build1 w l (Str.ofString "x") u news hpre (by decide)
  · rcases he with ⟨rfl, rfl⟩ | ⟨rfl, u, rfl⟩
    · intro mean mg mb dp un gd cn cs a ccd cl outer A₀ base h₀ L m s Q E B F X N T hk hd hu hret
      exact c_build2 w l (letS i) t news hpre mean mg mb dp un gd cn cs a ccd cl outer A₀ base h₀ L m s Q E B F X N T hk hd hu fun _ h' tk' F' N' => hret t h' tk' F' N'
    · have := c_build w l (letS i) (Str.ofString "x") t u news hpre (by rw [letS_len h7]; k_extra "om") (by decide)
      rw [letS_dot h7] at this
      exact this
/-! the law's loop -/
structure LawZ where
  fv : List Value
  fn : Nat
  fr : List Int
  pv : List Value
  pn : Nat
  ps : List Int
  nv : List Value
  nn : Nat
  nms : List Str
  wv : List Value
  wn : Nat
  S : List Int
  tt : Led
noncomputable def nmOf (ps : List Int) (nms : List Str) (p : Int) : Str := nms.getD (ps.idxOf p) (Str.ofString "")
structure LawK (B0 : Led) (af ap an aw : Addr) (k : Nat) (z : LawZ) : Prop where
  fi : IntsAre z.fv z.fr
  fl : z.fr.length + k = 32
  fb : ∀ x ∈ z.fr, 0 ≤ x ∧ x < 32
  fnd : z.fr.Nodup
  pi : IntsAre z.pv z.ps
  pl : z.ps.length = k
  pnd : z.ps.Nodup
  pb : ∀ p ∈ z.ps, 0 ≤ p ∧ p < 32
  pf : ∀ p ∈ z.ps, p ∉ z.fr
  sp : z.S.Perm z.ps
  ss : z.S.Pairwise fun x y => x < y
  ml : z.nms.length = k
  mn : ∀ (i : Nat) (x : Str), z.nms[i]? = some x → ∃ b, x = nameS i b
  lt : All2 (LightAt (z.tt ++ B0) (nmOf z.ps z.nms)) z.wv z.S
  nl : z.nv.length = k
  na : ∀ (i : Nat) (p : Int), z.ps[i]? = some p → ∃ a t x tx, z.nv[i]? = some (Value.ref a) ∧ (a, tup2 (.int p t) (.str x tx)) ∈ z.tt ++ B0 ∧ z.nms[i]? = some x
  off : ∀ p ∈ z.tt, @LT.lt Nat _ aw p.1
/-! floats that are told -/
noncomputable def noInf4 : Bool := (List.range 4).all fun s => !(Float64.isInf (frac (s + 1) 4))
theorem noInf4_ok : noInf4 = true := by decide +kernel
theorem noInf_4 {s : Int} (hs : 1 ≤ s) (hs' : s ≤ 4) : Float64.isInf (frac s 4) = false := by
  obtain ⟨k, rfl⟩ : ∃ k : Nat, s = k + 1 := ⟨(s - 1).toNat, by k_extra "om"⟩
  have := all_range noInf4_ok (show k < 4 by k_extra "om")
  simpa using this
theorem let_at (t1 t2 t3 t4 t5 t6 : Tok) {k : Nat} (h : k < 7) : ∃ lv, [Value.none, Value.str (Str.ofString "f") t1, Value.str (Str.ofString "b") t2, Value.str (Str.ofString "g") t3, Value.str (Str.ofString "d") t4, Value.str (Str.ofString "a") t5, Value.str (Str.ofString "e") t6][k]? = some lv ∧ LetAt k lv := by
  rcases seven h with rfl | rfl | rfl | rfl | rfl | rfl | rfl
  · exact ⟨_, rfl, .inl ⟨rfl, rfl⟩⟩
  all_goals exact ⟨_, rfl, .inr ⟨by k_extra "om", by k_extra "om", _, rfl⟩⟩
theorem ext_at (t : Tok) {y : Int} : ∃ ev, [Value.none, Value.str (Str.ofString "x") t][(y.fmod 2).toNat]? = some ev ∧ ExtAt (decide (y.fmod 2 = 1)) ev := by
  have h0 := Int.fmod_nonneg_of_pos y (show (0 : Int) < 2 by decide)
  have h1 := Int.fmod_lt_of_pos y (show (0 : Int) < 2 by decide)
  have h : y.fmod 2 = 0 ∨ y.fmod 2 = 1 := by k_extra "om"
  rcases h with h | h
  · rw [h]; exact ⟨_, rfl, .inl ⟨rfl, rfl⟩⟩
  · rw [h]; exact ⟨_, rfl, .inr ⟨rfl, _, rfl⟩⟩
theorem dot_at (t u : Tok) {y : Int} {l : Str} (hl : l ++ Str.ofString "" = l) : ∃ e tk, [Value.str (Str.ofString "") t, Value.str (Str.ofString ".x") u][(y.fmod 2).toNat]? = some (Value.str e tk) ∧ l ++ e = (if decide (y.fmod 2 = 1) = true then l ++ Str.ofString ".x" else l) ∧ e.length ≤ 2 := by
  have h0 := Int.fmod_nonneg_of_pos y (show (0 : Int) < 2 by decide)
  have h1 := Int.fmod_lt_of_pos y (show (0 : Int) < 2 by decide)
  have h : y.fmod 2 = 0 ∨ y.fmod 2 = 1 := by k_extra "om"
  rcases h with h | h
  · rw [h]; exact ⟨_, _, rfl, by rw [hl]; rfl, by decide⟩
  · rw [h]; exact ⟨_, _, rfl, rfl, by decide⟩
section
variable {M : Model} {prog : Program} {w : World} {A : Around} {E : Value → Shared → Prop} {s : Shared} {h₀ : Heap} {L : Addr} {m : Str → Option Value} {news : Led}
theorem isSame_float {x y : UInt64} {u v : Tok} {Q : Bool → Shared → Prop} (hu : @Ne Nat u 0) (hv : @Ne Nat v 0) (hb : NoneBooked s.heap) (hq : ∀ b, Q b s) : wpAny M A (isSame (.float x u) (.float y v)) Q E s := by
  show wpAny M A (isSame.created (x == y && !Float64.isNaN x) u v) Q E s
  unfold isSame.created
  have h0 : (u == 0 || v == 0) = false := by
    rw [Bool.or_eq_false_iff]
    exact ⟨beq_eq_false_iff_ne.mpr hu, beq_eq_false_iff_ne.mpr hv⟩
  refine wpAny_ite ?_
  split
  · rename_i h; rw [h0] at h; exact absurd h Bool.false_ne_true
  refine wpAny_ite ?_
  split
  · exact wpAny_pure (hq _)
  refine wpAny_ite ?_
  split
  · exact wpAny_pure (hq _)
  refine wpAny_bind (wpAny_sharingNotTold_none hb ?_)
  first | rw [if_neg Bool.false_ne_true] | simp only [Bool.false_eq_true, if_false]
  refine wpAny_bind (wpAny_sharingNotTold_none hb ?_)
  first | rw [if_neg Bool.false_ne_true] | simp only [Bool.false_eq_true, if_false]
  exact wpAny_bind (wpAny_rule (wpAny_bind (wpAny_askSetting (wpAny_pure (hq _)))))
theorem eqat_float {x : UInt64} {u v : Tok} (hx : fEq x x = true) (hu : @Ne Nat u 0) (hv : @Ne Nat v 0) (hb : NoneBooked s.heap) : SeqAt.EqAt A s (.float x u) (.float x v) true := by
  intro prog w E Q hq
  unfold eqBool
  refine wpAny_holding ?_
  show wpAny _ _ (if (Value.float x u == Value.float x v) = true then _ else _) Q E s
  by_cases hab : (Value.float x u == Value.float x v) = true
  · rw [if_pos hab]
    exact wpAny_bind (wpAny_rule (wpAny_pure hq))
  · rw [if_neg hab]
    refine wpAny_bind (isSame_float hu hv hb fun b => ?_)
    cases b with
    | true => exact wpAny_pure hq
    | false =>
      refine wpAny_bind (AutoFloatOps.eq_0 (wpAny_truthy_bool ?_))
      have : (Float64.cmp x x == some Ordering.eq) = true := hx
      rw [this]; exact hq
/-- two tuples of the same three floats are not unequal -/
theorem my_ne3 {a b : Addr} {x y z : UInt64} {t1 t2 t3 u1 u2 u3 : Tok} {Q : Value → Shared → Prop} (N : News h₀ L s.heap news) (ha : (a, tup3 (.float x t1) (.float y t2) (.float z t3)) ∈ news) (hb : (b, tup3 (.float x u1) (.float y u2) (.float z u3)) ∈ news)
    (n1 : @Ne Nat t1 0) (n2 : @Ne Nat t2 0) (n3 : @Ne Nat t3 0) (m1 : @Ne Nat u1 0) (m2 : @Ne Nat u2 0) (m3 : @Ne Nat u3 0) (hx : fEq x x = true) (hy : fEq y y = true) (hz : fEq z z = true) (hnb : NoneBooked s.heap) (hu : A.units < cLine)
    (h : Q (.bool false) s) : wpAny (model prog w) A (compareOp .NotEq (.ref a) (.ref b)) Q E s := by
  refine SeqAt.RcNeAt.tuples (items := #[.float x t1, .float y t2, .float z t3]) (items2 := #[.float x u1, .float y u2, .float z u3]) (e := fun _ => true) ⟨_, (N _ ha).1, rfl, _, rfl⟩ ⟨_, (N _ hb).1, rfl, _, rfl⟩ hu (fun j h1 h2 => ?_) prog w E Q ?_
  · match j, h1 with
    | 0, _ => exact eqat_float hx n1 m1 hnb
    | 1, _ => exact eqat_float hy n2 m2 hnb
    | 2, _ => exact eqat_float hz n3 m3 hnb
  · exact h
end
noncomputable def toldRefl : Bool := ((List.range 32).all fun p => frc (frac p 32) fun x => fEq x x) && (List.range 4).all fun s => (List.range 4).all fun v =>
  frc (frac ((v + 1) * (8 - (s + 1))) 32) fun x => frc (if ((v : Int) + 1) * (8 - (s + 1)) ≤ 16 then frac (s + 1) (8 - (s + 1)) else frac ((v + 1) * (s + 1)) (32 - 8 * (v + 1) + (v + 1) * (s + 1))) fun z => fEq x x && fEq z z
theorem toldRefl_ok : toldRefl = true := by decide +kernel
theorem told_refl {p s v : Int} (hp : 0 ≤ p) (hp' : p < 32) (hs : 1 ≤ s) (hs' : s ≤ 4) (hv : 1 ≤ v) (hv' : v ≤ 4) : fEq (toldF p s v).1 (toldF p s v).1 = true ∧ fEq (toldF p s v).2.1 (toldF p s v).2.1 = true ∧ fEq (toldF p s v).2.2 (toldF p s v).2.2 = true := by
  obtain ⟨i, rfl⟩ : ∃ k : Nat, p = k := ⟨p.toNat, by k_extra "om"⟩
  obtain ⟨j, rfl⟩ : ∃ k : Nat, s = k + 1 := ⟨(s - 1).toNat, by k_extra "om"⟩
  obtain ⟨k, rfl⟩ : ∃ k : Nat, v = k + 1 := ⟨(v - 1).toNat, by k_extra "om"⟩
  have h := toldRefl_ok
  unfold toldRefl at h
  rw [Bool.and_eq_true] at h
  have h1 := all_range h.1 (show i < 32 by k_extra "om")
  have h2 := all_range (all_range h.2 (show j < 4 by k_extra "om")) (show k < 4 by k_extra "om")
  simp only [frc_eq, Bool.and_eq_true] at h1 h2
  exact ⟨h1, h2.1, h2.2⟩
theorem noneBooked {P : Params} {h : Heap} (X : (hd.heap_39 P).In h) : NoneBooked h :=
  ⟨h.nsMap cStatics, .of_isNs (isNs_of_in X (by kernel_rfl)), nsMap_none_of_in X (by kernel_rfl) (by kernel_rfl)⟩
theorem news_drop2 {h₀ h : Heap} {L : Addr} {a b : Addr × Obj} {r : Led} (N : News h₀ L h (a :: b :: r)) : News h₀ L h (a :: r) := fun p hp => N p (by
  rcases List.mem_cons.mp hp with rfl | hp
  · exact .head _
  · exact .tail _ (.tail _ hp))
theorem All2.impM {α β : Type} {R R' : α → β → Prop} {l : List α} {r : List β} (h : All2 R l r) : (∀ a b, b ∈ r → R a b → R' a b) → All2 R' l r := by
  induction h with
  | nil => exact fun _ => .nil
  | cons hab _ ih => exact fun hi => .cons (hi _ _ (List.mem_cons_self ..) hab) (ih fun a b hb => hi a b (List.mem_cons_of_mem _ hb))
theorem sorted_insI {ts : List Int} {x : Int} {r : Nat} (h : ts.Pairwise fun a b => a < b) (h1 : ∀ (i : Nat) (k : Int), i < r → ts[i]? = some k → k < x) (h2 : ∀ (i : Nat) (k : Int), r ≤ i → ts[i]? = some k → x < k) : (ts.take r ++ x :: ts.drop r).Pairwise fun a b => a < b := by
  rw [List.pairwise_append, List.pairwise_cons]
  refine ⟨h.take, ⟨fun b hb => ?_, h.drop⟩, fun a ha b hb => ?_⟩
  · obtain ⟨i, hi⟩ := getq hb
    rw [List.getElem?_drop] at hi
    exact h2 _ b (by k_extra "om") hi
  · obtain ⟨i, hi⟩ := getq ha
    rw [List.getElem?_take] at hi
    split at hi
    · have ax := h1 i a (by assumption) hi
      rcases List.mem_cons.mp hb with rfl | hb
      · exact ax
      · obtain ⟨j, hj⟩ := getq hb
        rw [List.getElem?_drop] at hj
        exact pw_at h hi hj (by k_extra "om")
    · cases hi
theorem nmOf_old {ps : List Int} {nms : List Str} {p q : Int} {x : Str} (hl : nms.length = ps.length) (hp : p ∈ ps) : nmOf (ps ++ [q]) (nms ++ [x]) p = nmOf ps nms p := by
  unfold nmOf
  have h1 := List.idxOf_lt_length_iff.mpr hp
  rw [List.idxOf_append, if_pos hp, List.getD_eq_getElem?_getD, List.getD_eq_getElem?_getD, List.getElem?_append_left (by k_extra "om")]
theorem nmOf_new {ps : List Int} {nms : List Str} {q : Int} {x : Str} (hl : nms.length = ps.length) (hq : q ∉ ps) : nmOf (ps ++ [q]) (nms ++ [x]) q = x := by
  unfold nmOf
  rw [List.idxOf_append, if_neg hq, List.getD_eq_getElem?_getD, List.getElem?_append_right (by k_extra "om"), hl]
  simp
theorem lawK_step {B0 : Led} {af ap an aw : Addr} {z : LawZ} (K : LawK B0 af ap an aw z.ps.length z) {j r : Nat} {pl : Int} {tpl t4 t10 t11 : Tok} {dw dt : Addr} {b : Bool} (hpat : z.fr[j]? = some pl) (hr : r ≤ z.S.length)
    (hr1 : ∀ (i : Nat) (p : Int), i < r → z.S[i]? = some p → p < pl) (hr2 : ∀ (i : Nat) (p : Int), r ≤ i → z.S[i]? = some p → pl < p) (hdw : @LT.lt Nat _ aw dw) (hdt : @LT.lt Nat _ aw dt) (h7 : z.ps.length < 32) :
    LawK B0 af ap an aw (z.ps.length + 1) ⟨z.fv.take j ++ z.fv.drop (j + 1), z.fn + 1, z.fr.take j ++ z.fr.drop (j + 1), z.pv ++ [Value.int pl tpl], z.pn + 1, z.ps ++ [pl], z.nv ++ [Value.ref dt], z.nn + 1, z.nms ++ [nameS z.ps.length b],
      z.wv.take r ++ Value.ref dw :: z.wv.drop r, z.wn + 1, z.S.take r ++ pl :: z.S.drop r, (dw, tup2 (.float (frac pl 32) t4) (.str (nameS z.ps.length b) t10)) :: (dt, tup2 (.int pl tpl) (.str (nameS z.ps.length b) t11)) :: z.tt⟩ := by
  obtain ⟨fi, fl, fb, fnd, pi, _, pnd, pb, pf, sp, ss, ml, mn, lt, nl, na, off⟩ := K
  have hjl := (List.getElem?_eq_some_iff.mp hpat).1
  have hplm := List.mem_of_getElem? hpat
  have hpln : pl ∉ z.ps := fun h => pf pl h hplm
  have hfe := filter_erase fnd hpat
  have hsub : ∀ x ∈ z.fr.take j ++ z.fr.drop (j + 1), x ∈ z.fr ∧ x ≠ pl := by
    intro x hx
    rw [← hfe] at hx
    obtain ⟨h1, h2⟩ := List.mem_filter.mp hx
    exact ⟨h1, by simpa using h2⟩
  refine ⟨(fi.take j).append (fi.drop (j + 1)), ?_, fun x hx => fb x (hsub x hx).1, ?_, pi.append (IntsAre.cons _ _ IntsAre.nil), by simp, ?_, ?_, ?_, (perm_ins r).trans (sp.append_right [pl]), sorted_insI ss hr1 hr2, by simp [ml], ?_, ?_, by simp [nl], ?_, ?_⟩
  · show (z.fr.take j ++ z.fr.drop (j + 1)).length + (z.ps.length + 1) = 32
    rw [era_len rfl hjl]; k_extra "om"
  · show (z.fr.take j ++ z.fr.drop (j + 1)).Nodup
    rw [← hfe]; exact fnd.filter _
  · show (z.ps ++ [pl]).Nodup
    rw [List.nodup_append]
    refine ⟨pnd, by simp, fun a ha b hb => ?_⟩
    rw [List.mem_singleton.mp hb]
    exact fun e => hpln (e ▸ ha)
  · intro p hp
    rcases List.mem_append.mp hp with hp | hp
    · exact pb p hp
    · rw [List.mem_singleton.mp hp]; exact fb pl hplm
  · intro p hp h
    rcases List.mem_append.mp hp with hp | hp
    · exact pf p hp (hsub p h).1
    · rw [List.mem_singleton.mp hp] at h; exact (hsub pl h).2 rfl
  · intro i x hx
    dsimp only at hx
    by_cases hi : i < z.nms.length
    · rw [List.getElem?_append_left hi] at hx; exact mn i x hx
    · rw [List.getElem?_append_right (by k_extra "om")] at hx
      have : i - z.nms.length = 0 := by
        have := (List.getElem?_eq_some_iff.mp hx).1
        simpa using this
      rw [this] at hx
      cases hx
      exact ⟨b, by rw [show i = z.ps.length from by k_extra "om"]⟩
  · refine All2.insert (lt.impM fun a p hp h => ?_) r ⟨dw, t4, t10, rfl, ?_⟩
    · obtain ⟨a, t, t', h1, h2⟩ := h
      exact ⟨a, t, t', h1, by rw [nmOf_old ml (sp.subset hp)]; exact .tail _ (.tail _ h2)⟩
    · rw [nmOf_new ml hpln]; exact .head _
  · intro i p hp
    dsimp only at hp ⊢
    by_cases hi : i < z.ps.length
    · rw [List.getElem?_append_left hi] at hp
      obtain ⟨a, t, x, tx, h1, h2, h3⟩ := na i p hp
      exact ⟨a, t, x, tx, by rw [List.getElem?_append_left (by k_extra "om")]; exact h1, .tail _ (.tail _ h2), by rw [List.getElem?_append_left (by k_extra "om")]; exact h3⟩
    · have hi2 : i = z.ps.length := by
        have := (List.getElem?_eq_some_iff.mp hp).1
        simp at this; k_extra "om"
      subst hi2
      rw [List.getElem?_append_right (Nat.le_refl _), Nat.sub_self] at hp
      cases hp
      refine ⟨dt, tpl, nameS z.ps.length b, t11, ?_, .tail _ (.head _), ?_⟩
      · rw [List.getElem?_append_right (by k_extra "om"), nl, Nat.sub_self]; rfl
      · rw [List.getElem?_append_right (by k_extra "om"), ml, Nat.sub_self]; rfl
  · intro p hp
    rcases List.mem_cons.mp hp with rfl | hp
    · exact hdw
    · rcases List.mem_cons.mp hp with rfl | hp
      · exact hdt
      · exact off p hp
end

/-! part LawStep2 -/
section
open PySem PySem.W PyProof.Rows PySem.Spec PySem.Calls
set_option Elab.async false
set_option maxRecDepth 100000
set_option maxHeartbeats 4000000

theorem reset_LawStep2 : True := by
  w_top off
  trivial
open PyProof.Rows.LCg PyProof.Rows.LCt PyProof.Rows.LCp
theorem words_LawStep2 : True := by
  k_with_none
  k_with "om" => (first | (with_reducible first | assumption | exact Int.natCast_nonneg _ | exact Nat.le_trans (by assumption) (by decide) | exact Nat.lt_of_le_of_lt (by assumption) (by decide) | exact lt_lit (by assumption) (by decide) | exact le_lit (by assumption) (by decide) | exact le_flip (by assumption) (by decide) | exact lt_lit0 (by assumption) (by decide) | exact nn0) | decide | omega)
  trivial
section
variable {prog : Program} {w : World} {A : Around} {E : Value → Shared → Prop} {s : Shared} {h₀ : Heap} {L : Addr} {m : Str → Option Value} {env : Env}
theorem compP {elt : Expr} {x x₂ : Str} {scope : Scope} {cl : List (Str × Addr)} {S : Led → Prop} {P : Nat → Value → Prop} {Fin : List Value → Led → Prop} {news : Led} (J : Nat → List Value → Led → Prop) {n : Nat} (hJ0 : J 0 [] news)
    (turn : ∀ i v ys nw, i < n → P i v → J i ys nw → ∃ (t : Addr) (ot : Obj) (v₁ v₂ : Value) (nt : Nat), v = .ref t ∧ (t, ot) ∈ nw ∧ ot.cls = .type "tuple" ∧ ot.data = .seq #[v₁, v₂] nt ∧
      ∀ I oI C oC D m₂ h tk (E' : Value → Shared → Prop), NsObj oC m₂ → m₂ x = some v₁ → m₂ x₂ = some v₂ → Fr h₀ L h m → News h₀ L h ((I, oI) :: (C, oC) :: (D, lst ys) :: nw) → Off3 I C D nw → ((@Ne Nat I C) ∧ (@Ne Nat I D) ∧ (@Ne Nat C D)) →
      wpAny (model prog w) A (eval elt (compEnvC scope cl C env)) (CompEnd h₀ L m { s with heap := h, toks := tk } I oI C oC D (lst ys) S (fun y nw' => J (i + 1) (ys ++ [y]) nw')) E' { s with heap := h, toks := tk })
    (fin : ∀ ys nw, J n ys nw → Fin ys nw) : CompRestP prog w A h₀ L m env elt x x₂ scope cl s S P Fin n 0 [] news := by
  have key : ∀ (k i : Nat) (ys : List Value) (nw : Led), i + k = n → J i ys nw → CompRestP prog w A h₀ L m env elt x x₂ scope cl s S P Fin k i ys nw := by
    intro k
    induction k with
    | zero => intro i ys nw hi hJ; exact fin ys nw (by rw [← hi]; exact hJ)
    | succ k ih =>
      intro i ys nw hi hJ v hP
      obtain ⟨t, ot, v₁, v₂, nt, h1, h2, h3, h4, h5⟩ := turn i v ys nw (by k_extra "om") hP hJ
      refine ⟨t, ot, v₁, v₂, nt, h1, h2, h3, h4, fun I oI C oC D m₂ h tk E' hoC hx hx2 F N off ne => ?_⟩
      exact wpAny_mono (h5 I oI C oC D m₂ h tk E' hoC hx hx2 F N off ne) (fun y s₂ h₂ => CompEnd.mono h₂ fun y n hj => ih (i + 1) _ n (by k_extra "om") hj) fun _ _ e => e
  exact key n 0 [] news (by k_extra "om") hJ0
/-- [name for key, name in a list of pairs] -/
theorem comp_namesP {x x₂ : Str} {pe : Pos} {scope : Scope} {cl : List (Str × Addr)} {Q : Value → Shared → Prop} {ra : Addr} {rv : List Value} {rn : Nat} {ss : List Str} {news : Led} (hh : A.handled = none) (F₀ : Fr h₀ L s.heap m) (N₀ : News h₀ L s.heap news)
    (hrm : (ra, listOf rv.toArray rn) ∈ news) (hl : rv.length = ss.length) (hpl : rv.length ≤ 1000) (hkind : scope.kind = .function) (hx : scope.names.lookup x₂ = some .local) (hxd : (x₂ == ("__debug__" : Str)) = false)
    (hv : ∀ (i : Nat) (k : Str), ss[i]? = some k → ∃ t v₁ tk, rv[i]? = some (Value.ref t) ∧ (t, tup2 v₁ (.str k tk)) ∈ news)
    (fin : ∀ D ys h tk, Fr h₀ L h m → News h₀ L h ((D, lst ys) :: news) → (∀ p ∈ news, p.1 ≠ D) → All2 StrAt ys ss → Q (.ref D) { s with heap := h, toks := tk }) :
    SrcLP prog w A h₀ L m env (.Name x₂ pe) x x₂ scope cl (fun s₂ => FinE h₀ L m s₂ Q) (.ref ra) s := by
  refine SrcLP.ledger hh F₀ N₀ hrm (by rw [List.size_toArray]; simp only [sizeLine]; k_extra "om") fun g' => ?_
  refine compP (fun i ys nw => nw = news ∧ All2 StrAt ys (ss.take i)) ⟨rfl, .nil⟩ ?_ ?_
  · rintro i v ys nw hi hP ⟨rfl, hys⟩
    have hi2 : i < ss.length := by rw [List.size_toArray] at hi; k_extra "om"
    obtain ⟨t, v₁, tk, h1, h2⟩ := hv i _ (List.getElem?_eq_getElem hi2)
    have e : rv[i]? = some v := by simpa using hP
    rw [e] at h1
    refine ⟨t, _, v₁, _, _, Option.some.inj h1, h2, rfl, rfl, fun I oI C oC D m₂ h tk' E' hoC hxv hxv2 F N off ne => ?_⟩
    refine comp_name hoC hxv2 N (.tail _ (.head _)) hkind hx hxd ?_
    refine CompEnd.intro F N nw (fun p hp => hp) off (.inr ⟨_, hrm, rfl, _, rfl⟩) ⟨rfl, ?_⟩
    rw [List.take_add_one, List.getElem?_eq_getElem hi2]
    exact hys.append (.one ⟨_, rfl⟩)
  · rintro ys nw ⟨rfl, hys⟩ D h tk F N off
    have e : ss.take rv.toArray.size = ss := List.take_of_length_le (by rw [List.size_toArray]; k_extra "om")
    rw [e] at hys
    exact fin D ys h tk F N (Off1.mem off) hys
/-- two lists of the same texts are not unequal -/
theorem my_neStrs {a b : Addr} {xs ys : List Value} {n1 n2 : Nat} {ss : List Str} {news : Led} {Q : Value → Shared → Prop} (N : News h₀ L s.heap news) (ha : (a, listOf xs.toArray n1) ∈ news) (hb : (b, listOf ys.toArray n2) ∈ news) (hx : All2 StrAt xs ss) (hy : All2 StrAt ys ss) (hu : A.units < cLine)
    (h : Q (.bool false) s) : wpAny (model prog w) A (compareOp .NotEq (.ref a) (.ref b)) Q E s := by
  have h1 := hx.length
  have h2 := hy.length
  refine SeqAt.RcNeAt.lists (items := xs.toArray) (items2 := ys.toArray) (e := fun _ => true) (N.isList ha) (N.isList hb) (by simp [h1, h2]) hu (fun j j1 j2 => ?_) prog w E Q ?_
  · intro prog w E Q hq
    have l1 : j < xs.length := by simpa using j1
    have l2 : j < ys.length := by simpa using j2
    obtain ⟨k, e1, t, e2⟩ := hx.get' (List.getElem?_eq_getElem l1)
    obtain ⟨v, e3, u, e4⟩ := hy.get e1
    rw [List.getElem?_eq_getElem l2] at e3
    have e5 := Option.some.inj e3
    simp only [List.getElem_toArray]
    rw [e2, e5, e4]
    refine wpAny_eqBool_str ?_
    rw [decide_eq_true rfl]; exact hq
  · have e : (!(List.range xs.toArray.size).all fun _ => true) = false := by simp
    rw [e]; exact h
end
theorem sorted_idx {ps S : List Int} {p : List Nat} (hp : p.Perm (List.range ps.length)) (hs : (p.map fun i => ps.getD i 0).Pairwise fun x y => x < y) (sp : S.Perm ps) (ss : S.Pairwise fun x y => x < y) : (p.map fun i => ps.getD i 0) = S := by
  refine sorted_unique (((hp.map _).trans ?_).trans sp.symm) (hs.imp fun h => Int.le_of_lt h) (ss.imp fun h => Int.le_of_lt h)
  have e : ((List.range ps.length).map fun i => ps.getD i 0) = ps := by
    refine List.ext_getElem? fun i => ?_
    rw [List.getElem?_map]
    by_cases h : i < ps.length
    · rw [List.getElem?_range h, List.getElem?_eq_getElem h, Option.map_some, List.getD_eq_getElem?_getD, List.getElem?_eq_getElem h]; rfl
    · rw [List.getElem?_eq_none (l := ps) (by k_extra "om"), List.getElem?_eq_none (l := List.range ps.length) (by simp; k_extra "om")]; rfl
  rw [e]
theorem nmOf_at {ps : List Int} {nms : List Str} {i : Nat} {q : Int} {x : Str} (hn : ps.Nodup) (hq : ps[i]? = some q) (hx : nms[i]? = some x) : nmOf ps nms q = x := by
  unfold nmOf
  rw [idx_of_get hn hq, List.getD_eq_getElem?_getD, hx]; rfl
noncomputable def cutF (y : Int) : Int := (y.fdiv 1536).fmod 32
theorem cutF_bd (y : Int) : 0 ≤ cutF y ∧ cutF y < 32 := ⟨Int.fmod_nonneg_of_pos _ (by decide), Int.fmod_lt_of_pos _ (by decide)⟩
theorem nm_inj {ps S : List Int} {nms : List Str} (hn : ps.Nodup) (ml : nms.length = ps.length) (mn : ∀ (i : Nat) (x : Str), nms[i]? = some x → ∃ b, x = nameS i b) (h7 : ps.length ≤ 7) (sp : S.Perm ps) : ∀ p ∈ S, ∀ q ∈ S, nmOf ps nms p = nmOf ps nms q → p = q := by
  intro p hp q hq h
  obtain ⟨i, hi⟩ := getq (sp.subset hp)
  obtain ⟨j, hj⟩ := getq (sp.subset hq)
  have hil := (List.getElem?_eq_some_iff.mp hi).1
  have hjl := (List.getElem?_eq_some_iff.mp hj).1
  have e1 : nms[i]? = some (nms[i]'(by k_extra "om")) := List.getElem?_eq_getElem _
  have e2 : nms[j]? = some (nms[j]'(by k_extra "om")) := List.getElem?_eq_getElem _
  rw [nmOf_at hn hi e1, nmOf_at hn hj e2] at h
  obtain ⟨b, hb⟩ := mn i _ e1
  obtain ⟨c, hc⟩ := mn j _ e2
  rw [hb, hc] at h
  have := nameS_inj (by k_extra "om") (by k_extra "om") h
  subst this
  rw [hi] at hj
  exact Option.some.inj hj
theorem tab_101 {tab : Led} (h : TabOk tab) : ∃ o ps, (101, o) ∈ tab ∧ o = tabObj ps := by
  rcases h with h | ⟨c1, o1, v1, t1, c2, o2, v2, t2, h, _⟩
  · exact ⟨_, _, h, rfl⟩
  · exact ⟨_, _, h, rfl⟩
theorem tri_len {S ks : List Int} (hn : S.Nodup) (hl : ks.length + 3 = S.length) {k : Nat} (hk : k ≤ ks.length) : (triS S ks k).length ≤ 3 := by
  have hinv := fans_inv hn hl k hk
  unfold triS
  by_cases h : k < ks.length
  · rw [stepT_lt h]; exact Nat.le_refl _
  · rw [stepT_ge h]
    show (fansSt S ks k).1.length ≤ 3
    have := hinv.len
    k_extra "om"
theorem tri_total {S ks : List Int} (hn : S.Nodup) (hl : ks.length + 3 = S.length) : ∀ n, n ≤ ks.length + 1 → ((List.range n).flatMap (triS S ks)).length ≤ 3 * n
  | 0, _ => Nat.le_refl _
  | n + 1, h => by
    rw [List.range_succ, List.flatMap_append, List.length_append]
    have h1 := tri_total hn hl n (by k_extra "om")
    have h2 := tri_len hn hl (k := n) (by k_extra "om")
    simp only [List.flatMap_cons, List.flatMap_nil, List.append_nil]
    k_extra "om"
theorem cut_len3 {d l : Nat} (h : l = d) (h3 : 3 ≤ d) : min ((d : Int) - 3).toNat d + 3 = l := by
  subst h
  rw [show ((l : Int) - 3).toNat = l - 3 from Int.toNat_sub l 3, Nat.min_eq_left (Nat.sub_le l 3), Nat.sub_add_cancel h3]
def IsStrS (x : Str) (s : Shared) (h : Heap) (v : Value) (s₂ : Shared) : Prop := ∃ t tk, v = Value.str x t ∧ s₂ = { s with heap := h, toks := tk }
end

/-! part Law -/
section
open PySem PySem.W PyProof.Rows PySem.Spec PySem.Calls
set_option Elab.async false
set_option maxRecDepth 100000
set_option maxHeartbeats 100000000

set_option maxHeartbeats 100000000

local macro_rules | `(tactic| walk_at "no such key") => `(tactic| fail)
theorem reset_Law : True := by
  w_top off
  trivial
open PyProof.Rows.LCg PyProof.Rows.LCt PyProof.Rows.LCp

theorem words_LawA : True := by
  k_with_none
  k_with "fold" => ((with_reducible show wpAny _ _ (execs (_ :: _) _) _ _ _); (try k_gentoks); (refine foldM (by with_reducible assumption) ?_); intro _ _; (with_reducible refine wpAny_execs_cons ?_); (try dsimp only); (refine foldQ ?_); intro _)
  k_with "nm" => first | assumption | exact List.Mem.head _ | (refine List.Mem.tail _ ?_; news_mem) | (refine List.mem_append_right _ ?_; news_mem)
  k_with "km" => first | assumption | (refine List.mem_append_right _ ?_; k_mem)
  k_with "ka" => first | assumption | exact Under.ne (by assumption) (by omega)
  k_with "ne" => ((try dsimp only); first | assumption | (refine Ne.symm ?_; assumption) | exact Nat.ne_of_gt (by assumption) | exact Nat.ne_of_lt (by assumption) | exact Nat.ne_of_lt (Nat.lt_succ_self _) | exact Nat.ne_of_gt (Nat.lt_succ_self _) | exact Nat.ne_of_lt (Nat.lt_succ_of_lt (Nat.lt_succ_self _)) | exact Nat.ne_of_gt (Nat.lt_succ_of_lt (Nat.lt_succ_self _)))
  k_with "room" => ((try dsimp +zetaDelta only); simp only [depth_under_make, depth_under_kw, depth_in1, depth_deeper, depth_caller, recursionLimit]; first | decide | exact room3 (by assumption) (by decide) | exact room1 (by assumption) | omega)
  k_with "units" => ((try dsimp +zetaDelta only); simp only [units_in1, units_deeper, Around.mark_units, units_caller, cLine]; first | decide | exact room3 (by assumption) (by decide) | exact room1 (by assumption) | omega)
  k_with "om" => (first | (with_reducible first | assumption | exact Int.natCast_nonneg _ | exact Nat.le_trans (by assumption) (by decide) | exact Nat.lt_of_le_of_lt (by assumption) (by decide) | exact lt_lit (by assumption) (by decide) | exact le_lit (by assumption) (by decide) | exact le_flip (by assumption) (by decide) | exact lt_lit0 (by assumption) (by decide) | exact nn0) | decide | omega)
  k_with "u1" => ((with_reducible show wpAny _ _ (call (Value.builtin "len") [Value.ref _]) _ _ _); refine my_len (by is_list) (by k_extra "om") ?_)
  k_with "u2" => ((with_reducible show wpAny _ _ (binaryOp Operator.FloorDiv (Value.int _ _) (Value.int _ _)) _ _ _); refine PyProof.Rows.floordiv_int (by decide) ?_; (try dsimp only))
  k_with "u3" => ((with_reducible show wpAny _ _ (binaryOp Operator.Mod (Value.int _ _) (Value.int _ _)) _ _ _); refine PyProof.Rows.mod_int (by first | decide | k_extra "om") ?_; (try dsimp only))
  trivial
theorem law_walk : PySem.Challenge.rw_re0092_01.Holds := by
  refine hd ?_
  k_go0
  all_goals try k_fold
  try (refine foldE ?_; intro _ _)
  repeat' ((fail_if_success (with_reducible show wpAny _ _ (exec (Stmt.Assign _ (Expr.ListComp _ _ _ _) _) _) _ _ _)); (fail_if_success (with_reducible show wpAny _ _ (exec (Stmt.For _ _ _ _ _) _) _ _ _)); first | (k_unfold; (try dsimp only)) | (k_end; wrow_close) | k_extra "fold" | k_extra "u3" | k_extra "u2" | k_extra "u1" | walk1 | (dsimp only; (first | k_extra "fold" | k_extra "u3" | k_extra "u2" | k_extra "u1" | walk1)) | (leave1; walk_say "STEP leave1"; try dsimp only) | fail "no step")
  rename_i ns y1 y2 y3 y4 y5 y6 y7 sa svs y8 hSL y9 y10 y11 hSI y12 hlen y13 y14 hpI tkI oC dC y15 X' T' B' F' N' l0 z1 z2 z3 z4 z5
  rename Shared => s1
  clear y1 y2 y3 y4 y5 y6 y7 y8 y9 y10 y11 y12 y13 y14 y15
  have dC : oC.data = .cell none := dC
  have hslen := hSI.length
  have hn63 : ns.length ≤ 63 := by k_extra "om"
  refine Assign_ListComp_U (by assumption) (by exact rfl) (by exact rfl) (by exact rfl) (by decide) (by exact rfl) (by decide) (by exact rfl) (by exact rfl) (by exact rfl) ?_ (by intro _; exact rfl)
  repeat' ((fail_if_success (with_reducible show CompSrc ..)); first | (k_unfold; (try dsimp only)) | (k_end; wrow_close) | k_extra "fold" | k_extra "u3" | k_extra "u2" | k_extra "u1" | walk1 | (dsimp only; (first | k_extra "fold" | k_extra "u3" | k_extra "u2" | k_extra "u1" | walk1)) | (leave1; walk_say "STEP leave1"; try dsimp only) | fail "no step")
  rename_i d1 v1 h1 F1 N1 i1 z1 z2 l1
  clear z1 z2
  have hd1 := i1.length
  refine comp_mapU dr (by exact rfl) F1 N1 (List.Mem.head _) i1 (by rw [List.length_take]; k_extra "om") ?HE ?fin
  case HE =>
    intro k t1 hk C oC2 m₂ h tk all Q' E' hoC hm1 F9 N9 hC hsub hk
    dsimp only
    repeat' ((fail_if_success (with_reducible show wpAny _ _ (binaryOp Operator.Mod _ _) _ _ _)); first | (k_unfold; (try dsimp only)) | (k_end; wrow_close) | k_extra "fold" | k_extra "u3" | k_extra "u2" | k_extra "u1" | walk1 | (dsimp only; (first | k_extra "fold" | k_extra "u3" | k_extra "u2" | k_extra "u1" | walk1)) | (leave1; walk_say "STEP leave1"; try dsimp only) | fail "no step")
    refine PyProof.Rows.mod_int (by decide) ?_
    exact hk _ _ _ ⟨_, rfl⟩ (by assumption) (by assumption)
  case fin =>
    intro d2 v2 h2 tk2 F2 N2 o2 i2
    dsimp only
    have hd2 := i2.length
    have hdl : ((ns.take 7).map dr).length ≤ 7 := by rw [List.length_map, List.length_take]; k_extra "om"
    have hdb : ∀ y ∈ (ns.take 7).map dr, 0 ≤ y ∧ y < 1000000 := by
      intro y hy
      obtain ⟨x, _, rfl⟩ := List.mem_map.mp hy
      exact ⟨Int.fmod_nonneg_of_pos _ (by decide), Int.fmod_lt_of_pos _ (by decide)⟩
    generalize (ns.take 7).map dr = dr1 at *
    repeat' ((fail_if_success (with_reducible show wpAny _ _ (subscriptTail _ _ _ _) _ _ _)); first | (k_unfold; (try dsimp only)) | (k_end; wrow_close) | k_extra "fold" | k_extra "u3" | k_extra "u2" | k_extra "u1" | walk1 | (dsimp only; (first | k_extra "fold" | k_extra "u3" | k_extra "u2" | k_extra "u1" | walk1)) | (leave1; walk_say "STEP leave1"; try dsimp only) | fail "no step")
    rename_i d3 h3 F3 N3 l3
    refine my_slice_from (s := ⟨h3, _, _, _, _⟩) (vs := [_, _, _, _, _]) (ns := [12712, 2213, 4127, 700, 1641]) F3 N3 (News.isList N3 (.head _)) (IntsAre.cons _ _ (IntsAre.cons _ _ (IntsAre.cons _ _ (IntsAre.cons _ _ (IntsAre.cons _ _ IntsAre.nil))))) (by k_extra "om") (by simp) ?_ (by with_unfolding_all rfl)
    intro d4 v4 h4 F4 N4 i4 l4
    dsimp only
    have hd4 := i4.length
    simp only [Int.toNat_natCast] at i4 hd4
    rw [hd2] at i4 hd4
    have hdl5 : ([12712, 2213, 4127, 700, 1641].drop dr1.length : List Int).length = 5 - dr1.length := by rw [List.length_drop]; rfl
    repeat' ((fail_if_success (with_reducible show wpAny _ _ (binaryOp Operator.Add (Value.ref _) _) _ _ _)); first | (k_unfold; (try dsimp only)) | (k_end; wrow_close) | k_extra "fold" | k_extra "u3" | k_extra "u2" | k_extra "u1" | walk1 | (dsimp only; (first | k_extra "fold" | k_extra "u3" | k_extra "u2" | k_extra "u1" | walk1)) | (leave1; walk_say "STEP leave1"; try dsimp only) | fail "no step")
    refine my_add F4 N4 (mem_at 2 rfl) (mem_at 0 rfl) (by k_extra "om") ?_
    intro d5 h5 F5 N5 l5
    have i5 := i2.append i4
    have hd5 : 5 ≤ (v2 ++ v4).length ∧ (v2 ++ v4).length ≤ 7 := by rw [List.length_append]; k_extra "om"
    have hdb5 : ∀ y ∈ dr1 ++ ([12712, 2213, 4127, 700, 1641].drop dr1.length : List Int), 0 ≤ y ∧ y < 1000000 := by
      intro y hy
      rcases List.mem_append.mp hy with hy | hy
      · exact hdb y hy
      · exact (by decide : ∀ y ∈ ([12712, 2213, 4127, 700, 1641] : List Int), 0 ≤ y ∧ y < 1000000) y (List.mem_of_mem_drop hy)
    have e5 := i5.length
    generalize hdq : dr1 ++ ([12712, 2213, 4127, 700, 1641].drop dr1.length : List Int) = dn at *
    generalize hvq : v2 ++ v4 = dv at *
    clear hdq hvq F3 N3 F4 N4
    repeat' ((fail_if_success (with_reducible show wpAny _ _ (call (Value.type "list") _ _) _ _ _)); first | (k_unfold; (try dsimp only)) | (k_end; wrow_close) | k_extra "fold" | k_extra "u3" | k_extra "u2" | k_extra "u1" | walk1 | (dsimp only; (first | k_extra "fold" | k_extra "u3" | k_extra "u2" | k_extra "u1" | walk1)) | (leave1; walk_say "STEP leave1"; try dsimp only) | fail "no step")
    refine my_list_range (n := 32) (by exact rfl) (by assumption) (by assumption) (by assumption) (by decide) (by decide) (by k_extra "om") ?_
    intro af fv0 fn0 h6 tk6 F6 N6 fi0 l6
    repeat' ((fail_if_success (with_reducible show wpAny _ _ (exec (Stmt.For _ _ _ _ _) _) _ _ _)); first | (k_unfold; (try dsimp only)) | (k_end; wrow_close) | k_extra "fold" | k_extra "u3" | k_extra "u2" | k_extra "u1" | walk1 | (dsimp only; (first | k_extra "fold" | k_extra "u3" | k_extra "u2" | k_extra "u1" | walk1)) | (leave1; walk_say "STEP leave1"; try dsimp only) | fail "no step")
    rename_i ap ha1 lap ha2 tk9 x1 x2 an ha3 lan ha4 x3 x4 x5 aw ha5 law9 hL0 FL0 NL x6 FL x7
    obtain ⟨B0, hB0⟩ : ∃ B0 : Led, B0 = [(d5, listOf dv.toArray 0), (s1.heap.objs.size + 1, oC), (101, tabObj #[])] := ⟨_, rfl⟩
    have hB0f : ∀ p ∈ B0, p.1 < af := by
      intro p hp
      rw [hB0] at hp
      simp only [List.mem_cons, List.not_mem_nil, or_false] at hp
      rcases hp with rfl | rfl | rfl
      · exact l6 _ (mem_at 0 rfl)
      · exact l6 _ (mem_at 5 rfl)
      · exact l6 _ (mem_at 6 rfl)
    have hap : @LT.lt Nat _ af ap := lap.1
    have han : @LT.lt Nat _ ap an := lan.1
    have haw : @LT.lt Nat _ an aw := law9.1
    refine For_invVF (by assumption) (by exact rfl) (by exact rfl) ?_
    repeat' ((fail_if_success (with_reducible show wpAny _ _ (pyIter _) _ _ _)); first | (k_unfold; (try dsimp only)) | (k_end; wrow_close) | k_extra "fold" | k_extra "u3" | k_extra "u2" | k_extra "u1" | walk1 | (dsimp only; (first | k_extra "fold" | k_extra "u3" | k_extra "u2" | k_extra "u1" | walk1)) | (leave1; walk_say "STEP leave1"; try dsimp only) | fail "no step")
    refine iter_ledS (fun (_ : LawZ) => []) [Str.ofString "letter", Str.ofString "place", Str.ofString "share", Str.ofString "value", Str.ofString "red", Str.ofString "green", Str.ofString "blue", Str.ofString "hue", Str.ofString "light", Str.ofString "depth", Str.ofString "name"]
      (fun z => (af, listOf z.fv.toArray z.fn) :: (ap, listOf z.pv.toArray z.pn) :: (an, listOf z.nv.toArray z.nn) :: (aw, listOf z.wv.toArray z.wn) :: (z.tt ++ B0))
      (fun k z => LawK B0 af ap an aw k z) ⟨fv0, fn0, rangeInts 0 1 32, [], 0, [], [], 0, [], [], 0, [], []⟩ (by exact rfl) FL NL ?sub (fun z => mem_tail 4 rfl (List.mem_append_right _ (by rw [hB0]; exact .head _))) trivial ?start ?turn ?done
    case sub =>
      intro p hp
      dsimp only at hp
      rcases List.mem_cons.mp hp with rfl | hp
      · exact mem_at 3 rfl
      · rcases List.mem_cons.mp hp with rfl | hp
        · exact mem_at 2 rfl
        · rcases List.mem_cons.mp hp with rfl | hp
          · exact mem_at 1 rfl
          · rcases List.mem_cons.mp hp with rfl | hp
            · exact mem_at 0 rfl
            · rw [List.nil_append, hB0] at hp
              simp only [List.mem_cons, List.not_mem_nil, or_false] at hp
              rcases hp with rfl | rfl | rfl
              · exact mem_at 4 rfl
              · exact mem_at 9 rfl
              · exact mem_at 10 rfl
    case start =>
      refine { fi := fi0, fl := by simp [rangeInts_length], fb := ?_, fnd := by show (rangeInts 0 1 32).Nodup; decide, pi := IntsAre.nil, pl := rfl, pnd := List.nodup_nil, pb := (fun _ h => nomatch h), pf := (fun _ h => nomatch h), sp := List.Perm.nil, ss := List.Pairwise.nil, ml := rfl, mn := (fun i x h => by simp at h), lt := All2.nil, nl := rfl, na := (fun i p h => by simp at h), off := (fun _ h => nomatch h) }
      intro x hx
      dsimp only at hx
      have := mem_rangeInts hx
      k_extra "om"
    case done =>
      rintro ⟨fv, fn, fr, pv, pn, ps, nv, nn, nms, wv, wn, S, tt⟩ u h9 tk8 hK F9 N9
      obtain ⟨fi, fl, fb, fnd, pi, pl, pnd, pb, pf, sp, ss, ml, mn, lt, nl, na, off⟩ := hK
      dsimp only at fi fl fb fnd pi pl pnd pb pf sp ss ml mn lt nl na off F9 N9
      have NC : News (ghostOf s1.heap [(105, 101)]) s1.heap.objs.size h9 ((ap, listOf pv.toArray pn) :: (an, listOf nv.toArray nn) :: (aw, listOf wv.toArray wn) :: (tt ++ B0)) := fun p hp => N9 p (.tail _ hp)
      clear N9
      have hfl := fi.length
      have hpl := pi.length
      have hwl := lt.length
      have hSl := sp.length_eq
      have b_dv : dv.length ≤ 7 := hd5.2
      have c_dv : 5 ≤ dv.length := hd5.1
      have b_dn : dn.length ≤ 7 := Nat.le_trans (Nat.le_of_eq e5.symm) hd5.2
      have b_ps : ps.length ≤ 7 := Nat.le_trans (Nat.le_of_eq pl) hd5.2
      have c_ps : 5 ≤ ps.length := Nat.le_trans hd5.1 (Nat.le_of_eq pl.symm)
      have b_nv : nv.length ≤ 7 := Nat.le_trans (Nat.le_of_eq nl) hd5.2
      have c_nv : 5 ≤ nv.length := Nat.le_trans hd5.1 (Nat.le_of_eq nl.symm)
      have b_S : S.length ≤ 7 := Nat.le_trans (Nat.le_of_eq hSl) b_ps
      have c_S : 5 ≤ S.length := Nat.le_trans c_ps (Nat.le_of_eq hSl.symm)
      have b_wv : wv.length ≤ 7 := Nat.le_trans (Nat.le_of_eq hwl) b_S
      have b_pv : pv.length ≤ 7 := Nat.le_trans (Nat.le_of_eq hpl) b_ps
      have e_S : S.length = dn.length := hSl.trans (pl.trans e5)
      have hB0f : ∀ p ∈ B0, p.1 < ap := fun p hp => Nat.lt_trans (hB0f p hp) hap
      repeat' ((fail_if_success (with_reducible show wpAny _ _ (eval (Expr.ListComp _ _ _ _) _) _ _ _)); first | (k_unfold; (try dsimp only)) | (k_end; wrow_close) | k_extra "fold" | k_extra "u3" | k_extra "u2" | k_extra "u1" | walk1 | (dsimp only; (first | k_extra "fold" | k_extra "u3" | k_extra "u2" | k_extra "u1" | walk1)) | (leave1; walk_say "STEP leave1"; try dsimp only) | fail "no step")
      refine PyProof.Rows.LCp.ListComp_P (by assumption) (by with_unfolding_all rfl) (by decide) (by rfl) (by decide) (by rfl) (by rfl) (by decide) ?_ (by intro _; exact rfl)
      first | k_extra "fold" | k_extra "u3" | k_extra "u2" | k_extra "u1" | walk1
      refine comp_namesP (ss := S.map (nmOf ps nms)) (by exact rfl) (by assumption) (by assumption) (mem_at 2 rfl) (by rw [List.length_map]; exact hwl) (by k_extra "om") (by exact rfl) (by exact rfl) (by rfl) ?hv ?fin
      case hv =>
        intro i k hk
        rw [List.getElem?_map] at hk
        cases hp : S[i]? with
        | none => rw [hp] at hk; cases hk
        | some p =>
          rw [hp] at hk
          cases hk
          obtain ⟨v, hv1, a, t, t', rfl, hm⟩ := lt.get hp
          exact ⟨a, _, t', hv1, mem_tail 3 rfl hm⟩
      case fin =>
        intro e1 ys1 h10 tk10 F10 N10 o10 hs10
        dsimp only
        repeat' ((fail_if_success (with_reducible show wpAny _ _ (eval (Expr.ListComp _ _ _ _) _) _ _ _)); first | (k_unfold; (try dsimp only)) | (k_end; wrow_close) | k_extra "fold" | k_extra "u3" | k_extra "u2" | k_extra "u1" | walk1 | (dsimp only; (first | k_extra "fold" | k_extra "u3" | k_extra "u2" | k_extra "u1" | walk1)) | (leave1; walk_say "STEP leave1"; try dsimp only) | fail "no step")
        refine PyProof.Rows.LCp.ListComp_P (by assumption) (by with_unfolding_all rfl) (by decide) (by rfl) (by decide) (by rfl) (by rfl) (by decide) ?_ (by intro _; exact rfl)
        repeat' ((fail_if_success (with_reducible show wpAny _ _ (call (Value.builtin "sorted") _ _) _ _ _)); first | (k_unfold; (try dsimp only)) | (k_end; wrow_close) | k_extra "fold" | k_extra "u3" | k_extra "u2" | k_extra "u1" | walk1 | (dsimp only; (first | k_extra "fold" | k_extra "u3" | k_extra "u2" | k_extra "u1" | walk1)) | (leave1; walk_say "STEP leave1"; try dsimp only) | fail "no step")
        refine my_sortedT (vs := nv) (ks := ps) (by assumption) (by assumption) (News.isList (by assumption) (mem_at 2 rfl)) (by k_extra "om") (by k_extra "om") (by k_extra "om") ?hv2 pnd ?_
        case hv2 =>
          intro i k hk
          obtain ⟨a, t, x, tx, h1, h2, _⟩ := na i k hk
          exact ⟨a, t, x, tx, h1, mem_tail 4 rfl h2⟩
        intro e2 c2 h11 tk11 px F11 N11 l11 hpx hsx
        dsimp only
        rw [nl, ← pl] at hpx
        have hSx := sorted_idx hpx hsx sp ss
        refine comp_namesP (ss := S.map (nmOf ps nms)) (by exact rfl) (by assumption) N11 (.head _) (by rw [List.length_map, List.length_map, ← hSx, List.length_map]) (by rw [List.length_map, hpx.length_eq, List.length_range]; k_extra "om") (by exact rfl) (by exact rfl) (by rfl) ?hv3 ?fin3
        case hv3 =>
          intro i k hk
          rw [← hSx, List.map_map, List.getElem?_map] at hk
          cases hp : px[i]? with
          | none => rw [hp] at hk; cases hk
          | some j =>
            rw [hp] at hk
            cases hk
            have hj : j < ps.length := by simpa using hpx.subset (List.mem_of_getElem? hp)
            have hq : ps[j]? = some (ps.getD j 0) := getD_some hj
            obtain ⟨a, t, x, tx, h1, h2, h3⟩ := na j _ hq
            refine ⟨a, .int (ps.getD j 0) t, tx, ?_, ?_⟩
            · rw [List.getElem?_map, hp, Option.map_some, List.getD_eq_getElem?_getD, h1]; rfl
            · show (a, tup2 (.int (ps.getD j 0) t) (.str (nmOf ps nms (ps.getD j 0)) tx)) ∈ _
              rw [nmOf_at pnd hq h3]
              exact mem_tail 5 rfl h2
        case fin3 =>
          intro e3 ys3 h12 tk12 F12 N12 o12 hs12
          dsimp only
          repeat' ((fail_if_success (with_reducible show wpAny _ _ (compareOp CmpOp.NotEq _ _) _ _ _)); first | (k_unfold; (try dsimp only)) | (k_end; wrow_close) | k_extra "fold" | k_extra "u3" | k_extra "u2" | k_extra "u1" | walk1 | (dsimp only; (first | k_extra "fold" | k_extra "u3" | k_extra "u2" | k_extra "u1" | walk1)) | (leave1; walk_say "STEP leave1"; try dsimp only) | fail "no step")
          refine my_neStrs N12 (mem_at 2 rfl) (mem_at 0 rfl) hs10 hs12 (by first | units_room | exact Nat.le_of_ble_eq_true rfl) ?_
          have hB0' : ∀ p ∈ B0, p = (d5, listOf dv.toArray 0) ∨ p = (s1.heap.objs.size + 1, oC) ∨ p = (101, tabObj #[]) := by
            intro p hp
            rw [hB0] at hp
            simpa only [List.mem_cons, List.not_mem_nil, or_false] using hp
          have htup : ∀ (a : Addr) (x1 x2 : Value), (a, tup2 x1 x2) ∈ tt ++ B0 → (a, tup2 x1 x2) ∈ tt := by
            intro a x1 x2 h
            rcases List.mem_append.mp h with h | h
            · exact h
            · rcases hB0' _ h with e | e | e
              · have := congrArg (fun p : Addr × Obj => p.2.cls) e
                simp at this
              · have h2 := congrArg (fun p : Addr × Obj => p.2.data) e
                have h3 : Data.seq #[x1, x2] = oC.data := h2
                rw [dC] at h3; cases h3
              · have := congrArg (fun p : Addr × Obj => p.2.cls) e
                simp at this
          have NC2 : News (ghostOf s1.heap [(105, 101)]) s1.heap.objs.size h12 ((ap, listOf pv.toArray pn) :: (aw, listOf wv.toArray wn) :: (d5, listOf dv.toArray 0) :: (s1.heap.objs.size + 1, oC) :: (101, tabObj #[]) :: tt) := by
            intro p hp
            refine N12 p ?_
            rcases List.mem_cons.mp hp with rfl | hp
            · exact mem_at 3 rfl
            · rcases List.mem_cons.mp hp with rfl | hp
              · exact mem_at 5 rfl
              · rcases List.mem_cons.mp hp with rfl | hp
                · exact mem_tail 6 rfl (List.mem_append_right _ (by rw [hB0]; exact mem_at 0 rfl))
                · rcases List.mem_cons.mp hp with rfl | hp
                  · exact mem_tail 6 rfl (List.mem_append_right _ (by rw [hB0]; exact mem_at 1 rfl))
                  · rcases List.mem_cons.mp hp with rfl | hp
                    · exact mem_tail 6 rfl (List.mem_append_right _ (by rw [hB0]; exact mem_at 2 rfl))
                    · exact mem_tail 6 rfl (List.mem_append_left _ hp)
          have ltT : All2 (LightAt tt (nmOf ps nms)) wv S := lt.imp fun v p h => by
            obtain ⟨a, t, t', h1, h2⟩ := h
            exact ⟨a, t, t', h1, htup _ _ _ h2⟩
          have hcf : @LT.lt Nat _ (s1.heap.objs.size + 1) af := l6 _ (mem_at 5 rfl)
          have hdf : @LT.lt Nat _ d5 af := l6 _ (mem_at 0 rfl)
          have htc : ∀ p ∈ tt, p.1 ≠ s1.heap.objs.size + 1 := fun p hp => Nat.ne_of_gt (Nat.lt_trans (Nat.lt_trans (Nat.lt_trans (Nat.lt_trans hcf hap) han) haw) (off p hp))
          have ht101 : ∀ p ∈ tt, p.1 ≠ 101 := fun p hp => Nat.ne_of_gt (Nat.lt_trans (Nat.lt_trans (Nat.lt_trans (Nat.lt_trans (Nat.lt_trans (Nat.lt_succ_of_lt l0) hcf) hap) han) haw) (off p hp))
          clear N12 N11 N10 NC
          repeat' ((fail_if_success (with_reducible show wpAny _ _ (exec (Stmt.Assign _ (Expr.ListComp _ _ _ _) _) _) _ _ _)); first | (k_unfold; (try dsimp only)) | (k_end; wrow_close) | k_extra "fold" | k_extra "u3" | k_extra "u2" | k_extra "u1" | walk1 | (dsimp only; (first | k_extra "fold" | k_extra "u3" | k_extra "u2" | k_extra "u1" | walk1)) | (leave1; walk_say "STEP leave1"; try dsimp only) | fail "no step")
          refine Assign_ListComp_U (by assumption) (by exact rfl) (by exact rfl) (by exact rfl) (by decide) (by exact rfl) (by decide) (by exact rfl) (by exact rfl) (by exact rfl) ?_ (by intro _; exact rfl)
          repeat' ((fail_if_success (with_reducible show CompSrc ..)); (fail_if_success (with_reducible show wpAny _ _ (subscriptTail _ _ _ _) _ _ _)); first | (k_unfold; (try dsimp only)) | (k_end; wrow_close) | k_extra "fold" | k_extra "u3" | k_extra "u2" | k_extra "u1" | walk1 | (dsimp only; (first | k_extra "fold" | k_extra "u3" | k_extra "u2" | k_extra "u1" | walk1)) | (leave1; walk_say "STEP leave1"; try dsimp only) | fail "no step")
          rename News (ghostOf s1.heap [(105, 101)]) _ _ _ => kNs
          rename Fr (ghostOf s1.heap [(105, 101)]) _ _ _ => kFs
          refine kmk_slice_ints (s := ⟨_, _, _, _, _⟩) (ns := dn) kFs kNs (News.isList kNs (mem_at 2 rfl)) IsPart.none (IsPart.int _ _) i5 (kmk_upto i5 (by k_extra "om")) rfl ?_ (by with_unfolding_all rfl) (by intro _; with_unfolding_all rfl) (by rw [List.size_toArray]; simp only [sizeLine]; k_extra "om")
          intro d6 v6 h13 F13 N13 l13 i6 _ _
          dsimp only
          refine comp_mapU cutF (by exact rfl) F13 N13 (.head _) i6 (by rw [List.length_take]; exact Nat.le_trans (Nat.min_le_right _ _) (Nat.le_trans b_dn (by decide))) ?HE ?fin4
          case HE =>
            intro k t1 hk C oC2 m₂ h tk all Q' E' hoC hm1 F9 N9 hC hsub hk
            dsimp only
            repeat' (first | (k_unfold; (try dsimp only)) | (k_end; wrow_close) | k_extra "fold" | k_extra "u3" | k_extra "u2" | k_extra "u1" | walk1 | (dsimp only; (first | k_extra "fold" | k_extra "u3" | k_extra "u2" | k_extra "u1" | walk1)) | (leave1; walk_say "STEP leave1"; try dsimp only) | fail "no step")
            exact hk _ _ _ ⟨_, rfl⟩ (by assumption) (by assumption)
          case fin4 =>
            intro d7 v7 h14 tk14 F14 N14 o14 i7
            dsimp only
            have hkl : ((dn.take (((dn.length : Int) - 3).toNat)).map cutF).length + 3 = S.length := by
              rw [List.length_map, List.length_take]; exact cut_len3 e_S (Nat.le_trans (by decide) (Nat.le_trans c_S (Nat.le_of_eq e_S)))
            have hk32 : ∀ c ∈ (dn.take (((dn.length : Int) - 3).toNat)).map cutF, 0 ≤ c ∧ c < 32 := by
              intro c hc
              obtain ⟨y, _, rfl⟩ := List.mem_map.mp hc
              exact cutF_bd y
            rw [e5] at i7
            generalize (dn.take (((dn.length : Int) - 3).toNat)).map cutF = ks at *
            repeat' ((fail_if_success (with_reducible show wpAny _ _ (call (Value.ref 113) _ _) _ _ _)); first | (k_unfold; (try dsimp only)) | (k_end; wrow_close) | k_extra "fold" | k_extra "u3" | k_extra "u2" | k_extra "u1" | walk1 | (dsimp only; (first | k_extra "fold" | k_extra "u3" | k_extra "u2" | k_extra "u1" | walk1)) | (leave1; walk_say "STEP leave1"; try dsimp only) | fail "no step")
            rename News (ghostOf s1.heap [(105, 101)]) _ _ _ => kN5
            obtain ⟨LD, kN6, hLD⟩ : ∃ LD, News (ghostOf s1.heap [(105, 101)]) s1.heap.objs.size _ LD ∧ LD = _ := ⟨_, kN5, rfl⟩
            clear kN5
            have hmW := mem_nth hLD 3 rfl
            have hmC := mem_nth hLD 0 rfl
            have hsubT : ∀ p ∈ tt, p ∈ LD := fun p hp => by rw [hLD]; exact mem_tail 7 rfl hp
            have hSb : ∀ p ∈ S, 0 ≤ p ∧ p < 32 := fun p hp => pb p (sp.subset hp)
            k_dflt (refine' Cl.use (c_corners _ aw d7 wv v7 wn v7.length S ks (nmOf ps nms) LD hmW (ltT.imp fun _ _ h => h.mono hsubT) hmC i7 hkl (by k_extra "om") ss hSb hk32) ?k1 ?k2 ?k3 ?k4 ?k5 ?k6 ?k7 ?k8 ?_; (case k1 => k_asm); (case k2 => k_asm); (case k3 => k_asm); (case k4 => k_asm); (case k5 => k_asm); (case k6 => exact rfl); (case k7 => ktr_room); (case k8 => ktr_units))
            intro D tvs tn ts big h15 tk15 F15 N15 hsub15 hmD hneD hst hsort hperm
            dsimp only
            obtain ⟨R1, hR1⟩ : ∃ R1 : Led, R1 = (D, listOf tvs.toArray tn) :: (aw, listOf wv.toArray wn) :: (ap, listOf pv.toArray pn) :: (d7, lst v7) :: tt := ⟨_, rfl⟩
            have hneD' : ∀ p ∈ LD, p.1 ≠ D := hneD
            have hDc : @Ne Nat (s1.heap.objs.size + 1) D := hneD _ (mem_nth hLD 5 rfl)
            have hD101 : @Ne Nat 101 D := hneD _ (mem_nth hLD 6 rfl)
            have hcap : @LT.lt Nat _ (s1.heap.objs.size + 1) ap := Nat.lt_trans hcf hap
            have hcaw : @LT.lt Nat _ (s1.heap.objs.size + 1) aw := Nat.lt_trans (Nat.lt_trans hcap han) haw
            have hl01 : @LT.lt Nat _ 101 (s1.heap.objs.size + 1) := Nat.lt_succ_of_lt l0
            have hd7c : @Ne Nat (s1.heap.objs.size + 1) d7 := o14 _ (mem_at 4 rfl)
            have hd7101 : @Ne Nat 101 d7 := o14 _ (mem_at 5 rfl)
            have hR1c : ∀ p ∈ R1, p.1 ≠ s1.heap.objs.size + 1 := by
              intro p hp
              rw [hR1] at hp
              rcases List.mem_cons.mp hp with rfl | hp
              · exact Ne.symm hDc
              · rcases List.mem_cons.mp hp with rfl | hp
                · exact Nat.ne_of_gt hcaw
                · rcases List.mem_cons.mp hp with rfl | hp
                  · exact Nat.ne_of_gt hcap
                  · rcases List.mem_cons.mp hp with rfl | hp
                    · exact Ne.symm hd7c
                    · exact htc p hp
            have hR1t : ∀ p ∈ R1, p.1 ≠ 101 := by
              intro p hp
              rw [hR1] at hp
              rcases List.mem_cons.mp hp with rfl | hp
              · exact Ne.symm hD101
              · rcases List.mem_cons.mp hp with rfl | hp
                · exact Nat.ne_of_gt (Nat.lt_trans hl01 hcaw)
                · rcases List.mem_cons.mp hp with rfl | hp
                  · exact Nat.ne_of_gt (Nat.lt_trans hl01 hcap)
                  · rcases List.mem_cons.mp hp with rfl | hp
                    · exact Ne.symm hd7101
                    · exact ht101 p hp
            have hallc : ∀ p ∈ (101, tabObj #[]) :: R1, p.1 ≠ s1.heap.objs.size + 1 := by
              intro p hp
              rcases List.mem_cons.mp hp with rfl | hp
              · exact Nat.ne_of_lt hl01
              · exact hR1c p hp
            have NC3 : News (ghostOf s1.heap [(105, 101)]) s1.heap.objs.size h15 ((s1.heap.objs.size + 1, oC) :: (101, tabObj #[]) :: R1) := by
              intro p hp
              refine N15 p ?_
              rcases List.mem_cons.mp hp with rfl | hp
              · exact hsub15 _ (mem_nth hLD 5 rfl)
              · rcases List.mem_cons.mp hp with rfl | hp
                · exact hsub15 _ (mem_nth hLD 6 rfl)
                · rw [hR1] at hp
                  rcases List.mem_cons.mp hp with rfl | hp
                  · exact hmD
                  · rcases List.mem_cons.mp hp with rfl | hp
                    · exact hsub15 _ hmW
                    · rcases List.mem_cons.mp hp with rfl | hp
                      · exact hsub15 _ (mem_nth hLD 2 rfl)
                      · rcases List.mem_cons.mp hp with rfl | hp
                        · exact hsub15 _ hmC
                        · exact hsub15 _ (hsubT p hp)
            clear N15 kN6
            repeat' ((fail_if_success (with_reducible show wpAny _ _ (exec (Stmt.Assign _ (Expr.ListComp _ _ _ _) _) _) _ _ _)); first | (k_unfold; (try dsimp only)) | (k_end; wrow_close) | k_extra "fold" | k_extra "u3" | k_extra "u2" | k_extra "u1" | walk1 | (dsimp only; (first | k_extra "fold" | k_extra "u3" | k_extra "u2" | k_extra "u1" | walk1)) | (leave1; walk_say "STEP leave1"; try dsimp only) | fail "no step")
            rename_i h16 oC2 F16 N16 dC2 x8 x9 x10
            obtain ⟨B1, hB1⟩ : ∃ B1 : Led, B1 = (s1.heap.objs.size + 1, oC2) :: R1 := ⟨_, rfl⟩
            have hB1t : ∀ p ∈ B1, p.1 ≠ 101 := by
              intro p hp
              rw [hB1] at hp
              rcases List.mem_cons.mp hp with rfl | hp
              · exact Nat.ne_of_gt hl01
              · exact hR1t p hp
            have hB1c : (s1.heap.objs.size + 1, oC2) ∈ B1 := by rw [hB1]; exact .head _
            have hB1R : ∀ p ∈ R1, p ∈ B1 := fun p hp => by rw [hB1]; exact .tail _ hp
            have hB1D : (D, listOf tvs.toArray tn) ∈ B1 := hB1R _ (by rw [hR1]; exact mem_at 0 rfl)
            have hB1W : (aw, listOf wv.toArray wn) ∈ B1 := hB1R _ (by rw [hR1]; exact mem_at 1 rfl)
            have hB1P : (ap, listOf pv.toArray pn) ∈ B1 := hB1R _ (by rw [hR1]; exact mem_at 2 rfl)
            have hB1K : (d7, lst v7) ∈ B1 := hB1R _ (by rw [hR1]; exact mem_at 3 rfl)
            have hB1T : ∀ p ∈ tt, p ∈ B1 := fun p hp => hB1R _ (by rw [hR1]; exact mem_tail 4 rfl hp)
            have N17 : News (ghostOf s1.heap [(105, 101)]) s1.heap.objs.size h16 (B1 ++ [(101, tabObj #[])]) := by
              intro p hp
              refine N16 p ?_
              rcases List.mem_append.mp hp with hp | hp
              · rw [hB1] at hp
                rcases List.mem_cons.mp hp with rfl | hp
                · exact .head _
                · exact .tail _ (.tail _ hp)
              · rw [List.mem_singleton.mp hp]; exact .tail _ (.head _)
            clear N16
            have hSn : S.Nodup := ss.imp fun h => by k_extra "om"
            have hstl := hst.length
            have htsl : ts.length ≤ 100 := by
              have h1 := hperm.length_eq
              rw [List.length_map] at h1
              have h2 := tri_total hSn hkl (ks.length + 1) (Nat.le_refl _)
              exact Nat.le_trans (Nat.le_of_eq h1) (Nat.le_trans h2 (Nat.le_trans (Nat.mul_le_mul_left 3 (Nat.le_trans (Nat.add_le_add_left (by decide : 1 ≤ 3) ks.length) (Nat.le_trans (Nat.le_of_eq hkl) b_S))) (by decide)))
            refine PyProof.Rows.LCp.Assign_ListComp_P (by assumption) (by rfl) (by with_unfolding_all rfl) (by with_unfolding_all rfl) (by decide) (by rfl) (by decide) (by rfl) (by rfl) (by decide) (by rfl) (by rfl) ?_ (by intro _; exact rfl)
            first | k_extra "fold" | k_extra "u3" | k_extra "u2" | k_extra "u1" | walk1
            refine SrcLP.ledger (by exact rfl) (by assumption) N17 (List.mem_append_left _ hB1W) (by rw [List.size_toArray]; simp only [sizeLine]; k_extra "om") fun g => ?_
            refine compP (fun i ys nw => ∃ tab : Led, TabOk tab ∧ nw = B1 ++ tab ∧ IntsAre ys ((S.take i).map fun p => ((ts.count (nmOf ps nms p) : Nat) : Int))) ⟨[(101, tabObj #[])], .inl (.head _), rfl, by simpa using IntsAre.nil⟩ ?turn5 ?fin5
            case fin5 =>
              rintro ys nw ⟨tab, hT, rfl, hys⟩
              intro D2 h18 tk18 F18 N18 o18
              have e : S.take wv.toArray.size = S := List.take_of_length_le (by rw [List.size_toArray]; k_extra "om")
              rw [e] at hys
              dsimp only
              obtain ⟨fs, hfsl, hfse, hfsc⟩ := fans_good hSn hkl c_S b_S
              have b_fs : fs.length ≤ 7 := Nat.le_trans (Nat.le_of_eq hfsl) b_S
              have hkp : ks.length + 3 = ps.length := hkl.trans hSl
              rw [counts_eq hSn hkl hperm (nm_inj pnd (by first | assumption | k_extra "om") mn (by k_extra "om") sp) hfsl hfse] at hys
              obtain ⟨o101, ps101, h101, h101e⟩ := tab_101 hT
              repeat' ((fail_if_success (with_reducible show wpAny _ _ (call (Value.ref 118) _ _) _ _ _)); first | (k_unfold; (try dsimp only)) | (k_end; wrow_close) | k_extra "fold" | k_extra "u3" | k_extra "u2" | k_extra "u1" | walk1 | (dsimp only; (first | k_extra "fold" | k_extra "u3" | k_extra "u2" | k_extra "u1" | walk1)) | (leave1; walk_say "STEP leave1"; try dsimp only) | fail "no step")
              obtain ⟨LDa, kNa, hLDa⟩ : ∃ LD, News (ghostOf s1.heap [(105, 101)]) s1.heap.objs.size _ LD ∧ LD = _ := ⟨_, N18, rfl⟩
              have gC := mem_nth hLDa 0 rfl
              have gB : ∀ p ∈ B1, p ∈ LDa := fun p hp => by rw [hLDa]; exact mem_tail 1 rfl (List.mem_append_left _ hp)
              have gT : ∀ p ∈ tab, p ∈ LDa := fun p hp => by rw [hLDa]; exact mem_tail 1 rfl (List.mem_append_right _ hp)
              have gP := gB _ hB1P
              have gK := gB _ hB1K
              have g101 := gT _ h101
              clear N18
              k_dflt (refine' Cl.use (c_fans _ ap d7 pv v7 pn v7.length ps ks S LDa gP pi gK i7 (by k_extra "om") (by k_extra "om") (by k_extra "om") hSn sp (ss.imp fun h => Int.le_of_lt h)) ?k1 ?k2 ?k3 ?k4 ?k5 ?k6 ?k7 ?k8 ?_; (case k1 => k_asm); (case k2 => k_asm); (case k3 => k_asm); (case k4 => k_asm); (case k5 => k_asm); (case k6 => exact rfl); (case k7 => ktr_room); (case k8 => ktr_units))
              intro fa fvs fn2 bigF h19 tk19 F19 N19 hsubF hmF hlF hfF
              dsimp only
              rw [hfse] at hfF
              have hyl := hys.length
              have gC2 := hsubF _ gC
              have g101b := hsubF _ g101
              clear kNa
              repeat' ((fail_if_success (with_reducible show wpAny _ _ (call (Value.ref 123) _ _) _ _ _)); first | (k_unfold; (try dsimp only)) | (k_end; wrow_close) | k_extra "fold" | k_extra "u3" | k_extra "u2" | k_extra "u1" | walk1 | (dsimp only; (first | k_extra "fold" | k_extra "u3" | k_extra "u2" | k_extra "u1" | walk1)) | (leave1; walk_say "STEP leave1"; try dsimp only) | fail "no step")
              k_dflt (refine' Cl.use (c_frieze _ D2 fa ys fvs ys.length fn2 (fs.map fun f => (f.length : Int)) (fs.map toI) bigF gC2 hys hmF (by rw [List.length_map, hfsl]; exact hlF) (by rw [List.length_map, hyl, List.length_map]) (by rw [List.length_map]; k_extra "om") ?hcb ?hfb ?hok hfF) ?k1 ?k2 ?k3 ?k4 ?k5 ?k6 ?k7 ?k8 ?_; (case k1 => k_asm); (case k2 => k_asm); (case k3 => k_asm); (case k4 => k_asm); (case k5 => k_asm); (case k6 => exact rfl); (case k7 => ktr_room); (case k8 => ktr_units))
              case hcb =>
                intro c hc
                obtain ⟨gx, hgx, rfl⟩ := List.mem_map.mp hc
                have := chkN_le hfsc gx hgx
                k_extra "om"
              case hfb =>
                intro fx hfx
                obtain ⟨gx, hgx, rfl⟩ := List.mem_map.mp hfx
                have := chkN_le hfsc gx hgx
                unfold toI
                rw [List.length_map]; exact this
              case hok =>
                rw [List.length_map]
                exact chkN_ok hfsc
              intro t20 h20 tk20 F20 N20
              dsimp only
              have g101c : (101, o101) ∈ bigF := g101b
              subst h101e
              clear F18 F19 F16 hsubF gC2 gC gP gK gB gT
              repeat' (first | (k_unfold; (try dsimp only)) | (k_end; wrow_close) | k_extra "fold" | k_extra "u3" | k_extra "u2" | k_extra "u1" | walk1 | (dsimp only; (first | k_extra "fold" | k_extra "u3" | k_extra "u2" | k_extra "u1" | walk1)) | (leave1; walk_say "STEP leave1"; try dsimp only) | fail "no step")
            case turn5 =>
              rintro i v ys nw hi hP ⟨tab, hT, rfl, hys⟩
              have hv0 : wv[i]? = some v := by simpa using hP
              obtain ⟨p, hp, a, t, t', rfl, hm⟩ := ltT.get' hv0
              refine ⟨a, _, _, _, _, rfl, List.mem_append_left _ (hB1T _ hm), rfl, rfl, fun I oI C oC3 D3 m₂ h18 tk18 E' hoC hx1 hx2 F18 N18 o18 ne18 => ?_⟩
              have off18 := o18.mem
              obtain ⟨o101, ps101, h101, h101e⟩ := tab_101 hT
              have n101 := off18 _ (List.mem_append_right _ h101)
              obtain ⟨LD9, kN9, hLD9⟩ : ∃ LD, News (ghostOf s1.heap [(105, 101)]) s1.heap.objs.size h18 LD ∧ LD = _ := ⟨_, N18, rfl⟩
              have g1 := mem_nth hLD9 0 rfl
              have g2 := mem_nth hLD9 1 rfl
              have g3 := mem_nth hLD9 2 rfl
              have gB : ∀ p ∈ B1, p ∈ LD9 := fun p hp => by rw [hLD9]; exact mem_tail 3 rfl (List.mem_append_left _ hp)
              have gT : ∀ p ∈ tab, p ∈ LD9 := fun p hp => by rw [hLD9]; exact mem_tail 3 rfl (List.mem_append_right _ hp)
              have c1 := gB _ hB1c
              have c2 := gB _ hB1D
              clear N18
              repeat' ((fail_if_success (with_reducible show wpAny _ _ (call (Value.ref 106) _ _) _ _ _)); first | (k_unfold; (try dsimp only)) | (k_end; wrow_close) | k_extra "fold" | k_extra "u3" | k_extra "u2" | k_extra "u1" | walk1 | (dsimp only; (first | k_extra "fold" | k_extra "u3" | k_extra "u2" | k_extra "u1" | walk1)) | (leave1; walk_say "STEP leave1"; try dsimp only) | fail "no step")
              k_dflt (refine' Cl.use (c_count _ D tn tvs ts (nmOf ps nms p) t' LD9 tab c2 (fun e => hD101 e.symm) hT gT hstl htsl ?hv ?hso) ?k1 ?k2 ?k3 ?k4 ?k5 ?k6 ?k7 ?k8 ?_; (case k1 => k_asm); (case k2 => k_asm); (case k3 => k_asm); (case k4 => k_asm); (case k5 => k_asm); (case k6 => exact rfl); (case k7 => ktr_room); (case k8 => ktr_units))
              case hv =>
                intro q k hq
                obtain ⟨v, hv1, t, rfl⟩ := hst.get hq
                exact ⟨t, hv1⟩
              case hso =>
                intro q r a b h1 h2 h3
                rcases Nat.lt_or_eq_of_le h3 with h4 | h4
                · exact pw_at hsort h1 h2 h4
                · subst h4; rw [h1] at h2; cases h2; exact sl_irrefl _
              intro big9 tab9 t9 h19 tk19 F19 N19 hs9 hT9 hb9 hf9
              refine CompEnd.intro F19 N19 (B1 ++ tab9) ?sb ?of9 (.inr ⟨_, List.mem_append_left _ hB1W, rfl, _, rfl⟩) ⟨tab9, hT9, rfl, ?it⟩
              case sb =>
                intro q hq
                rcases List.mem_cons.mp hq with rfl | hq
                · exact hs9 _ g1 (Ne.symm n101.1)
                · rcases List.mem_cons.mp hq with rfl | hq
                  · exact hs9 _ g2 (Ne.symm n101.2.1)
                  · rcases List.mem_cons.mp hq with rfl | hq
                    · exact hs9 _ g3 (Ne.symm n101.2.2)
                    · rcases List.mem_append.mp hq with hq | hq
                      · exact hs9 _ (gB q hq) (hB1t q hq)
                      · exact hb9 q hq
              case of9 =>
                refine Off3.of fun q hq => ?_
                rcases List.mem_append.mp hq with hq | hq
                · exact off18 q (List.mem_append_left _ hq)
                · rcases hf9 q hq with e | e | e
                  · rw [e]; exact n101
                  · exact off18 q (List.mem_append_right _ e)
                  · exact ⟨Nat.ne_of_gt (e _ g1), Nat.ne_of_gt (e _ g2), Nat.ne_of_gt (e _ g3)⟩
              case it =>
                rw [List.take_add_one, hp, List.map_append]
                exact hys.append (IntsAre.cons _ _ IntsAre.nil)
    case turn =>
      rintro I k v ⟨fv, fn, fr, pv, pn, ps, nv, nn, nms, wv, wn, S, tt⟩ u h9 tk8 oI hv hK hne F9 N9
      obtain ⟨fi, fl, fb, fnd, pi, pl, pnd, pb, pf, sp, ss, ml, mn, lt, nl, na, off⟩ := hK
      dsimp only at fi fl fb fnd pi pl pnd pb pf sp ss ml mn lt nl na off hne F9 N9
      obtain ⟨y, ty, rfl, hy⟩ := IntsAre.at i5 k v hv
      obtain ⟨hy0, hy1⟩ := hdb5 y (List.mem_of_getElem? hy)
      have hkd := (List.getElem?_eq_some_iff.mp hy).1
      have hk7 : k < 7 := by k_extra "om"
      have hfl := fi.length
      have hpl := pi.length
      have hwl := lt.length
      have hSl := sp.length_eq
      subst pl
      have b_ps : ps.length ≤ 7 := Nat.le_of_lt hk7
      have b_pv : pv.length ≤ 7 := Nat.le_trans (Nat.le_of_eq hpl) b_ps
      have b_S : S.length ≤ 7 := Nat.le_trans (Nat.le_of_eq hSl) b_ps
      have b_wv : wv.length ≤ 7 := Nat.le_trans (Nat.le_of_eq hwl) b_S
      have b_nv : nv.length ≤ 7 := Nat.le_trans (Nat.le_of_eq nl) b_ps
      have b_fr : fr.length ≤ 32 := Nat.le_trans (Nat.le_add_right _ _) (Nat.le_of_eq fl)
      have b_fv : fv.length ≤ 32 := Nat.le_trans (Nat.le_of_eq hfl) b_fr
      repeat' ((fail_if_success (with_reducible show wpAny _ _ (subscriptTail _ _ _ _) _ _ _)); first | (k_unfold; (try dsimp only)) | (k_end; wrow_close) | k_extra "fold" | k_extra "u3" | k_extra "u2" | k_extra "u1" | walk1 | (dsimp only; (first | k_extra "fold" | k_extra "u3" | k_extra "u2" | k_extra "u1" | walk1)) | (leave1; walk_say "STEP leave1"; try dsimp only) | fail "no step")
      rename_i tp hT FT NT lT
      refine Exists.elim (let_at _ _ _ _ _ _ hk7) fun lv hlv => my_itemT (l := tp) (mem_at 0 rfl) NT (by k_extra "om") (by k_extra "om") (by rw [Int.toNat_natCast, hpl]; exact hlv.1) ?_
      obtain ⟨_, hLet⟩ := hlv
      obtain ⟨tup0, NT2⟩ : ∃ o : Obj, News (ghostOf s1.heap [(105, 101)]) s1.heap.objs.size hT ((tp, o) :: (I, oI) :: (af, listOf fv.toArray fn) :: (ap, listOf pv.toArray pn) :: (an, listOf nv.toArray nn) :: (aw, listOf wv.toArray wn) :: (tt ++ B0)) := ⟨_, NT⟩
      clear NT
      repeat' ((fail_if_success (with_reducible show wpAny _ _ (call (Value.builtin "list.pop") _ _) _ _ _)); first | (k_unfold; (try dsimp only)) | (k_end; wrow_close) | k_extra "fold" | k_extra "u3" | k_extra "u2" | k_extra "u1" | walk1 | (dsimp only; (first | k_extra "fold" | k_extra "u3" | k_extra "u2" | k_extra "u1" | walk1)) | (leave1; walk_say "STEP leave1"; try dsimp only) | fail "no step")
      have hfm : Int.fmod y (fv.length : Int) = ((y.toNat % fr.length : Nat) : Int) := by
        rw [hfl]
        rw [Int.fmod_eq_emod_of_nonneg _ (by k_extra "om")]; push_cast; rw [Int.toNat_of_nonneg hy0]
      rw [hfm]
      have hjl : y.toNat % fr.length < fr.length := Nat.mod_lt _ (by k_extra "om")
      generalize y.toNat % fr.length = j at hjl ⊢
      obtain ⟨tpl, hpl2⟩ := ints_get fi hjl
      have hplm : fr.getD j 0 ∈ fr := getD_mem hjl
      have hpat : fr[j]? = some (fr.getD j 0) := getD_some hjl
      refine my_pop (by assumption) (by assumption) (mem_at 2 rfl) (by k_extra "om") hpl2 ?_
      generalize fr.getD j 0 = pl at hplm hpat hpl2 ⊢
      intro h10 F10 N10
      dsimp only
      obtain ⟨lT1, lT2, lT3, lT4, lT5, lT6⟩ := lT
      have lT7 := allLt_mem lT6
      have q1 : @Ne Nat af I := hne _ (mem_at 0 rfl)
      have q2 : @Ne Nat ap I := hne _ (mem_at 1 rfl)
      have q3 : @Ne Nat an I := hne _ (mem_at 2 rfl)
      have q4 : @Ne Nat aw I := hne _ (mem_at 3 rfl)
      have hoffB : ∀ p ∈ tt ++ B0, p.1 ≠ af ∧ p.1 ≠ ap ∧ p.1 ≠ an ∧ p.1 ≠ aw := by
        intro p hp
        rcases List.mem_append.mp hp with hp | hp
        · have h2 : @LT.lt Nat _ aw p.1 := off p hp
          exact ⟨Nat.ne_of_gt (Nat.lt_trans (Nat.lt_trans (Nat.lt_trans hap han) haw) h2), Nat.ne_of_gt (Nat.lt_trans (Nat.lt_trans han haw) h2), Nat.ne_of_gt (Nat.lt_trans haw h2), Nat.ne_of_gt h2⟩
        · have h1 : @LT.lt Nat _ p.1 af := hB0f p hp
          exact ⟨Nat.ne_of_lt h1, Nat.ne_of_lt (Nat.lt_trans h1 hap), Nat.ne_of_lt (Nat.lt_trans (Nat.lt_trans h1 hap) han), Nat.ne_of_lt (Nat.lt_trans (Nat.lt_trans (Nat.lt_trans h1 hap) han) haw)⟩
      rename News (ghostOf s1.heap [(105, 101)]) _ _ _ => NU
      have N11 : News (ghostOf s1.heap [(105, 101)]) s1.heap.objs.size h10 ((af, listOf (fv.take j ++ fv.drop (j + 1)).toArray (fn + 1)) :: (tp, tup0) :: (I, oI) :: (ap, listOf pv.toArray pn) :: (an, listOf nv.toArray nn) :: (aw, listOf wv.toArray wn) :: (tt ++ B0)) := by
        refine ledSet_clean NU fun p hp => ?_
        rcases List.mem_cons.mp hp with rfl | hp
        · exact ⟨mem_at 0 rfl, Nat.ne_of_gt lT2⟩
        · rcases List.mem_cons.mp hp with rfl | hp
          · exact ⟨mem_at 1 rfl, Ne.symm q1⟩
          · rcases List.mem_cons.mp hp with rfl | hp
            · exact ⟨mem_at 3 rfl, Nat.ne_of_gt hap⟩
            · rcases List.mem_cons.mp hp with rfl | hp
              · exact ⟨mem_at 4 rfl, Nat.ne_of_gt (Nat.lt_trans hap han)⟩
              · rcases List.mem_cons.mp hp with rfl | hp
                · exact ⟨mem_at 5 rfl, Nat.ne_of_gt (Nat.lt_trans (Nat.lt_trans hap han) haw)⟩
                · exact ⟨mem_tail 6 rfl hp, (hoffB p hp).1⟩
      clear NU
      obtain ⟨hp0, hp1⟩ := fb pl hplm
      have i0 := noInf_p hp0 hp1
      repeat' ((fail_if_success (with_reducible show wpAny _ _ (storeName _ (Str.ofString "share") _) _ _ _)); first | (k_unfold; (try dsimp only)) | (k_end; wrow_close) | k_extra "fold" | k_extra "u3" | k_extra "u2" | k_extra "u1" | walk1 | (dsimp only; (first | k_extra "fold" | k_extra "u3" | k_extra "u2" | k_extra "u1" | walk1)) | (leave1; walk_say "STEP leave1"; try dsimp only) | fail "no step")
      obtain ⟨hs0, hs1⟩ : 1 ≤ 1 + (y.fdiv 32).fmod 4 ∧ 1 + (y.fdiv 32).fmod 4 ≤ 4 := by
        have := Int.fmod_nonneg_of_pos (y.fdiv 32) (show (0 : Int) < 4 by decide)
        have := Int.fmod_lt_of_pos (y.fdiv 32) (show (0 : Int) < 4 by decide)
        k_extra "om"
      generalize 1 + (y.fdiv 32).fmod 4 = sh at hs0 hs1 ⊢
      repeat' ((fail_if_success (with_reducible show wpAny _ _ (storeName _ (Str.ofString "value") _) _ _ _)); first | (k_unfold; (try dsimp only)) | (k_end; wrow_close) | k_extra "fold" | k_extra "u3" | k_extra "u2" | k_extra "u1" | walk1 | (dsimp only; (first | k_extra "fold" | k_extra "u3" | k_extra "u2" | k_extra "u1" | walk1)) | (leave1; walk_say "STEP leave1"; try dsimp only) | fail "no step")
      obtain ⟨hv0, hv1⟩ : 1 ≤ 1 + (y.fdiv 128).fmod 4 ∧ 1 + (y.fdiv 128).fmod 4 ≤ 4 := by
        have := Int.fmod_nonneg_of_pos (y.fdiv 128) (show (0 : Int) < 4 by decide)
        have := Int.fmod_lt_of_pos (y.fdiv 128) (show (0 : Int) < 4 by decide)
        k_extra "om"
      generalize 1 + (y.fdiv 128).fmod 4 = va at hv0 hv1 ⊢
      have ht0 := Int.fmod_nonneg_of_pos (y.fdiv 512) (show (0 : Int) < 3 by decide)
      have ht1 := Int.fmod_lt_of_pos (y.fdiv 512) (show (0 : Int) < 3 by decide)
      have i1 := noInf_4 hs0 hs1
      have i2 := noInf_4 hv0 hv1
      unfold frac at i0 i1 i2
      repeat' ((fail_if_success (with_reducible show wpAny _ _ (call (Value.ref 28) _ _) _ _ _)); first | (k_unfold; (try dsimp only)) | (k_end; wrow_close) | k_extra "fold" | k_extra "u3" | k_extra "u2" | k_extra "u1" | walk1 | (dsimp only; (first | k_extra "fold" | k_extra "u3" | k_extra "u2" | k_extra "u1" | walk1)) | (leave1; walk_say "STEP leave1"; try dsimp only) | fail "no step")
      generalize (y.fdiv 512).fmod 3 = tn at ht0 ht1 ⊢
      obtain ⟨hok1, hok2, hok3⟩ := float_law hp0 hp1 hs0 hs1 hv0 hv1 ht0 ht1 rfl
      k_dflt (refine' Cl.use (c_hsv _ (aOf pl tn) (frac sh 4) (frac va 4) _ _ _ _ hok1) ?k1 ?k2 ?k3 ?k4 ?k5 ?k6 ?k7 ?k8 ?_; (case k1 => k_asm); (case k2 => k_asm); (case k3 => k_asm); (case k4 => k_asm); (case k5 => k_asm); (case k6 => exact rfl); (case k7 => ktr_room); (case k8 => ktr_units))
      intro t1 t2 t3 D1 h11 tk11 F11 N11 l11
      dsimp only
      generalize hsvF (aOf pl tn) (frac sh 4) (frac va 4) = x at hok2 hok3 N11
      obtain ⟨xr, xg, xb⟩ := x
      dsimp only at hok2 hok3 N11
      repeat' ((fail_if_success (with_reducible show wpAny _ _ (call (Value.ref 21) _ _) _ _ _)); first | (k_unfold; (try dsimp only)) | (k_end; wrow_close) | k_extra "fold" | k_extra "u3" | k_extra "u2" | k_extra "u1" | walk1 | (dsimp only; (first | k_extra "fold" | k_extra "u3" | k_extra "u2" | k_extra "u1" | walk1)) | (leave1; walk_say "STEP leave1"; try dsimp only) | fail "no step")
      k_dflt (refine' Cl.use (c_rgb _ xr xg xb _ _ _ _ hok2) ?k1 ?k2 ?k3 ?k4 ?k5 ?k6 ?k7 ?k8 ?_; (case k1 => k_asm); (case k2 => k_asm); (case k3 => k_asm); (case k4 => k_asm); (case k5 => k_asm); (case k6 => exact rfl); (case k7 => ktr_room); (case k8 => ktr_units))
      intro t4 t5 t6 D2 h12 tk12 F12 N12 l12 n4 n5 n6
      dsimp only
      rw [hok3] at N12
      have e1 : (toldF pl sh va).1 = frac pl 32 := rfl
      have hrf := told_refl hp0 hp1 hs0 hs1 hv0 hv1
      generalize hTD : toldF pl sh va = td at e1 hrf N12
      obtain ⟨hh, ll, dd⟩ := td
      dsimp only at e1 hrf N12
      subst e1
      repeat' ((fail_if_success (with_reducible show wpAny _ _ (call (Value.ref 99) _ _) _ _ _)); first | (k_unfold; (try dsimp only)) | (k_end; wrow_close) | k_extra "fold" | k_extra "u3" | k_extra "u2" | k_extra "u1" | walk1 | (dsimp only; (first | k_extra "fold" | k_extra "u3" | k_extra "u2" | k_extra "u1" | walk1)) | (leave1; walk_say "STEP leave1"; try dsimp only) | fail "no step")
      k_dflt (refine' Cl.use (c_told _ pl sh va _ _ _ _ ⟨hp0, hp1, hs0, hs1, hv0, hv1⟩) ?k1 ?k2 ?k3 ?k4 ?k5 ?k6 ?k7 ?k8 ?_; (case k1 => k_asm); (case k2 => k_asm); (case k3 => k_asm); (case k4 => k_asm); (case k5 => k_asm); (case k6 => exact rfl); (case k7 => ktr_room); (case k8 => ktr_units))
      intro t7 t8 t9 D3 h13 tk13 F13 N13 l13 n7 n8 n9
      dsimp only
      rw [hTD] at N13
      dsimp only at N13
      repeat' ((fail_if_success (with_reducible show wpAny _ _ (compareOp CmpOp.NotEq _ _) _ _ _)); first | (k_unfold; (try dsimp only)) | (k_end; wrow_close) | k_extra "fold" | k_extra "u3" | k_extra "u2" | k_extra "u1" | walk1 | (dsimp only; (first | k_extra "fold" | k_extra "u3" | k_extra "u2" | k_extra "u1" | walk1)) | (leave1; walk_say "STEP leave1"; try dsimp only) | fail "no step")
      refine my_ne3 (by assumption) (mem_at 1 rfl) (mem_at 0 rfl) n4 n5 n6 n7 n8 n9 hrf.1 hrf.2.1 hrf.2.2 (noneBooked (X'.keeps (Fr.keep (by assumption)))) (by first | units_room | exact Nat.le_of_ble_eq_true rfl) ?_
      (try dsimp only at hrf N13 l13)
      have NC : News (ghostOf s1.heap [(105, 101)]) s1.heap.objs.size h13 ((af, listOf (fv.take j ++ fv.drop (j + 1)).toArray (fn + 1)) :: (I, oI) :: (ap, listOf pv.toArray pn) :: (an, listOf nv.toArray nn) :: (aw, listOf wv.toArray wn) :: (tt ++ B0)) := by
        intro p hp
        refine N13 p ?_
        rcases List.mem_cons.mp hp with rfl | hp
        · exact mem_at 4 rfl
        · exact mem_tail 6 rfl hp
      clear N13
      repeat' ((fail_if_success (with_reducible show wpAny _ _ (subscriptTail _ _ _ _) _ _ _)); first | (k_unfold; (try dsimp only)) | (k_end; wrow_close) | k_extra "fold" | k_extra "u3" | k_extra "u2" | k_extra "u1" | walk1 | (dsimp only; (first | k_extra "fold" | k_extra "u3" | k_extra "u2" | k_extra "u1" | walk1)) | (leave1; walk_say "STEP leave1"; try dsimp only) | fail "no step")
      rename_i te hE FE NE lE
      refine Exists.elim (ext_at _ (y := y)) fun ev hev => my_itemT (l := te) (mem_at 0 rfl) NE (Int.fmod_nonneg_of_pos y (by decide)) (Int.lt_trans (Int.fmod_lt_of_pos y (by decide)) (by decide)) hev.1 ?_
      obtain ⟨_, hExt⟩ := hev
      repeat' ((fail_if_success (with_reducible show wpAny _ _ (call (Value.ref 85) _ _) _ _ _)); first | (k_unfold; (try dsimp only)) | (k_end; wrow_close) | k_extra "fold" | k_extra "u3" | k_extra "u2" | k_extra "u1" | walk1 | (dsimp only; (first | k_extra "fold" | k_extra "u3" | k_extra "u2" | k_extra "u1" | walk1)) | (leave1; walk_say "STEP leave1"; try dsimp only) | fail "no step")
      rename_i tq hq1 FQ NQ lQ
      obtain ⟨LD, kNQ, hLD⟩ : ∃ LD, News (ghostOf s1.heap [(105, 101)]) s1.heap.objs.size _ LD ∧ LD = _ := ⟨_, NQ, rfl⟩
      have hm0 := mem_nth hLD 0 rfl
      clear NQ
      k_dflt (refine' Cl.use (c_buildU _ tq ps.length (decide (y.fmod 2 = 1)) lv ev hLet hExt LD hm0) ?k1 ?k2 ?k3 ?k4 ?k5 ?k6 ?k7 ?k8 ?_; (case k1 => k_asm); (case k2 => k_asm); (case k3 => k_asm); (case k4 => k_asm); (case k5 => k_asm); (case k6 => exact rfl); (case k7 => ktr_room); (case k8 => ktr_units))
      intro t10 h14 tk14 F14 N14
      rw [hLD] at N14
      dsimp only
      repeat' ((fail_if_success (with_reducible show wpAny _ _ (call (Value.ref 37) _ _) _ _ _)); first | (k_unfold; (try dsimp only)) | (k_end; wrow_close) | k_extra "fold" | k_extra "u3" | k_extra "u2" | k_extra "u1" | walk1 | (dsimp only; (first | k_extra "fold" | k_extra "u3" | k_extra "u2" | k_extra "u1" | walk1)) | (leave1; walk_say "STEP leave1"; try dsimp only) | fail "no step")
      rename_i hq2 dw h16 FW NW lW
      have NW2 : News (ghostOf s1.heap [(105, 101)]) s1.heap.objs.size h16 ((dw, tup2 (.float (frac pl 32) t4) (.str (nameS ps.length (decide (y.fmod 2 = 1))) t10)) :: (af, listOf (fv.take j ++ fv.drop (j + 1)).toArray (fn + 1)) :: (I, oI) :: (ap, listOf pv.toArray pn) :: (an, listOf nv.toArray nn) :: (aw, listOf wv.toArray wn) :: (tt ++ B0)) := by
        intro p hp
        refine NW p ?_
        rcases List.mem_cons.mp hp with rfl | hp
        · exact .head _
        · exact mem_tail 3 rfl hp
      clear NW
      obtain ⟨lW1, lW2, lW3, lW4, lW5, lW6, lW7, lW8⟩ := lW
      have lW9 := allLt_mem lW8
      obtain ⟨LD2, kN2, hLD2⟩ : ∃ LD, News (ghostOf s1.heap [(105, 101)]) s1.heap.objs.size _ LD ∧ LD = _ := ⟨_, NW2, rfl⟩
      have hm2 := mem_nth hLD2 0 rfl
      have hmw := mem_nth hLD2 5 rfl
      have hsubB : ∀ p ∈ tt ++ B0, p ∈ LD2 := fun p hp => by rw [hLD2]; exact mem_tail 6 rfl hp
      clear NW2
      have hplS : pl ∉ S := fun h => pf pl (sp.subset h) hplm
      have hSb : ∀ p ∈ S, 0 ≤ p ∧ p < 32 := fun p hp => pb p (sp.subset hp)
      k_dflt (refine' Cl.use (c_insort_right _ aw wn wv (S.map fun p => frac p 32) (frac pl 32) t4 LD2 hmw (by rw [List.length_map]; exact hwl) (by rw [List.length_map]; k_extra "om") ?hv (fun k => fLt (frac pl 32) k) (fun _ => rfl) ?mono dw _ hm2) ?k1 ?k2 ?k3 ?k4 ?k5 ?k6 ?k7 ?k8 ?_; (case k1 => k_asm); (case k2 => k_asm); (case k3 => k_asm); (case k4 => k_asm); (case k5 => k_asm); (case k6 => exact rfl); (case k7 => ktr_room); (case k8 => ktr_units))
      case hv =>
        intro i q hq
        rw [List.getElem?_map] at hq
        cases hp : S[i]? with
        | none => rw [hp] at hq; cases hq
        | some p =>
          rw [hp] at hq
          cases hq
          obtain ⟨v, hv1, a, t, t', rfl, hm⟩ := lt.get hp
          exact ⟨a, t, _, hv1, hsubB _ hm⟩
      case mono =>
        intro i j a b h1 h2 h3 h4
        rw [List.getElem?_map] at h1 h2
        cases hp : S[i]? with
        | none => rw [hp] at h1; cases h1
        | some p =>
          cases hq : S[j]? with
          | none => rw [hq] at h2; cases h2
          | some q =>
            rw [hp] at h1; rw [hq] at h2
            cases h1; cases h2
            have p1 := hSb p (List.mem_of_getElem? hp)
            have p2 := hSb q (List.mem_of_getElem? hq)
            have hpq : p ≤ q := by
              rcases Nat.lt_or_eq_of_le h3 with h5 | h5
              · exact Int.le_of_lt (pw_at ss hp hq h5)
              · subst h5; rw [hp] at hq; cases hq; exact Int.le_refl _
            rw [hue_lt hp0 hp1 p1.1 p1.2] at h4
            rw [hue_lt hp0 hp1 p2.1 p2.2]
            simp only [decide_eq_true_eq] at h4 ⊢
            k_extra "om"
      intro r hr ha hb h17 tk17 F17 N17
      dsimp only
      rw [hLD2] at N17
      have hr1 : ∀ (i : Nat) (p : Int), i < r → S[i]? = some p → p < pl := by
        intro i p h1 h2
        have h3 := ha i (frac p 32) h1 (by rw [List.getElem?_map, h2]; rfl)
        have p1 := hSb p (List.mem_of_getElem? h2)
        rw [hue_lt hp0 hp1 p1.1 p1.2] at h3
        have h4 : ¬ pl < p := of_decide_eq_false h3
        have h5 : p ≠ pl := fun e => hplS (e ▸ List.mem_of_getElem? h2)
        k_extra "om"
      have hr2 : ∀ (i : Nat) (p : Int), r ≤ i → S[i]? = some p → pl < p := by
        intro i p h1 h2
        have h3 := hb i (frac p 32) h1 (by rw [List.getElem?_map, h2]; rfl)
        have p1 := hSb p (List.mem_of_getElem? h2)
        rw [hue_lt hp0 hp1 p1.1 p1.2] at h3
        exact of_decide_eq_true h3
      have q5 : @Ne Nat aw af := Nat.ne_of_gt (Nat.lt_trans (Nat.lt_trans hap han) haw)
      have q6 : @Ne Nat aw ap := Nat.ne_of_gt (Nat.lt_trans han haw)
      have q7 : @Ne Nat aw an := Nat.ne_of_gt haw
      have q8 : @Ne Nat ap af := Nat.ne_of_gt hap
      have q9 : @Ne Nat ap an := Nat.ne_of_lt han
      have q10 : @Ne Nat an af := Nat.ne_of_gt (Nat.lt_trans hap han)
      have N18 : News (ghostOf s1.heap [(105, 101)]) s1.heap.objs.size h17 ((aw, listOf (wv.take r ++ Value.ref dw :: wv.drop r).toArray (wn + 1)) :: (dw, tup2 (.float (frac pl 32) t4) (.str (nameS ps.length (decide (y.fmod 2 = 1))) t10)) :: (af, listOf (fv.take j ++ fv.drop (j + 1)).toArray (fn + 1)) :: (I, oI) :: (ap, listOf pv.toArray pn) :: (an, listOf nv.toArray nn) :: (tt ++ B0)) := by
        refine ledSet_clean N17 fun p hp => ?_
        rcases List.mem_cons.mp hp with rfl | hp
        · exact ⟨mem_at 0 rfl, Nat.ne_of_gt lW7⟩
        · rcases List.mem_cons.mp hp with rfl | hp
          · exact ⟨mem_at 1 rfl, Ne.symm q5⟩
          · rcases List.mem_cons.mp hp with rfl | hp
            · exact ⟨mem_at 2 rfl, Ne.symm q4⟩
            · rcases List.mem_cons.mp hp with rfl | hp
              · exact ⟨mem_at 3 rfl, Ne.symm q6⟩
              · rcases List.mem_cons.mp hp with rfl | hp
                · exact ⟨mem_at 4 rfl, Ne.symm q7⟩
                · exact ⟨mem_tail 6 rfl hp, (hoffB p hp).2.2.2⟩
      clear N17 kN2
      repeat' ((fail_if_success (with_reducible show wpAny _ _ (call (Value.builtin "list.append") _ _) _ _ _)); first | (k_unfold; (try dsimp only)) | (k_end; wrow_close) | k_extra "fold" | k_extra "u3" | k_extra "u2" | k_extra "u1" | walk1 | (dsimp only; (first | k_extra "fold" | k_extra "u3" | k_extra "u2" | k_extra "u1" | walk1)) | (leave1; walk_say "STEP leave1"; try dsimp only) | fail "no step")
      refine my_append (li := pv) (n := pn) (by assumption) (by assumption) (mem_at 4 rfl) (by k_extra "om") ?_
      intro h18 F18 N18'
      dsimp only
      have N19 : News (ghostOf s1.heap [(105, 101)]) s1.heap.objs.size h18 ((ap, listOf (pv ++ [Value.int pl tpl]).toArray (pn + 1)) :: (aw, listOf (wv.take r ++ Value.ref dw :: wv.drop r).toArray (wn + 1)) :: (dw, tup2 (.float (frac pl 32) t4) (.str (nameS ps.length (decide (y.fmod 2 = 1))) t10)) :: (af, listOf (fv.take j ++ fv.drop (j + 1)).toArray (fn + 1)) :: (I, oI) :: (an, listOf nv.toArray nn) :: (tt ++ B0)) := by
        refine ledSet_clean N18' fun p hp => ?_
        rcases List.mem_cons.mp hp with rfl | hp
        · exact ⟨mem_at 0 rfl, q6⟩
        · rcases List.mem_cons.mp hp with rfl | hp
          · exact ⟨mem_at 1 rfl, Nat.ne_of_gt lW5⟩
          · rcases List.mem_cons.mp hp with rfl | hp
            · exact ⟨mem_at 2 rfl, Ne.symm q8⟩
            · rcases List.mem_cons.mp hp with rfl | hp
              · exact ⟨mem_at 3 rfl, Ne.symm q2⟩
              · rcases List.mem_cons.mp hp with rfl | hp
                · exact ⟨mem_at 5 rfl, Ne.symm q9⟩
                · exact ⟨mem_tail 6 rfl hp, (hoffB p hp).2.1⟩
      clear N18' N18
      have hlen1 := letS_len hk7
      have hlnil := letS_nil hk7
      have hletC : letS 0 = Str.ofString "C" := rfl
      repeat' ((fail_if_success (with_reducible show wpAny _ _ (eval (Expr.BoolOp _ _ _) _) _ _ _)); first | (k_unfold; (try dsimp only)) | (k_end; wrow_close) | k_extra "fold" | k_extra "u3" | k_extra "u2" | k_extra "u1" | walk1 | (dsimp only; (first | k_extra "fold" | k_extra "u3" | k_extra "u2" | k_extra "u1" | walk1)) | (leave1; walk_say "STEP leave1"; try dsimp only) | fail "no step")
      refine wpAny_mono (Q := IsStrS (letS ps.length) s1 h18) ?bo ?go (fun _ _ e => e)
      case bo =>
        rcases hLet with ⟨hk0, rfl⟩ | ⟨hk0, _, tl, rfl⟩
        · have hlC : letS ps.length = Str.ofString "C" := by rw [hk0]; rfl
          repeat' (first | (k_unfold; (try dsimp only)) | (k_end; wrow_close) | k_extra "fold" | k_extra "u3" | k_extra "u2" | k_extra "u1" | walk1 | (dsimp only; (first | k_extra "fold" | k_extra "u3" | k_extra "u2" | k_extra "u1" | walk1)) | (leave1; walk_say "STEP leave1"; try dsimp only) | fail "no step")
          rw [hlC]
          exact ⟨_, _, rfl, rfl⟩
        · have hC1 : (Str.ofString "C").length = 1 := rfl
          repeat' (first | (k_unfold; (try dsimp only)) | (k_end; wrow_close) | k_extra "fold" | k_extra "u3" | k_extra "u2" | k_extra "u1" | walk1 | (dsimp only; (first | k_extra "fold" | k_extra "u3" | k_extra "u2" | k_extra "u1" | walk1)) | (leave1; walk_say "STEP leave1"; try dsimp only) | fail "no step")
          all_goals first | exact ⟨_, _, rfl, rfl⟩ | (exfalso; k_extra "om")
      case go =>
        rintro v9 s9 ⟨t9, tk9, rfl, rfl⟩
        dsimp only
        have hC1 : (Str.ofString "C").length = 1 := rfl
        repeat' ((fail_if_success (with_reducible show wpAny _ _ (subscriptTail _ _ _ _) _ _ _)); first | (k_unfold; (try dsimp only)) | (k_end; wrow_close) | k_extra "fold" | k_extra "u3" | k_extra "u2" | k_extra "u1" | walk1 | (dsimp only; (first | k_extra "fold" | k_extra "u3" | k_extra "u2" | k_extra "u1" | walk1)) | (leave1; walk_say "STEP leave1"; try dsimp only) | fail "no step")
        rename_i td hD FD ND lD
        refine Exists.elim (dot_at _ _ (y := y) (l := letS ps.length) hlnil) fun ed hed => Exists.elim hed fun ted hed => my_itemT (l := td) (mem_at 0 rfl) ND (Int.fmod_nonneg_of_pos y (by decide)) (Int.lt_trans (Int.fmod_lt_of_pos y (by decide)) (by decide)) hed.1 ?_
        obtain ⟨_, hed2, hed3⟩ := hed
        have hed4 : letS ps.length ++ ed = nameS ps.length (decide (y.fmod 2 = 1)) := by unfold nameS; exact hed2
        repeat' ((fail_if_success (with_reducible show wpAny _ _ (call (Value.builtin "list.append") _ _) _ _ _)); first | (k_unfold; (try dsimp only)) | (k_end; wrow_close) | k_extra "fold" | k_extra "u3" | k_extra "u2" | k_extra "u1" | walk1 | (dsimp only; (first | k_extra "fold" | k_extra "u3" | k_extra "u2" | k_extra "u1" | walk1)) | (leave1; walk_say "STEP leave1"; try dsimp only) | fail "no step")
        rename_i dt h19 FN NN lN
        rw [hed4] at NN
        obtain ⟨lN1, lN2, lN3, lN4, lN5, lN6, lN7, lN8⟩ := lN
        have lN9 := allLt_mem lN8
        obtain ⟨t11, NN2⟩ : ∃ t11 : Tok, News (ghostOf s1.heap [(105, 101)]) s1.heap.objs.size h19 ((dt, tup2 (.int pl tpl) (.str (nameS ps.length (decide (y.fmod 2 = 1))) t11)) :: (ap, listOf (pv ++ [Value.int pl tpl]).toArray (pn + 1)) :: (aw, listOf (wv.take r ++ Value.ref dw :: wv.drop r).toArray (wn + 1)) :: (dw, tup2 (.float (frac pl 32) t4) (.str (nameS ps.length (decide (y.fmod 2 = 1))) t10)) :: (af, listOf (fv.take j ++ fv.drop (j + 1)).toArray (fn + 1)) :: (I, oI) :: (an, listOf nv.toArray nn) :: (tt ++ B0)) := by
          exact ⟨_, news_drop2 NN⟩
        clear NN
        refine my_append (li := nv) (n := nn) (by assumption) NN2 (mem_at 6 rfl) (by k_extra "om") ?_
        intro h20 F20 N20
        dsimp only
        have N21 : News (ghostOf s1.heap [(105, 101)]) s1.heap.objs.size h20 ((an, listOf (nv ++ [Value.ref dt]).toArray (nn + 1)) :: (dt, tup2 (.int pl tpl) (.str (nameS ps.length (decide (y.fmod 2 = 1))) t11)) :: (ap, listOf (pv ++ [Value.int pl tpl]).toArray (pn + 1)) :: (aw, listOf (wv.take r ++ Value.ref dw :: wv.drop r).toArray (wn + 1)) :: (dw, tup2 (.float (frac pl 32) t4) (.str (nameS ps.length (decide (y.fmod 2 = 1))) t10)) :: (af, listOf (fv.take j ++ fv.drop (j + 1)).toArray (fn + 1)) :: (I, oI) :: (tt ++ B0)) := by
          refine ledSet_clean N20 fun p hp => ?_
          rcases List.mem_cons.mp hp with rfl | hp
          · exact ⟨mem_at 0 rfl, Nat.ne_of_gt lN7⟩
          · rcases List.mem_cons.mp hp with rfl | hp
            · exact ⟨mem_at 1 rfl, q9⟩
            · rcases List.mem_cons.mp hp with rfl | hp
              · exact ⟨mem_at 2 rfl, q7⟩
              · rcases List.mem_cons.mp hp with rfl | hp
                · exact ⟨mem_at 3 rfl, Nat.ne_of_gt lW6⟩
                · rcases List.mem_cons.mp hp with rfl | hp
                  · exact ⟨mem_at 4 rfl, Ne.symm q10⟩
                  · rcases List.mem_cons.mp hp with rfl | hp
                    · exact ⟨mem_at 5 rfl, Ne.symm q3⟩
                    · exact ⟨mem_tail 7 rfl hp, (hoffB p hp).2.2.1⟩
        clear N20 NN2
        repeat' (first | (k_unfold; (try dsimp only)) | (k_end; wrow_close) | k_extra "fold" | k_extra "u3" | k_extra "u2" | k_extra "u1" | walk1 | (dsimp only; (first | k_extra "fold" | k_extra "u3" | k_extra "u2" | k_extra "u1" | walk1)) | (leave1; walk_say "STEP leave1"; try dsimp only) | fail "no step")
        refine ⟨_, _, _, _, ⟨fv.take j ++ fv.drop (j + 1), fn + 1, fr.take j ++ fr.drop (j + 1), pv ++ [Value.int pl tpl], pn + 1, ps ++ [pl], nv ++ [Value.ref dt], nn + 1, nms ++ [nameS ps.length (decide (y.fmod 2 = 1))], wv.take r ++ Value.ref dw :: wv.drop r, wn + 1, S.take r ++ pl :: S.drop r,
          (dw, tup2 (.float (frac pl 32) t4) (.str (nameS ps.length (decide (y.fmod 2 = 1))) t10)) :: (dt, tup2 (.int pl tpl) (.str (nameS ps.length (decide (y.fmod 2 = 1))) t11)) :: tt⟩, rfl, by assumption, N21, mem_at 6 rfl, ?d1, ?d2, trivial, ?d3, ?d4⟩
        case d1 =>
          intro p hp
          rcases List.mem_cons.mp hp with rfl | hp
          · exact mem_at 5 rfl
          · rcases List.mem_cons.mp hp with rfl | hp
            · exact mem_at 2 rfl
            · rcases List.mem_cons.mp hp with rfl | hp
              · exact mem_at 0 rfl
              · rcases List.mem_cons.mp hp with rfl | hp
                · exact mem_at 3 rfl
                · rcases List.mem_cons.mp hp with rfl | hp
                  · exact mem_at 4 rfl
                  · rcases List.mem_cons.mp hp with rfl | hp
                    · exact mem_at 1 rfl
                    · exact mem_tail 7 rfl hp
        case d2 =>
          intro p hp
          rcases List.mem_cons.mp hp with rfl | hp
          · exact q1
          · rcases List.mem_cons.mp hp with rfl | hp
            · exact q2
            · rcases List.mem_cons.mp hp with rfl | hp
              · exact q3
              · rcases List.mem_cons.mp hp with rfl | hp
                · exact q4
                · rcases List.mem_cons.mp hp with rfl | hp
                  · exact Nat.ne_of_gt lW4
                  · rcases List.mem_cons.mp hp with rfl | hp
                    · exact Nat.ne_of_gt lN6
                    · exact hne p (mem_tail 4 rfl hp)
        case d3 =>
          intro yy h1 h2
          have e1 : yy ≠ Str.ofString "letter" := nc h2 rfl
          have e2 : yy ≠ Str.ofString "place" := nc h2 rfl
          have e3 : yy ≠ Str.ofString "share" := nc h2 rfl
          have e4 : yy ≠ Str.ofString "value" := nc h2 rfl
          have e5 : yy ≠ Str.ofString "red" := nc h2 rfl
          have e6 : yy ≠ Str.ofString "green" := nc h2 rfl
          have e7 : yy ≠ Str.ofString "blue" := nc h2 rfl
          have e8 : yy ≠ Str.ofString "hue" := nc h2 rfl
          have e9 : yy ≠ Str.ofString "light" := nc h2 rfl
          have e10 : yy ≠ Str.ofString "depth" := nc h2 rfl
          have e11 : yy ≠ Str.ofString "name" := nc h2 rfl
          (try dsimp +zetaDelta only)
          simp only [if_neg e1, if_neg e2, if_neg e3, if_neg e4, if_neg e5, if_neg e6, if_neg e7, if_neg e8, if_neg e9, if_neg e10, if_neg e11, if_neg h1]
          exact frameM_out (by rfl) h2
        case d4 =>
          exact lawK_step (z := ⟨fv, fn, fr, pv, pn, ps, nv, nn, nms, wv, wn, S, tt⟩) ⟨fi, fl, fb, fnd, pi, rfl, pnd, pb, pf, sp, ss, ml, mn, lt, nl, na, off⟩ hpat (show r ≤ S.length from Nat.le_trans (m := wv.length) (by assumption) (Nat.le_of_eq hwl)) hr1 hr2 lW7 lN3 (show ps.length < 32 by k_extra "om")
end

end Mine
theorem PySem.Challenge.cw_re0092_01_holds : PySem.Challenge.rw_re0092_01.Holds := by
  exact Mine.law_walk
