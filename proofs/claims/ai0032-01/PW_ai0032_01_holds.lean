import PyProof.Rows.All
import Wide.All
import OpenK.AllK
import Wide.FinOn
import Lean
import PySem.Challenge.RW_ai0032_01
open PySem PySem.W PyProof.Rows PySem.Calls PySem.Spec
set_option Elab.async false
set_option maxRecDepth 100000
set_option maxHeartbeats 16000000
set_option rowWalk.seconds 0
set_option linter.all false
namespace Mine
theorem drop_it {p : Prop} (x : p) (_ : x = x) : p := x
abbrev Aside {p : Prop} (_ : p) : Type 1 := Type
def aside {p : Prop} (x : p) (T : Aside x) (t : T) : T := t
theorem quiet {p : Prop} (x : p) (_ : Aside x) : p := x
section
local macro_rules | `(tactic| o_head $_) => `(tactic| skip)
set_option Elab.async true in
theorem hd0 : True := by
 exact Mine.quiet _ (type_of% (Mine.aside (by
  refine (?F : (PySem.Challenge.rw_ai0032_01.wellSaid = true → PySem.Challenge.rw_ai0032_01.Holds) → True) ?h
  case h =>
    (w_on; intro pp; refine holds_law pp fun said => ?_; k_head)
    apply_rules (newGoals := .nonDependentOnly) (maxDepth := 1) -symm -exfalso only [drop_it]
    all_goals rfl
  exact fun _ => trivial
 ) (by exact Nat) _))
end
theorem fill_all : PySem.Challenge.rw_ai0032_01 = PySem.Challenge.rw_ai0032_01 ∧ hd0.heap_1_1 = hd0.heap_1_1 := by
  k_fill
  exact ⟨rfl, rfl⟩
theorem ne_allLt {d : Addr} : ∀ {l : List (Addr × Obj)}, AllLt d l → ∀ p ∈ l, p.1 ≠ d
  | [], _, _, h => nomatch h
  | _ :: _, h, p, hp => by
    rcases List.mem_cons.mp hp with rfl | hp
    · exact Nat.ne_of_lt h.1
    · exact ne_allLt h.2 p hp

theorem all_nil {α : Type} {P : α → Prop} : ∀ x ∈ ([] : List α), P x := fun _ h => nomatch h
theorem all_cons {α : Type} {P : α → Prop} {a : α} {l : List α} (h : P a) (t : ∀ x ∈ l, P x) : ∀ x ∈ a :: l, P x := List.forall_mem_cons.mpr ⟨h, t⟩
theorem ne_nil9 {a : Addr} : ∀ p ∈ ([] : List (Addr × Obj)), p.1 ≠ a := fun _ h => nomatch h
theorem ne_cons9 {a b : Addr} {o : Obj} {l : List (Addr × Obj)} (h : b ≠ a) (t : ∀ p ∈ l, p.1 ≠ a) : ∀ p ∈ (b, o) :: l, p.1 ≠ a := List.forall_mem_cons.mpr ⟨h, t⟩
theorem gt_ne0 {a b : Nat} (h : a < b) : b ≠ a := Nat.ne_of_gt h
theorem lt_ne1 {a b : Nat} (h : a < b) : a ≠ b + 1 := by omega
theorem gt_ne1 {a b : Nat} (h : a < b) : b + 1 ≠ a := by omega
theorem s_ne1 {b : Nat} : b + 1 ≠ b := by omega
theorem r_ne1 {b : Nat} : b ≠ b + 1 := by omega
theorem lt_ne2 {a b : Nat} (h : a < b) : a ≠ b + 1 + 1 := by omega
theorem gt_ne2 {a b : Nat} (h : a < b) : b + 1 + 1 ≠ a := by omega
theorem s_ne2 {b : Nat} : b + 1 + 1 ≠ b := by omega
theorem r_ne2 {b : Nat} : b ≠ b + 1 + 1 := by omega
theorem lt_ne3 {a b : Nat} (h : a < b) : a ≠ b + 1 + 1 + 1 := by omega
theorem gt_ne3 {a b : Nat} (h : a < b) : b + 1 + 1 + 1 ≠ a := by omega
theorem r_ne3 {b : Nat} : b ≠ b + 1 + 1 + 1 := by omega
theorem lt_ne4 {a b : Nat} (h : a < b) : a ≠ b + 1 + 1 + 1 + 1 := by omega
theorem gt_ne4 {a b : Nat} (h : a < b) : b + 1 + 1 + 1 + 1 ≠ a := by omega
theorem off2 {d b N x1 x2 : Nat} (h : d + b < N) (hb : Nat.ble (x1 + x2) b = true) : d + x1 + x2 < N := by have := Nat.le_of_ble_eq_true hb; omega
theorem off3_i1 {I C D a : Addr} {o : Obj} {l : List (Addr × Obj)} (h : LCg.Off3 I C D l) (hm : (a, o) ∈ l) : I ≠ a := Ne.symm (LCg.Off3.mem h _ hm).1
theorem off3_c1 {I C D a : Addr} {o : Obj} {l : List (Addr × Obj)} (h : LCg.Off3 I C D l) (hm : (a, o) ∈ l) : C ≠ a := Ne.symm (LCg.Off3.mem h _ hm).2.1
theorem off3_d1 {I C D a : Addr} {o : Obj} {l : List (Addr × Obj)} (h : LCg.Off3 I C D l) (hm : (a, o) ∈ l) : D ≠ a := Ne.symm (LCg.Off3.mem h _ hm).2.2
theorem off1_D {D : Addr} : ∀ {l : List (Addr × Obj)}, LCg.Off1 D l → ∀ p ∈ l, p.1 ≠ D
  | [], _, _, h => nomatch h
  | _ :: _, x, p, h => by
    rcases List.mem_cons.mp h with rfl | h
    · exact x.1
    · exact off1_D x.2 p h
theorem off1_d1 {D a : Addr} {o : Obj} {l : List (Addr × Obj)} (h : LCg.Off1 D l) (hm : (a, o) ∈ l) : D ≠ a := Ne.symm (off1_D h _ hm)
theorem ltm_0 {T a : Addr} {o : Obj} {l : List (Addr × Obj)} (h : ∀ p ∈ l, p.1 < T) (hm : (a, o) ∈ l) : a ≠ T := Nat.ne_of_lt (h _ hm)
theorem ltm_1 {T a : Addr} {o : Obj} {l : List (Addr × Obj)} (h : ∀ p ∈ l, p.1 < T) (hm : (a, o) ∈ l) : T ≠ a := Nat.ne_of_gt (h _ hm)
theorem nm_a {a N : Int} {k : Nat} (h : a ≤ (OfNat.ofNat k : Int)) (hn : decide ((OfNat.ofNat k : Int) < N) = true) : a < N := Int.lt_of_le_of_lt h (of_decide_eq_true hn)
theorem nm_b {a N : Int} {k : Nat} (h : a < (OfNat.ofNat k : Int)) (hn : decide ((OfNat.ofNat k : Int) ≤ N) = true) : a < N := Int.lt_of_lt_of_le h (of_decide_eq_true hn)
theorem nm_c {a N : Int} {k : Nat} (h : a ≤ (OfNat.ofNat k : Int)) (hn : decide ((OfNat.ofNat k : Int) ≤ N) = true) : a ≤ N := Int.le_trans h (of_decide_eq_true hn)
theorem nm_e {a N : Int} {k : Nat} (h : (OfNat.ofNat k : Int) ≤ a) (hn : decide (N ≤ (OfNat.ofNat k : Int)) = true) : N ≤ a := Int.le_trans (of_decide_eq_true hn) h
theorem nn_c {a k N : Nat} (h : a ≤ (OfNat.ofNat k : Nat)) (hn : decide ((OfNat.ofNat k : Nat) ≤ N) = true) : a ≤ N := Nat.le_trans h (of_decide_eq_true hn)
theorem nc_a {n k : Nat} {N : Int} (h : n ≤ (OfNat.ofNat k : Nat)) (hn : decide (((OfNat.ofNat k : Nat) : Int) < N) = true) : (n : Int) < N := Int.lt_of_le_of_lt (Int.ofNat_le.mpr h) (of_decide_eq_true hn)
theorem nc_c {n k : Nat} {N : Int} (h : n ≤ (OfNat.ofNat k : Nat)) (hn : decide (((OfNat.ofNat k : Nat) : Int) ≤ N) = true) : (n : Int) ≤ N := Int.le_trans (Int.ofNat_le.mpr h) (of_decide_eq_true hn)
theorem nc_e {n : Nat} {N : Int} (hn : decide (N ≤ 0) = true) : N ≤ (n : Int) := Int.le_trans (of_decide_eq_true hn) (Int.natCast_nonneg n)
theorem nz_e {n : Nat} {N : Int} (hn : decide (N ≤ 0) = true) : N ≤ 0 + (n : Int) := by rw [Int.zero_add]; exact nc_e hn
theorem no_a1 {a N x1 : Int} {b : Nat} (h : a < (OfNat.ofNat b : Int)) (hb : decide ((OfNat.ofNat b : Int) + (x1) ≤ N) = true) : a + x1 < N := by have := of_decide_eq_true hb; omega
theorem no_c1 {a N x1 : Int} (h : N ≤ a) (hb : decide (0 ≤ x1) = true) : N ≤ a + x1 := by have := of_decide_eq_true hb; omega
theorem no_a2 {a N x1 x2 : Int} {b : Nat} (h : a < (OfNat.ofNat b : Int)) (hb : decide ((OfNat.ofNat b : Int) + (x1 + x2) ≤ N) = true) : a + x1 + x2 < N := by have := of_decide_eq_true hb; omega
theorem no_c2 {a N x1 x2 : Int} (h : N ≤ a) (hb : decide (0 ≤ x1 + x2) = true) : N ≤ a + x1 + x2 := by have := of_decide_eq_true hb; omega
theorem no_e2 {a y x1 x2 : Int} (hb : decide (x1 + x2 ≤ y) = true) : a + x1 + x2 ≤ a + y := by have := of_decide_eq_true hb; omega
theorem no_a3 {a N x1 x2 x3 : Int} {b : Nat} (h : a < (OfNat.ofNat b : Int)) (hb : decide ((OfNat.ofNat b : Int) + (x1 + x2 + x3) ≤ N) = true) : a + x1 + x2 + x3 < N := by have := of_decide_eq_true hb; omega
theorem no_c3 {a N x1 x2 x3 : Int} (h : N ≤ a) (hb : decide (0 ≤ x1 + x2 + x3) = true) : N ≤ a + x1 + x2 + x3 := by have := of_decide_eq_true hb; omega
theorem no_e3 {a y x1 x2 x3 : Int} (hb : decide (x1 + x2 + x3 ≤ y) = true) : a + x1 + x2 + x3 ≤ a + y := by have := of_decide_eq_true hb; omega
theorem no_a4 {a N x1 x2 x3 x4 : Int} {b : Nat} (h : a < (OfNat.ofNat b : Int)) (hb : decide ((OfNat.ofNat b : Int) + (x1 + x2 + x3 + x4) ≤ N) = true) : a + x1 + x2 + x3 + x4 < N := by have := of_decide_eq_true hb; omega
theorem no_c4 {a N x1 x2 x3 x4 : Int} (h : N ≤ a) (hb : decide (0 ≤ x1 + x2 + x3 + x4) = true) : N ≤ a + x1 + x2 + x3 + x4 := by have := of_decide_eq_true hb; omega
theorem no_e4 {a y x1 x2 x3 x4 : Int} (hb : decide (x1 + x2 + x3 + x4 ≤ y) = true) : a + x1 + x2 + x3 + x4 ≤ a + y := by have := of_decide_eq_true hb; omega
theorem cjl0 {d : Prop} {x y : Nat} (h : x < y ∧ d) : x ≠ y := Nat.ne_of_lt h.1
theorem cjl1 {p0 d : Prop} {x y : Nat} (h : p0 ∧ x < y ∧ d) : x ≠ y := Nat.ne_of_lt h.2.1
theorem cjg1 {p0 d : Prop} {x y : Nat} (h : p0 ∧ x < y ∧ d) : y ≠ x := Nat.ne_of_gt h.2.1
theorem cjg2 {p0 p1 d : Prop} {x y : Nat} (h : p0 ∧ p1 ∧ x < y ∧ d) : y ≠ x := Nat.ne_of_gt h.2.2.1
theorem cjl2e {p0 p1 : Prop} {x y : Nat} (h : p0 ∧ p1 ∧ x < y) : x ≠ y := Nat.ne_of_lt h.2.2
theorem cjg3 {p0 p1 p2 d : Prop} {x y : Nat} (h : p0 ∧ p1 ∧ p2 ∧ x < y ∧ d) : y ≠ x := Nat.ne_of_gt h.2.2.2.1
theorem cjg4 {p0 p1 p2 p3 d : Prop} {x y : Nat} (h : p0 ∧ p1 ∧ p2 ∧ p3 ∧ x < y ∧ d) : y ≠ x := Nat.ne_of_gt h.2.2.2.2.1
theorem cjg6 {p0 p1 p2 p3 p4 p5 d : Prop} {x y : Nat} (h : p0 ∧ p1 ∧ p2 ∧ p3 ∧ p4 ∧ p5 ∧ x < y ∧ d) : y ≠ x := Nat.ne_of_gt h.2.2.2.2.2.2.1
theorem cjg7 {p0 p1 p2 p3 p4 p5 p6 d : Prop} {x y : Nat} (h : p0 ∧ p1 ∧ p2 ∧ p3 ∧ p4 ∧ p5 ∧ p6 ∧ x < y ∧ d) : y ≠ x := Nat.ne_of_gt h.2.2.2.2.2.2.2.1
theorem no_c5 {a N x1 x2 x3 x4 x5 : Int} (h : N ≤ a) (hb : decide (0 ≤ x1 + x2 + x3 + x4 + x5) = true) : N ≤ a + x1 + x2 + x3 + x4 + x5 := by have := of_decide_eq_true hb; omega
theorem no_e5 {a y x1 x2 x3 x4 x5 : Int} (hb : decide (x1 + x2 + x3 + x4 + x5 ≤ y) = true) : a + x1 + x2 + x3 + x4 + x5 ≤ a + y := by have := of_decide_eq_true hb; omega
theorem no_g1 {a t y x1 : Int} (h : a ≤ t + x1) (hb : decide (x1 ≤ y) = true) : a ≤ t + y := by have := of_decide_eq_true hb; omega
theorem nle_1 {a x1 : Nat} : a ≤ a + x1 := by omega
theorem no_g2 {a t y x1 x2 : Int} (h : a ≤ t + x1 + x2) (hb : decide (x1 + x2 ≤ y) = true) : a ≤ t + y := by have := of_decide_eq_true hb; omega
theorem nle_2 {a x1 x2 : Nat} : a ≤ a + x1 + x2 := by omega
theorem no_g3 {a t y x1 x2 x3 : Int} (h : a ≤ t + x1 + x2 + x3) (hb : decide (x1 + x2 + x3 ≤ y) = true) : a ≤ t + y := by have := of_decide_eq_true hb; omega
theorem nle_3 {a x1 x2 x3 : Nat} : a ≤ a + x1 + x2 + x3 := by omega
theorem nle_4 {a x1 x2 x3 x4 : Nat} : a ≤ a + x1 + x2 + x3 + x4 := by omega
theorem nem_1 {I a : Addr} {o : Obj} {l : List (Addr × Obj)} (h : ∀ p ∈ l, p.1 ≠ I) (hm : (a, o) ∈ l) : I ≠ a := Ne.symm (h _ hm)
/-- single-object updates: a ledger seen as the object and the rest -/
theorem updF_rest {h₀ h : Heap} {L t : Addr} {o : Obj} {news : List (Addr × Obj)} {f : Obj → List (Addr × Obj)} (N : News h₀ L h news) (U : UpdF t o news f) :
    ∃ rest, (∀ p ∈ rest, p.1 ≠ t) ∧ News h₀ L h ((t, o) :: rest) ∧ (∀ h' o', News h₀ L h' ((t, o') :: rest) → News h₀ L h' (f o')) ∧ (∀ q ∈ news, q.1 ≠ t → q ∈ rest) := by
  obtain ⟨pre, post, rfl, hf, a, b⟩ := U.split
  refine ⟨pre ++ post, ?_, ?_, ?_, ?_⟩
  · intro p hp
    rcases List.mem_append.mp hp with h | h
    · exact a p h
    · exact b p h
  · intro p hp
    rcases List.mem_cons.mp hp with rfl | hp
    · exact N _ (List.mem_append.mpr (.inr (.head _)))
    · rcases List.mem_append.mp hp with h | h
      · exact N _ (List.mem_append.mpr (.inl h))
      · exact N _ (List.mem_append.mpr (.inr (.tail _ h)))
  · intro h' o' N'
    rw [hf]
    intro p hp
    rcases List.mem_append.mp hp with h | h
    · exact N' _ (.tail _ (List.mem_append.mpr (.inl h)))
    · rcases List.mem_cons.mp h with rfl | h
      · exact N' _ (.head _)
      · exact N' _ (.tail _ (List.mem_append.mpr (.inr h)))
  · intro q hq hne
    rcases List.mem_append.mp hq with h | h
    · exact List.mem_append.mpr (.inl h)
    · rcases List.mem_cons.mp h with rfl | h
      · exact absurd rfl hne
      · exact List.mem_append.mpr (.inr h)

abbrev tapeO (c : Int) (t1 : Tok) (nu : Addr) (sd : Int) (t2 : Tok) (n : Nat) : Obj := PySem.W.listOf [.int c t1, .ref nu, .int sd t2].toArray n
abbrev machD (H : Nat → Int) (KT : Nat → Tok) (x : Str) (τ0 : Tok) (c : Int) (τ1 : Tok) (l : Int) (τ2 : Tok) (lb : Int) (τ3 : Tok) (b : Int) (τ4 : Tok) (k : Int) (τ5 : Tok) : Obj :=
  dictOf [⟨H 0, .str "current" (KT 0), .str x τ0⟩, ⟨H 1, .str "cursor" (KT 1), .int c τ1⟩, ⟨H 2, .str "limit" (KT 2), .int l τ2⟩, ⟨H 3, .str "limit_backward" (KT 3), .int lb τ3⟩, ⟨H 4, .str "bra" (KT 4), .int b τ4⟩, ⟨H 5, .str "ket" (KT 5), .int k τ5⟩] 6
abbrev twinO (x : Str) (σ0 : Tok) (c : Int) (σ1 : Tok) (l : Int) (σ2 : Tok) (lb : Int) (σ3 : Tok) (b : Int) (σ4 : Tok) (k : Int) (σ5 : Tok) (n : Nat) : Obj :=
  PySem.W.listOf [.str x σ0, .int c σ1, .int l σ2, .int lb σ3, .int b σ4, .int k σ5].toArray n
theorem news_ins {h₀ h : Heap} {L : Addr} {p q : Addr × Obj} {news rest : List (Addr × Obj)} (N : News h₀ L h news) (hn : q ∈ news) (N1 : News h₀ L h (p :: rest)) : News h₀ L h (p :: q :: rest) := by
  intro z hz
  rcases List.mem_cons.mp hz with rfl | hz
  · exact N1 _ (.head _)
  · rcases List.mem_cons.mp hz with rfl | hz
    · exact N _ hn
    · exact N1 _ (.tail _ hz)
theorem news_del {h₀ h : Heap} {L : Addr} {p q : Addr × Obj} {rest : List (Addr × Obj)} (N : News h₀ L h (p :: q :: rest)) : News h₀ L h (p :: rest) := by
  intro z hz
  rcases List.mem_cons.mp hz with rfl | hz
  · exact N _ (.head _)
  · exact N _ (.tail _ (.tail _ hz))
theorem news_put {h₀ h : Heap} {L : Addr} {q : Addr × Obj} {news rest : List (Addr × Obj)} (N : News h₀ L h news) (hn : q ∈ news) (N1 : News h₀ L h rest) : News h₀ L h (q :: rest) := by
  intro z hz
  rcases List.mem_cons.mp hz with rfl | hz
  · exact N _ hn
  · exact N1 _ hz
theorem news_tl {h₀ h : Heap} {L : Addr} {q : Addr × Obj} {rest : List (Addr × Obj)} (N : News h₀ L h (q :: rest)) : News h₀ L h rest := fun z hz => N _ (.tail _ hz)
theorem news_sub {h₀ h : Heap} {L : Addr} {news news' : List (Addr × Obj)} (N : News h₀ L h news) (hs : ∀ p ∈ news', p ∈ news) : News h₀ L h news' := fun p hp => N p (hs p hp)
section
variable {prog : Program} {w : World} {A : Around} {E : Value → Shared → Prop} {s : Shared} {h₀ : Heap} {L : Addr} {Q : Value → Shared → Prop} {news : List (Addr × Obj)}
theorem itemLit_K {value slice : PySem.Expr} {a : Addr} {l : List Value} {n : Nat} {k : Int} {u : Tok} {v : Value} (N : News h₀ L s.heap news) (hm : (a, PySem.W.listOf l.toArray n) ∈ news)
    (h0 : 0 ≤ k) (hfit : k < 2 ^ 63) (hx : l[k.toNat]? = some v) (h : Q v s)
    (hs : subscripted slice false (.ref a) (.int k u) = operate [.ref a, .int k u] (getItem (.ref a) (.int k u)) := by with_unfolding_all rfl) (hg : ∀ r, letTemporaryGo value (.ref a) r = pure () := by intro _; with_unfolding_all rfl) :
    wpAny (model prog w) A (subscriptTail value slice (.ref a) (.int k u)) Q E s :=
  item_listL (News.isList N hm) h0 hfit hx h hs hg
end
theorem memL {α : Type} {a : α} {l : List α} (h : a ∈ l) : List.Mem a l := h
/-- what holds behind a statement, over its whole state: the walk goes on from it once -/
def CutPost {σ : Type} (h₀ : Heap) (L : Addr) (s : Shared) (Led : σ → List (Addr × Obj)) (ps : σ → List (Str × Value)) (P : σ → Prop) (f : Flow) (s₂ : Shared) : Prop :=
  f = .next ∧ ∃ (c' : σ) (h' : Heap) (tk : Nat) (m' : Str → Option Value) (news' : List (Addr × Obj)), s₂ = { s with heap := h', toks := tk } ∧ Fr h₀ L h' m' ∧ News h₀ L h' news' ∧ (∀ p ∈ Led c', p ∈ news') ∧ (∀ p ∈ ps c', m' p.1 = some p.2) ∧ P c'
theorem cut_end {σ : Type} {h₀ : Heap} {L : Addr} {s : Shared} {Led : σ → List (Addr × Obj)} {ps : σ → List (Str × Value)} {m' : Str → Option Value} {P : σ → Prop} {h' : Heap} {tk : Nat} {news' : List (Addr × Obj)} (c' : σ)
    (F : Fr h₀ L h' m') (N : News h₀ L h' news') (hn : ∀ p ∈ Led c', p ∈ news') (hk : ∀ p ∈ ps c', m' p.1 = some p.2) (hp : P c') :
    CutPost h₀ L s Led ps P .next { s with heap := h', toks := tk } := ⟨rfl, c', h', tk, m', news', rfl, F, N, hn, hk, hp⟩
theorem fr_kstB {h₀ h : Heap} {L : Addr} {m : Str → Option Value} {ps : List (Str × Value)} (F : Fr h₀ L h m) (hk : ∀ p ∈ ps, m p.1 = some p.2) : Fr h₀ L h (kstB m ps) := by
  have e : kstB m ps = m := by
    funext z
    exact kstB_eq hk fun _ => rfl
  rw [e]; exact F
theorem cut_stmt {M : Model} {A : Around} {E : Value → Shared → Prop} {σ : Type} {h₀ : Heap} {L : Addr} {s : Shared} (Led : σ → List (Addr × Obj)) (ps : σ → List (Str × Value)) {m₀ : Str → Option Value} (P : σ → Prop) {t : Sem Flow} {Q : Flow → Shared → Prop}
    (_F : Fr h₀ L s.heap m₀) (h1 : wpAny M A t (CutPost h₀ L s Led ps P) E s)
    (h2 : ∀ (c : σ) (u : Str → Option Value) (h : Heap) (tk : Nat), P c → Fr h₀ L h (kstB u (ps c)) → News h₀ L h (Led c) → Q .next { s with heap := h, toks := tk }) :
    wpAny M A t Q E s := by
  refine wpAny_mono h1 (fun f s₂ h => ?_) fun _ _ h => h
  obtain ⟨rfl, c', h', tk, m', news', rfl, F', N', hn, hk, hp⟩ := h
  exact h2 c' m' h' tk hp (fr_kstB F' hk) fun p hp => N' p (hn p hp)
/-- a while by what holds of the names that are said -/
def MwEnd {σ : Type} (h₀ : Heap) (L : Addr) (s : Shared) (Led : σ → List (Addr × Obj)) (ps : σ → List (Str × Value)) (P : σ → Prop) (μ : σ → Nat) (n : Nat) (s₂ : Shared) : Prop :=
  ∃ (c' : σ) (h' : Heap) (tk : Nat) (m' : Str → Option Value) (news' : List (Addr × Obj)), s₂ = { s with heap := h', toks := tk } ∧ Fr h₀ L h' m' ∧ News h₀ L h' news' ∧ (∀ p ∈ Led c', p ∈ news') ∧ (∀ p ∈ ps c', m' p.1 = some p.2) ∧ P c' ∧ μ c' < n
def MwPost {σ : Type} (h₀ : Heap) (L : Addr) (s : Shared) (Led : σ → List (Addr × Obj)) (ps : σ → List (Str × Value)) (P : σ → Prop) (μ : σ → Nat) (Q : Flow → Shared → Prop) (n : Nat) (f : Flow) (s₂ : Shared) : Prop :=
  match f with
  | .ret v => Q (.ret v) s₂
  | .brk => Q .next s₂
  | _ => MwEnd h₀ L s Led ps P μ n s₂
theorem mw_end {σ : Type} {h₀ : Heap} {L : Addr} {s : Shared} {Led : σ → List (Addr × Obj)} {ps : σ → List (Str × Value)} {m' : Str → Option Value} {P : σ → Prop} {μ : σ → Nat} {n : Nat} {h' : Heap} {tk : Nat} {news' : List (Addr × Obj)} (c' : σ)
    (F : Fr h₀ L h' m') (N : News h₀ L h' news') (hn : ∀ p ∈ Led c', p ∈ news') (hk : ∀ p ∈ ps c', m' p.1 = some p.2) (hp : P c') (hm : μ c' < n) :
    MwEnd h₀ L s Led ps P μ n { s with heap := h', toks := tk } := ⟨c', h', tk, m', news', rfl, F, N, hn, hk, hp, hm⟩
theorem mw_while {prog : Program} {w : World} {A : Around} {E : Value → Shared → Prop} {Q : Flow → Shared → Prop} {s : Shared} {env : Env} {h₀ : Heap} {L : Addr} {σ : Type} {test : PySem.Expr} {body : List Stmt} {pos : Pos} {m₀ : Str → Option Value}
    (Led : σ → List (Addr × Obj)) (ps : σ → List (Str × Value)) (P : σ → Prop) (μ : σ → Nat) (c₀ : σ)
    (F : Fr h₀ L s.heap m₀) (N : News h₀ L s.heap (Led c₀)) (hk : ∀ p ∈ ps c₀, m₀ p.1 = some p.2) (hp : P c₀)
    (turn : ∀ (c : σ) (u : Str → Option Value) h tk, P c → Fr h₀ L h (kstB u (ps c)) → News h₀ L h (Led c) →
      wpAny (model prog w) A (isTrue test env (eval test env)) (fun b s₂ =>
        if b = true then wpAny (model prog w) A (execs body env) (MwPost h₀ L s Led ps P μ Q (μ c)) E s₂ else Q .next s₂) E { s with heap := h, toks := tk })
    (hE : PassesOwn (model prog w) A env E := by passes_own) :
    wpAny (model prog w) A (exec (.While test body [] pos) env) Q E s := by
  refine While_inv2 (fun n m nx => ∃ c : σ, nx = Led c ∧ μ c = n ∧ (∀ p ∈ ps c, m p.1 = some p.2) ∧ P c) F N ⟨c₀, rfl, rfl, hk, hp⟩ ?_ hE
  rintro n m₁ nx h tk F₁ N₁ ⟨c, rfl, rfl, h1, hp'⟩
  refine wpAny_mono (turn c m₁ h tk hp' (fr_kstB F₁ h1) N₁) (fun b s₂ p => ?_) fun _ _ x => x
  cases b with
  | false => simpa using p
  | true =>
    simp only [if_true] at p ⊢
    refine wpAny_mono p (fun f s₃ q => ?_) fun _ _ x => x
    have go : MwEnd h₀ L s Led ps P μ (μ c) s₃ → ∃ h₂ tk₂ m₂ news₂ n₂, s₃ = { s with heap := h₂, toks := tk₂ } ∧ Fr h₀ L h₂ m₂ ∧ News h₀ L h₂ news₂ ∧ n₂ < μ c ∧ ∃ c : σ, news₂ = Led c ∧ μ c = n₂ ∧ (∀ p ∈ ps c, m₂ p.1 = some p.2) ∧ P c := by
      rintro ⟨c', h', tk', m', news', rfl, F', N', hn, hk9, hp9, hm9⟩
      exact ⟨h', tk', m', Led c', μ c', rfl, F', fun p hp => N' p (hn p hp), hm9, c', rfl, rfl, hk9, hp9⟩
    cases f with
    | ret v => exact q
    | brk => exact q
    | next => exact go q
    | cont => exact go q

/-- an expression without a call: what it gives, and how many tokens it takes; nothing else of the state moves -/
def Ev (prog : Program) (w : World) (A : Around) (env : Env) (hp : Heap) (gs : Array GenState) (dr : Drawn) (os : OsState) (e : PySem.Expr) (t : Nat) (v : Value) (t' : Nat) : Prop :=
  ∀ (Q : Value → Shared → Prop) (E : Value → Shared → Prop), Q v ⟨hp, gs, dr, t', os⟩ → wpAny (model prog w) A (eval e env) Q E ⟨hp, gs, dr, t, os⟩
/-- the arguments of a call -/
def Evs (prog : Program) (w : World) (A : Around) (env : Env) (hp : Heap) (gs : Array GenState) (dr : Drawn) (os : OsState) (es : List PySem.Expr) (t : Nat) (vs : List Value) (t' : Nat) : Prop :=
  ∀ (pos : Pos) (Q : List Value → Shared → Prop) (E : Value → Shared → Prop), Q vs ⟨hp, gs, dr, t', os⟩ → wpAny (model prog w) A (spliced (backTo pos (starEach es env))) Q E ⟨hp, gs, dr, t, os⟩
/-- what is to hold behind a statement: the rest of its block goes on -/
def SeqQ (M : Model) (A : Around) (rest : List Stmt) (env : Env) (E : Value → Shared → Prop) (Q : Flow → Shared → Prop) (f : Flow) (s : Shared) : Prop := match f with
  | .next => wpAny M A (execs rest env) Q E s
  | f => Q f s
section
variable {M : Model} {A : Around} {rest : List Stmt} {env : Env} {E : Value → Shared → Prop} {Q : Flow → Shared → Prop} {s : Shared}
theorem execs_seq {st : Stmt} (h : wpAny M A (exec st env) (SeqQ M A rest env E Q) E s) : wpAny M A (execs (st :: rest) env) Q E s := wpAny_execs_cons h
theorem execs_seqE {st : Stmt} (h : ∀ Q' : Flow → Shared → Prop, Q' = SeqQ M A rest env E Q → wpAny M A (exec st env) Q' E s) : wpAny M A (execs (st :: rest) env) Q E s := execs_seq (h _ rfl)
theorem nameQ {α : Type} {t : Sem α} {Q : α → Shared → Prop} (h : ∀ Q' : α → Shared → Prop, Q' = Q → wpAny M A t Q' E s) : wpAny M A t Q E s := h _ rfl
theorem nameQ_end {α : Type} {f : α} {Q Q' : α → Shared → Prop} (e : Q' = Q) (h : Q f s) : Q' f s := by rw [e]; exact h
theorem seqE_next {Q' : Flow → Shared → Prop} (e : Q' = SeqQ M A rest env E Q) (h : wpAny M A (execs rest env) Q E s) : Q' .next s := by rw [e]; exact h
theorem seqE_last {Q' : Flow → Shared → Prop} (e : Q' = SeqQ M A [] env E Q) (h : Q .next s) : Q' .next s := by rw [e]; exact wpAny_execs_nil h
theorem seqE_ret {Q' : Flow → Shared → Prop} {v : Value} (e : Q' = SeqQ M A rest env E Q) (h : Q (.ret v) s) : Q' (.ret v) s := by rw [e]; exact h
theorem seqE_brk {Q' : Flow → Shared → Prop} (e : Q' = SeqQ M A rest env E Q) (h : Q .brk s) : Q' .brk s := by rw [e]; exact h
end
section
variable {prog : Program} {w : World} {A : Around} {env : Env} {hp : Heap} {gs : Array GenState} {dr : Drawn} {os : OsState}
theorem ev_use {e : PySem.Expr} {t t' : Nat} {v : Value} {Q : Value → Shared → Prop} {E : Value → Shared → Prop} (H : Ev prog w A env hp gs dr os e t v t') (h : Q v ⟨hp, gs, dr, t', os⟩) :
    wpAny (model prog w) A (eval e env) Q E ⟨hp, gs, dr, t, os⟩ := H Q E h
theorem evs_use {es : List PySem.Expr} {t t' : Nat} {vs : List Value} {pos : Pos} {Q : List Value → Shared → Prop} {E : Value → Shared → Prop} (H : Evs prog w A env hp gs dr os es t vs t') (h : Q vs ⟨hp, gs, dr, t', os⟩) :
    wpAny (model prog w) A (spliced (backTo pos (starEach es env))) Q E ⟨hp, gs, dr, t, os⟩ := H pos Q E h
theorem ev_int {i : Int} {k : Nat} {pos : Pos} {t : Nat} : Ev prog w A env hp gs dr os (.Constant (.int i) k pos) t (.int i t) (t + 1) := fun _ _ h => wpAny_Constant_int h
theorem ev_str {x : Str} {k : Nat} {pos : Pos} {t : Nat} : Ev prog w A env hp gs dr os (.Constant (.str x) k pos) t (.str x t) (t + 1) := fun _ _ h => Calls.Constant_str h
theorem ev_add {l r : PySem.Expr} {pos : Pos} {t t1 t2 : Nat} {a b : Int} {x y : Tok} (H1 : Ev prog w A env hp gs dr os l t (.int a x) t1) (H2 : Ev prog w A env hp gs dr os r t1 (.int b y) t2) :
    Ev prog w A env hp gs dr os (.BinOp l .Add r pos) t (.int (a + b) t2) (t2 + 1) := fun _ E h => wpAny_BinOp (H1 _ E (H2 _ E (add_int h)))
theorem ev_sub {l r : PySem.Expr} {pos : Pos} {t t1 t2 : Nat} {a b : Int} {x y : Tok} (H1 : Ev prog w A env hp gs dr os l t (.int a x) t1) (H2 : Ev prog w A env hp gs dr os r t1 (.int b y) t2) :
    Ev prog w A env hp gs dr os (.BinOp l .Sub r pos) t (.int (a - b) t2) (t2 + 1) := fun _ E h => wpAny_BinOp (H1 _ E (H2 _ E (sub_int h)))
theorem ist_lt {l r : PySem.Expr} {pos : Pos} {t t1 t2 : Nat} {a b : Int} {x y : Tok} {whole : Sem Value} {Q : Bool → Shared → Prop} {E : Value → Shared → Prop} (H1 : Ev prog w A env hp gs dr os l t (.int a x) t1) (H2 : Ev prog w A env hp gs dr os r t1 (.int b y) t2) (hm : behindInMarks .Lt r = false)
    (h : Q (decide (a < b)) ⟨hp, gs, dr, t2, os⟩) : wpAny (model prog w) A (isTrue (.Compare l [.Lt] [r] pos) env whole) Q E ⟨hp, gs, dr, t, os⟩ := wpAny_isTrue_Compare1 (H1 _ E (H2 _ E (lt_int (wpAny_truthy_bool h)))) hm
theorem ist_le {l r : PySem.Expr} {pos : Pos} {t t1 t2 : Nat} {a b : Int} {x y : Tok} {whole : Sem Value} {Q : Bool → Shared → Prop} {E : Value → Shared → Prop} (H1 : Ev prog w A env hp gs dr os l t (.int a x) t1) (H2 : Ev prog w A env hp gs dr os r t1 (.int b y) t2) (hm : behindInMarks .LtE r = false)
    (h : Q (decide (a ≤ b)) ⟨hp, gs, dr, t2, os⟩) : wpAny (model prog w) A (isTrue (.Compare l [.LtE] [r] pos) env whole) Q E ⟨hp, gs, dr, t, os⟩ := wpAny_isTrue_Compare1 (H1 _ E (H2 _ E (le_int (wpAny_truthy_bool h)))) hm
theorem ist_gt {l r : PySem.Expr} {pos : Pos} {t t1 t2 : Nat} {a b : Int} {x y : Tok} {whole : Sem Value} {Q : Bool → Shared → Prop} {E : Value → Shared → Prop} (H1 : Ev prog w A env hp gs dr os l t (.int a x) t1) (H2 : Ev prog w A env hp gs dr os r t1 (.int b y) t2) (hm : behindInMarks .Gt r = false)
    (h : Q (decide (a > b)) ⟨hp, gs, dr, t2, os⟩) : wpAny (model prog w) A (isTrue (.Compare l [.Gt] [r] pos) env whole) Q E ⟨hp, gs, dr, t, os⟩ := wpAny_isTrue_Compare1 (H1 _ E (H2 _ E (gt_int (wpAny_truthy_bool h)))) hm
theorem ist_ge {l r : PySem.Expr} {pos : Pos} {t t1 t2 : Nat} {a b : Int} {x y : Tok} {whole : Sem Value} {Q : Bool → Shared → Prop} {E : Value → Shared → Prop} (H1 : Ev prog w A env hp gs dr os l t (.int a x) t1) (H2 : Ev prog w A env hp gs dr os r t1 (.int b y) t2) (hm : behindInMarks .GtE r = false)
    (h : Q (decide (a ≥ b)) ⟨hp, gs, dr, t2, os⟩) : wpAny (model prog w) A (isTrue (.Compare l [.GtE] [r] pos) env whole) Q E ⟨hp, gs, dr, t, os⟩ := wpAny_isTrue_Compare1 (H1 _ E (H2 _ E (ge_int (wpAny_truthy_bool h)))) hm
theorem evs_nil {t : Nat} : Evs prog w A env hp gs dr os [] t [] t := fun _ _ _ h => args_nil h
theorem evs_cons {e : PySem.Expr} {es : List PySem.Expr} {t t1 t2 : Nat} {v : Value} {vs : List Value} (H1 : Ev prog w A env hp gs dr os e t v t1) (H2 : Evs prog w A env hp gs dr os es t1 vs t2)
    (he : starEach (e :: es) env = (false, eval e env) :: starEach es env) : Evs prog w A env hp gs dr os (e :: es) t (v :: vs) t2 := fun pos _ E h => args_cons (H1 _ E (H2 pos _ E h)) he
/-- an item of a list of the ledger, its place written -/
theorem ev_item {h₀ : Heap} {L : Addr} {news : List (Addr × Obj)} (N : News h₀ L hp news) {x : Str} {xp pos cp : Pos} {k : Int} {kk : Nat} {t t1 : Nat} {a : Addr} {l : List Value} {n : Nat} {v : Value}
    (H1 : Ev prog w A env hp gs dr os (.Name x xp) t (.ref a) t1) (hm : (a, PySem.W.listOf l.toArray n) ∈ news)
    (h0 : (decide (0 ≤ k) && decide (k < 2 ^ 63)) = true) (hx : l[k.toNat]? = some v) :
    Ev prog w A env hp gs dr os (.Subscript (.Name x xp) (.Constant (.int k) kk cp) pos) t v (t1 + 1) := fun _ E h =>
  Subscript_ (H1 _ E (ev_int (k := kk) (pos := cp) _ E (itemLit_K N hm (of_decide_eq_true (Bool.and_eq_true_iff.mp h0).1) (of_decide_eq_true (Bool.and_eq_true_iff.mp h0).2) hx h (by with_unfolding_all rfl) (by intro _; with_unfolding_all rfl))))
end
section
variable {prog : Program} {w : World} {A : Around} {cn : Str} {cs : Scope} {L a : Addr} {ccd : Value} {cl : List (Str × Addr)} {hp : Heap} {gs : Array GenState} {dr : Drawn} {os : OsState} {h₀ : Heap} {m : Str → Option Value} {news : List (Addr × Obj)}
theorem ev_L (F : Fr h₀ L hp m) {x : Str} {pos : Pos} {v : Value} {t : Nat} (hk : cs.kind = .function) (hx : (envX cn cs L a ccd cl).kindOf x = some .local) (hv : m x = some v) (hd : (x == ("__debug__" : Str)) = false) :
    Ev prog w A (envX cn cs L a ccd cl) hp gs dr os (.Name x pos) t v t := fun _ _ h => nameX_L F hv h hk hx hd
/-- an attribute of an object of the ledger -/
theorem ev_attr {K : Frag} {env : Env} (F : Fr h₀ L hp m) (X₀ : K.In h₀) {x attr : Str} {xp pos : Pos} {t t1 : Nat} {o : Addr} {ox : Obj} {C : Addr} {es : List DictEntry} {n : Nat} {at0 : Option Value} {v : Value}
    (H : Ev prog w A env hp gs dr os (.Name x xp) t (.ref o) t1)
    (I : InstAt hp o ox C (some (dictOf es n))) (hg : plainGet K C attr = true) (hh : hasDictIn K C = true)
    (ha : findIn K (.ref C) attr = some at0) (hn : noGet K at0 = true) (hl : getL attr es = some (some v)) (hv : handedIn v = true) :
    Ev prog w A env hp gs dr os (.Attribute (.Name x xp) attr pos) t v (t1 + 1) := fun _ E h =>
  Attribute_Name_ (H _ E (get_own (s := ⟨hp, gs, dr, t1, os⟩) F X₀ I hg hh ha hn hl hv h)) (by with_unfolding_all rfl)
end

theorem slice_ss {x : Str} {i j : Int} (h0 : 0 ≤ i) (h1 : i ≤ j) (h2 : j ≤ x.length) : Txt.slice x (some i) (some j) = ⟨((x.cps.toList.drop i.toNat).take (j - i).toNat).toArray⟩ := beq_iff_eq.mp (slice_closesL h0 h1 h2)
theorem slice_ns {x : Str} {j : Int} (h0 : 0 ≤ j) (h2 : j ≤ x.length) : Txt.slice x none (some j) = ⟨(x.cps.toList.take j.toNat).toArray⟩ := by
  rw [beq_iff_eq.mp (slice_closes_toL h0 h2)]
  simp
theorem slice_sn {x : Str} {i : Int} (h0 : 0 ≤ i) (h2 : i ≤ x.length) : Txt.slice x (some i) none = ⟨(x.cps.toList.drop i.toNat).toArray⟩ := by
  rw [slice_from_eq h0 h2 rfl, List.take_of_length_le]
  rw [List.length_drop, Array.length_toList]
  show x.length - i.toNat ≤ _
  omega
theorem slice_zs {x : Str} {j : Int} (h0 : 0 ≤ j) (h2 : j ≤ x.length) : Txt.slice x (some 0) (some j) = Txt.slice x none (some j) := by
  rw [slice_ss (Int.le_refl _) h0 h2, slice_ns h0 h2]
  simp
theorem str_len (l : List Nat) : (Str.mk l.toArray).length = l.length := by
  show l.toArray.size = _
  simp
theorem len_toList (x : Str) : x.cps.toList.length = x.length := Array.length_toList
theorem slice_ns_len {x : Str} {j : Int} (h0 : 0 ≤ j) (h2 : j ≤ x.length) : ((Txt.slice x none (some j)).length : Int) = j := by
  rw [slice_ns h0 h2, str_len, List.length_take, len_toList]; omega
theorem slice_sn_len {x : Str} {i : Int} (h0 : 0 ≤ i) (h2 : i ≤ x.length) : ((Txt.slice x (some i) none).length : Int) = x.length - i := by
  rw [slice_sn h0 h2, str_len, List.length_drop, len_toList]; omega
theorem slice_ss_len {x : Str} {i j : Int} (h0 : 0 ≤ i) (h1 : i ≤ j) (h2 : j ≤ x.length) : ((Txt.slice x (some i) (some j)).length : Int) = j - i := by
  rw [slice_ss h0 h1 h2, str_len, List.length_take, List.length_drop, len_toList]; omega
theorem app_len (x y : Str) : (x ++ y).length = x.length + y.length := PySem.Str.length_append x y
theorem rep_len {x g : Str} {i j : Int} (h0 : 0 ≤ i) (h1 : i ≤ j) (h2 : j ≤ x.length) : ((Txt.slice x (some 0) (some i) ++ g ++ Txt.slice x (some j) none).length : Int) = x.length + (g.length - (j - i)) := by
  rw [app_len, app_len, slice_zs h0 (by omega)]
  have a := slice_ns_len (x := x) h0 (by omega)
  have b := slice_sn_len (x := x) (i := j) (by omega) h2
  omega
theorem all_to {p : Int → Prop} {a b : Int} (h : ∀ i, a ≤ i → i < b → p i) (q : p b) : ∀ i, a ≤ i → i < b + 1 → p i := fun i h1 h2 => by
  by_cases e : i = b
  · rw [e]; exact q
  · exact h i h1 (by omega)
theorem all_fro {p : Int → Prop} {a b : Int} (h : ∀ i, a ≤ i → i < b → p i) (q : p (a - 1)) : ∀ i, a - 1 ≤ i → i < b → p i := fun i h1 h2 => by
  by_cases e : i = a - 1
  · rw [e]; exact q
  · exact h i (by omega) h2

theorem charAt_nn {x : Str} {i : Int} (h0 : 0 ≤ i) (h1 : i < x.length) : Txt.charAt x i = some (x.cps.toList.getD i.toNat 0) := by
  have hl : i.toNat < x.cps.size := by
    have : i.toNat < x.length := by omega
    exact this
  unfold Txt.charAt
  rw [StrLaws.seqIndex_nonneg h0 h1]
  simp [Option.bind, List.getD, hl]
theorem item_nn {x : Str} {i : Int} (h0 : 0 ≤ i) (h1 : i < x.length) : Txt.item x i = ⟨#[x.cps.toList.getD i.toNat 0]⟩ := by
  unfold Txt.item
  rw [charAt_nn h0 h1]
  rfl
theorem rv_toNat {n : Nat} {q d : Int} (hq : 0 ≤ q) (e : (n : Int) = d) (h : q < d) : n - 1 - q.toNat = (d - 1 - q).toNat := by omega
theorem signs_cut {x : Str} {c l i : Int} (h0 : 0 ≤ c) (h1 : c ≤ l) (h2 : l ≤ x.length) (hi : 0 ≤ i) (hl : i < l - c) :
    (signs (Txt.slice x (some c) (some l))).getD i.toNat Str.empty = Txt.item x (c + i) := by
  have hsz : l.toNat ≤ x.cps.toList.length := by rw [len_toList]; omega
  rw [item_nn (by omega) (by omega), slice_ss h0 h1 h2]
  have e : (c + i).toNat = c.toNat + i.toNat := Int.toNat_add h0 hi
  have hb : i.toNat < (l - c).toNat := by omega
  have hb2 : c.toNat + i.toNat < x.cps.toList.length := by
    rw [← e]
    exact Nat.lt_of_lt_of_le ((Int.toNat_lt_toNat (Int.lt_of_le_of_lt (Int.add_nonneg h0 hi) (Int.add_lt_of_lt_sub_left hl))).mpr (Int.add_lt_of_lt_sub_left hl)) hsz
  unfold signs
  simp only [List.getD_eq_getElem?_getD, List.getElem?_map, List.getElem?_take, List.getElem?_drop, e, hb, if_true]
  rw [List.getElem?_eq_getElem hb2]
  rfl
theorem signs_cut_len {x : Str} {c l : Int} (h0 : 0 ≤ c) (h1 : c ≤ l) (h2 : l ≤ x.length) : ((signs (Txt.slice x (some c) (some l))).length : Int) = l - c := by
  rw [signs_length, slice_ss_len h0 h1 h2]

local macro_rules | `(tactic| walk_at $s:str) => do
  let k := Lean.Syntax.mkStrLit ("my " ++ s.getString)
  `(tactic| k_extra $k)
local macro_rules | `(tactic| k_all) => `(tactic| k_extra "my own k_all")
local macro_rules | `(tactic| k_in) => `(tactic| k_extra "my own k_in")
local macro_rules | `(tactic| k_mem) => `(tactic| k_extra "my own k_mem")
local macro_rules | `(tactic| k_ne) => `(tactic| k_extra "my own k_ne")

theorem words_jLst_1 : True := by
  k_with_none
  k_with "my own k_all" => first | with_reducible assumption | exact Mine.ne_nil9 | exact Mine.off1_D (by with_reducible assumption) | (refine' Mine.ne_cons9 ?h39209a ?h39209b; (case h39209a => k_ne); (case h39209b => k_all)) | exact Mine.ne_allLt (by with_reducible assumption) | assumption | exact Mine.ne_allLt (by assumption) | exact List.forall_mem_nil _ | (refine' List.forall_mem_cons.mpr ⟨?h39209a, ?h39209b⟩; (case h39209a => k_ne); (case h39209b => k_all))
  k_with "my exec If" => refine wpAny_If ?_
  k_with "my subscriptTail" => (k_here; (with_reducible show wpAny _ _ (subscriptTail _ _ (Value.str _ _) (Value.int _ _)) _ _ _); (refine item_str (fitsSsize_of (N := 9223372036854775808) (by omega) (by omega) (Int.le_refl _)) (by omega) (by omega) ?_); intro _)
  k_with "my subscriptTail" => (k_here; (with_reducible show wpAny _ _ (subscriptTail _ (Expr.Slice none none none _) (Value.str _ _) (Value.ref _)) _ _ _); (with_reducible rename Fr _ _ _ _ => F'); (with_reducible rename News _ _ _ _ => N'); (refine slice_strN_nn_len (hsz := ?he93dfhsz) (s := ⟨_, _, _, _, _⟩) F' N' ?_); (case he93dfhsz => (rw [sizeLine_eq]; omega)); intro _ _ _ _ _ _)
  k_with "my subscriptTail" => (k_here; (with_reducible show wpAny _ _ (subscriptTail _ (Expr.Slice none (some _) none _) (Value.str _ _) (Value.ref _)) _ _ _); (with_reducible rename Fr _ _ _ _ => F'); (with_reducible rename News _ _ _ _ => N'); (refine slice_strN_ns_len (hsz := ?h5ee70hsz) (s := ⟨_, _, _, _, _⟩) F' N' ?_); (case h5ee70hsz => (rw [sizeLine_eq]; omega)); intro _ _ _ _ _ _)
  k_with "my subscriptTail" => (k_here; (with_reducible show wpAny _ _ (subscriptTail _ (Expr.Slice (some _) none none _) (Value.str _ _) (Value.ref _)) _ _ _); (with_reducible rename Fr _ _ _ _ => F'); (with_reducible rename News _ _ _ _ => N'); (refine slice_strN_sn_len (hsz := ?habc6bhsz) (s := ⟨_, _, _, _, _⟩) F' N' ?_); (case habc6bhsz => (rw [sizeLine_eq]; omega)); intro _ _ _ _ _ _)
  k_with "my subscriptTail" => (k_here; (with_reducible show wpAny _ _ (subscriptTail _ (Expr.Slice (some _) (some _) none _) (Value.str _ _) (Value.ref _)) _ _ _); (with_reducible rename Fr _ _ _ _ => F'); (with_reducible rename News _ _ _ _ => N'); (refine slice_strN_ss_len (hsz := ?h78793hsz) (s := ⟨_, _, _, _, _⟩) F' N' ?_); (case h78793hsz => (rw [sizeLine_eq]; omega)); intro _ _ _ _ _ _)
  k_with "my subscriptTail Name Constant ref int" => (k_here; k_dflt (refine' Mine.itemLit_K ?h4db2bzN ?h4db2bzm ?h4db2bz0 ?h4db2bzf ?h4db2bzx ?_ ?h4db2bzs ?h4db2bzg; (case h4db2bzN => k_asm); (case h4db2bzm => k_mem); (case h4db2bz0 => decide); (case h4db2bzf => decide); (case h4db2bzx => exact rfl); (case h4db2bzs => with_unfolding_all rfl); (case h4db2bzg => (intro _; with_unfolding_all rfl)); k_whole))
  k_with "my tail" => first | assumption | exact List.mem_append_left _ (by assumption) | exact List.mem_append_right _ (by assumption) | (refine List.mem_cons_of_mem _ ?_; k_extra "my tail")
  k_with "my sub" => first | exact Mine.all_nil | (refine Mine.all_cons ?h63e88zm ?h63e88zr; (case h63e88zm => k_mem); (case h63e88zr => k_extra "my sub")) | (intro p hp; k_extra "my tail")
  k_with "my own k_in" => first | k_in_fast | (refine' Frag.In.keeps ?hc3b53zX ?hc3b53zF; (case hc3b53zF => (refine' Fr.keep ?hc3b53zG; (case hc3b53zG => with_reducible assumption))); (case hc3b53zX => with_reducible assumption)) | assumption
  k_with "my own k_mem" => ((with_reducible show List.Mem _ _); refine Mine.memL ?_; with_reducible assumption)
  k_with "my onestep" => first | ((with_reducible show wpAny _ _ _ _ _ _); walk1) | (k_unfold; (try dsimp only)) | (with_reducible refine' Mine.seqE_last (by with_reducible assumption) ?_) | (with_reducible refine' Mine.seqE_next (by with_reducible assumption) ?_) | (with_reducible refine' Mine.seqE_ret (by with_reducible assumption) ?_) | (with_reducible refine' Mine.seqE_brk (by with_reducible assumption) ?_) | (with_reducible refine' Mine.seqE_cont (by with_reducible assumption) ?_) | (with_reducible refine Mine.nameQ_end (f := (_ : Flow)) (by with_reducible assumption) ?_) | (k_end; wrow_close) | walk1 | (dsimp only; walk1) | (leave1; walk_say "STEP leave1"; try dsimp only)
  k_with "my upto While" => repeat ((fail_if_success (with_reducible show wpAny _ _ (exec (Stmt.While _ _ _ _) _) _ _ _)); k_extra "my onestep")
  k_with "my upto For" => repeat ((fail_if_success (with_reducible show wpAny _ _ (exec (Stmt.For _ _ _ _ _) _) _ _ _)); k_extra "my onestep")
  k_with "my upto iter" => repeat ((fail_if_success (with_reducible show wpAny _ _ (pyIter _) _ _ _)); k_extra "my onestep")
  k_with "my MwPost" => (dsimp only [Mine.MwPost])
  k_with "my noend" => ((fail_if_success (with_reducible show InvEndN _ _ _ _ _ _ _)); (fail_if_success (with_reducible show Mine.CutPost _ _ _ _ _ _ _ _)); (fail_if_success (with_reducible show Mine.MwEnd _ _ _ _ _ _ _ _ _)); (fail_if_success (with_reducible show LCg.CompEnd _ _ _ _ _ _ _ _ _ _ _ _ _ _)); (fail_if_success (with_reducible show KswEnd _ _ _ _ _ _ _ _ _ _ _ _)))
  k_with "my steps" => repeat' (first | ((with_reducible show wpAny _ _ _ _ _ _); walk1) | (k_extra "my noend"; k_extra "my onestep"))
  k_with "my upto CompSrc" => repeat ((fail_if_success (with_reducible show LCg.CompSrc _ _ _ _ _ _ _ _ _ _ _ _ _ _)); (fail_if_success (with_reducible show LCt.CompSrcT _ _ _ _ _ _ _ _ _ _ _ _ _ _ _)); k_extra "my onestep")
  k_with "my own k_ne" => first | with_reducible (first | assumption | exact Mine.cjg4 (by with_reducible assumption) | exact Mine.cjg3 (by with_reducible assumption) | exact Ne.symm (by assumption) | exact Mine.gt_ne0 (by assumption) | exact Mine.s_ne1 | exact Mine.r_ne1 | exact Mine.lt_ne1 (by assumption) | exact Mine.gt_ne1 (by assumption) | exact Mine.s_ne2 | exact Mine.r_ne2 | exact Mine.lt_ne2 (by assumption) | exact Mine.gt_ne2 (by assumption) | exact Mine.r_ne3 | exact Mine.lt_ne3 (by assumption) | exact Mine.gt_ne3 (by assumption) | exact Mine.lt_ne4 (by assumption) | exact Mine.gt_ne4 (by assumption)) | exact Mine.off3_i1 (by with_reducible assumption) (by k_mem) | exact Mine.off3_c1 (by with_reducible assumption) (by k_mem) | exact Mine.off3_d1 (by with_reducible assumption) (by k_mem) | exact Mine.off1_d1 (by with_reducible assumption) (by k_mem) | exact Mine.ltm_0 (by with_reducible assumption) (by k_mem) | exact Mine.ltm_1 (by with_reducible assumption) (by k_mem) | exact Mine.nem_1 (by with_reducible assumption) (by k_mem) | with_reducible (first | exact Mine.cjl0 (by with_reducible assumption) | exact Mine.cjl1 (by with_reducible assumption) | exact Mine.cjg1 (by with_reducible assumption) | exact Mine.cjl2e (by with_reducible assumption) | exact Mine.cjg2 (by with_reducible assumption) | exact Mine.cjg3 (by with_reducible assumption) | exact Mine.cjg4 (by with_reducible assumption) | exact Mine.cjg6 (by with_reducible assumption) | exact Mine.cjg7 (by with_reducible assumption)) | (refine neN ?_; (try dsimp only); first | omega (config := { splitDisjunctions := false }) | (walk_say "NECONJ"; (repeat (with_reducible rename _ ∧ _ => hcj; obtain ⟨_, _⟩ := hcj)); first | with_reducible assumption | (refine Ne.symm ?_; with_reducible assumption)))
  k_with "my kall1" => first | exact Mine.all_nil | (refine Mine.all_cons ?h6bfabzm ?h6bfabzr; (case h6bfabzm => with_unfolding_all (first | (k_whole; exact Eq.refl (some _)) | rfl)); (case h6bfabzr => k_extra "my kall1"))
  k_with "my kall" => first | (k_whole; k_extra "my kall1") | ((try dsimp only) <;> (k_extra "my kall1"))
  k_with "my cut" => repeat (obtain ⟨hcA, hcj⟩ : _ ∧ _ := hcj; (try (obtain ⟨_, hcA⟩ : _ ∧ _ := hcA; (try (obtain ⟨_, _⟩ : _ ∧ _ := hcA)))))
  k_with "my room" => first | with_reducible assumption | exact Mine.off2 (by with_reducible assumption) (by exact Eq.refl true) | ktr_room
  k_with "my units" => first | with_reducible assumption | exact Mine.off2 (by with_reducible assumption) (by exact Eq.refl true) | ktr_units
  k_with "my num" => first | (k_whole; with_reducible (first | assumption | (show (_ : Int) < _; first | exact Mine.nm_b (by with_reducible assumption) (by with_unfolding_all exact Eq.refl true) | exact Mine.nm_a (by with_reducible assumption) (by with_unfolding_all exact Eq.refl true) | exact Mine.nc_a (by with_reducible assumption) (by with_unfolding_all exact Eq.refl true) | exact Mine.no_a4 (by with_reducible assumption) (by with_unfolding_all exact Eq.refl true) | exact Mine.no_a3 (by with_reducible assumption) (by with_unfolding_all exact Eq.refl true) | exact Mine.no_a2 (by with_reducible assumption) (by with_unfolding_all exact Eq.refl true) | exact Mine.no_a1 (by with_reducible assumption) (by with_unfolding_all exact Eq.refl true)) | (show (_ : Int) ≤ _; first | exact Mine.no_c2 (by with_reducible assumption) (by with_unfolding_all exact Eq.refl true) | exact Mine.no_e2 (by with_unfolding_all exact Eq.refl true) | exact Mine.nm_e (by with_reducible assumption) (by with_unfolding_all exact Eq.refl true) | exact Mine.nm_c (by with_reducible assumption) (by with_unfolding_all exact Eq.refl true) | exact Mine.nc_c (by with_reducible assumption) (by with_unfolding_all exact Eq.refl true) | exact Mine.nc_e (by with_unfolding_all exact Eq.refl true) | exact Mine.nz_e (by with_unfolding_all exact Eq.refl true) | exact Mine.no_c5 (by with_reducible assumption) (by with_unfolding_all exact Eq.refl true) | exact Mine.no_c4 (by with_reducible assumption) (by with_unfolding_all exact Eq.refl true) | exact Mine.no_c3 (by with_reducible assumption) (by with_unfolding_all exact Eq.refl true) | exact Mine.no_c1 (by with_reducible assumption) (by with_unfolding_all exact Eq.refl true) | exact Mine.no_e5 (by with_unfolding_all exact Eq.refl true) | exact Mine.no_e4 (by with_unfolding_all exact Eq.refl true) | exact Mine.no_e3 (by with_unfolding_all exact Eq.refl true) | exact Mine.no_g3 (by with_reducible assumption) (by with_unfolding_all exact Eq.refl true) | exact Mine.no_g2 (by with_reducible assumption) (by with_unfolding_all exact Eq.refl true) | exact Mine.no_g1 (by with_reducible assumption) (by with_unfolding_all exact Eq.refl true)) | (show (_ : Nat) < _; first | exact Mine.nn_b (by with_reducible assumption) (by with_unfolding_all exact Eq.refl true)) | (show (_ : Nat) ≤ _; first | exact Mine.nn_c (by with_reducible assumption) (by with_unfolding_all exact Eq.refl true) | exact Mine.nle_1 | exact Mine.nle_2 | exact Mine.nle_3 | exact Mine.nle_4))) | (decide +kernel) | omega
  k_with "my ev name" => first | (refine' Mine.ev_L ?h6e1a0F ?h6e1a0k ?h6e1a0x ?h6e1a0v ?h6e1a0d; (case h6e1a0x => rfl); (case h6e1a0F => k_asm); (case h6e1a0k => first | exact rfl | assumption); (case h6e1a0v => exact Eq.refl (some _)); (case h6e1a0d => decide)) | (refine' Mine.ev_C ?h6e1a0N ?h6e1a0k ?h6e1a0x ?h6e1a0c ?h6e1a0m ?h6e1a0o ?h6e1a0d; (case h6e1a0k => first | exact rfl | assumption); (case h6e1a0x => rfl); (case h6e1a0N => k_asm); (case h6e1a0c => rfl); (case h6e1a0m => k_mem); (case h6e1a0o => k_asm); (case h6e1a0d => decide))
  k_with "my ev0" => first | (with_reducible exact Mine.ev_int) | ((with_reducible refine' Mine.ev_L ?h84e4cF ?h84e4ck ?h84e4cx ?h84e4cv ?h84e4cd); (case h84e4cx => rfl); (case h84e4cF => k_asm); (case h84e4ck => first | exact rfl | assumption); (case h84e4cv => exact Eq.refl (some _)); (case h84e4cd => decide)) | ((with_reducible refine' Mine.ev_attr ?h84e4cF ?h84e4cX ?h84e4cH ?h84e4cI ?h84e4cg ?h84e4ch ?h84e4ca ?h84e4cn ?h84e4cl ?h84e4cv); (case h84e4cF => k_asm); (case h84e4cX => k_asm); (case h84e4cH => k_extra "my ev name"); (case h84e4cI => k_inst); (case h84e4cg => k_is); (case h84e4ch => k_is); (case h84e4ca => k_is); (case h84e4cn => k_is); (case h84e4cl => k_get); (case h84e4cv => k_handed)) | ((with_reducible refine' Mine.ev_item ?h84e4cN ?h84e4cH ?h84e4cm ?h84e4cz ?h84e4cx); (case h84e4cN => k_asm); (case h84e4cH => k_extra "my ev name"); (case h84e4cm => k_mem); (case h84e4cz => exact rfl); (case h84e4cx => exact rfl)) | ((with_reducible refine' Mine.ev_add ?h84e4cx ?h84e4cy); (case h84e4cx => k_extra "my ev1"); (case h84e4cy => k_extra "my ev1")) | ((with_reducible refine' Mine.ev_sub ?h84e4cx ?h84e4cy); (case h84e4cx => k_extra "my ev1"); (case h84e4cy => k_extra "my ev1")) | ((with_reducible refine' Mine.ev_eq ?h84e4cx ?h84e4cy ?h84e4cz); (case h84e4cx => k_extra "my ev1"); (case h84e4cy => k_extra "my ev1"); (case h84e4cz => with_unfolding_all rfl)) | ((with_reducible refine' Mine.ev_ne ?h84e4cx ?h84e4cy ?h84e4cz); (case h84e4cx => k_extra "my ev1"); (case h84e4cy => k_extra "my ev1"); (case h84e4cz => with_unfolding_all rfl)) | ((with_reducible refine' Mine.ev_lt ?h84e4cx ?h84e4cy ?h84e4cz); (case h84e4cx => k_extra "my ev1"); (case h84e4cy => k_extra "my ev1"); (case h84e4cz => with_unfolding_all rfl)) | ((with_reducible refine' Mine.ev_le ?h84e4cx ?h84e4cy ?h84e4cz); (case h84e4cx => k_extra "my ev1"); (case h84e4cy => k_extra "my ev1"); (case h84e4cz => with_unfolding_all rfl)) | ((with_reducible refine' Mine.ev_gt ?h84e4cx ?h84e4cy ?h84e4cz); (case h84e4cx => k_extra "my ev1"); (case h84e4cy => k_extra "my ev1"); (case h84e4cz => with_unfolding_all rfl)) | ((with_reducible refine' Mine.ev_ge ?h84e4cx ?h84e4cy ?h84e4cz); (case h84e4cx => k_extra "my ev1"); (case h84e4cy => k_extra "my ev1"); (case h84e4cz => with_unfolding_all rfl)) | ((with_reducible refine' Mine.ev_C ?h84e4cN ?h84e4ck ?h84e4cx ?h84e4cc ?h84e4cm ?h84e4co ?h84e4cd); (case h84e4cx => rfl); (case h84e4ck => first | exact rfl | assumption); (case h84e4cN => k_asm); (case h84e4cc => rfl); (case h84e4cm => k_mem); (case h84e4co => k_asm); (case h84e4cd => decide)) | (with_reducible exact Mine.ev_str) | (with_reducible exact Mine.ev_bool) | (with_reducible exact Mine.ev_none)
  k_with "my ev1" => first | (with_reducible exact Mine.ev_int) | ((with_reducible refine' Mine.ev_L ?h1cd45F ?h1cd45k ?h1cd45x ?h1cd45v ?h1cd45d); (case h1cd45x => rfl); (case h1cd45F => k_asm); (case h1cd45k => first | exact rfl | assumption); (case h1cd45v => exact Eq.refl (some _)); (case h1cd45d => decide)) | ((with_reducible refine' Mine.ev_attr ?h1cd45F ?h1cd45X ?h1cd45H ?h1cd45I ?h1cd45g ?h1cd45h ?h1cd45a ?h1cd45n ?h1cd45l ?h1cd45v); (case h1cd45F => k_asm); (case h1cd45X => k_asm); (case h1cd45H => k_extra "my ev name"); (case h1cd45I => k_inst); (case h1cd45g => k_is); (case h1cd45h => k_is); (case h1cd45a => k_is); (case h1cd45n => k_is); (case h1cd45l => k_get); (case h1cd45v => k_handed)) | ((with_reducible refine' Mine.ev_item ?h1cd45N ?h1cd45H ?h1cd45m ?h1cd45z ?h1cd45x); (case h1cd45N => k_asm); (case h1cd45H => k_extra "my ev name"); (case h1cd45m => k_mem); (case h1cd45z => exact rfl); (case h1cd45x => exact rfl)) | ((with_reducible refine' Mine.ev_add ?h1cd45x ?h1cd45y); (case h1cd45x => k_extra "my ev2"); (case h1cd45y => k_extra "my ev2")) | ((with_reducible refine' Mine.ev_sub ?h1cd45x ?h1cd45y); (case h1cd45x => k_extra "my ev2"); (case h1cd45y => k_extra "my ev2")) | ((with_reducible refine' Mine.ev_eq ?h1cd45x ?h1cd45y ?h1cd45z); (case h1cd45x => k_extra "my ev2"); (case h1cd45y => k_extra "my ev2"); (case h1cd45z => with_unfolding_all rfl)) | ((with_reducible refine' Mine.ev_ne ?h1cd45x ?h1cd45y ?h1cd45z); (case h1cd45x => k_extra "my ev2"); (case h1cd45y => k_extra "my ev2"); (case h1cd45z => with_unfolding_all rfl)) | ((with_reducible refine' Mine.ev_lt ?h1cd45x ?h1cd45y ?h1cd45z); (case h1cd45x => k_extra "my ev2"); (case h1cd45y => k_extra "my ev2"); (case h1cd45z => with_unfolding_all rfl)) | ((with_reducible refine' Mine.ev_le ?h1cd45x ?h1cd45y ?h1cd45z); (case h1cd45x => k_extra "my ev2"); (case h1cd45y => k_extra "my ev2"); (case h1cd45z => with_unfolding_all rfl)) | ((with_reducible refine' Mine.ev_gt ?h1cd45x ?h1cd45y ?h1cd45z); (case h1cd45x => k_extra "my ev2"); (case h1cd45y => k_extra "my ev2"); (case h1cd45z => with_unfolding_all rfl)) | ((with_reducible refine' Mine.ev_ge ?h1cd45x ?h1cd45y ?h1cd45z); (case h1cd45x => k_extra "my ev2"); (case h1cd45y => k_extra "my ev2"); (case h1cd45z => with_unfolding_all rfl)) | ((with_reducible refine' Mine.ev_C ?h1cd45N ?h1cd45k ?h1cd45x ?h1cd45c ?h1cd45m ?h1cd45o ?h1cd45d); (case h1cd45x => rfl); (case h1cd45k => first | exact rfl | assumption); (case h1cd45N => k_asm); (case h1cd45c => rfl); (case h1cd45m => k_mem); (case h1cd45o => k_asm); (case h1cd45d => decide)) | (with_reducible exact Mine.ev_str) | (with_reducible exact Mine.ev_bool) | (with_reducible exact Mine.ev_none)
  k_with "my ev2" => first | (with_reducible exact Mine.ev_int) | ((with_reducible refine' Mine.ev_L ?hdef3bF ?hdef3bk ?hdef3bx ?hdef3bv ?hdef3bd); (case hdef3bx => rfl); (case hdef3bF => k_asm); (case hdef3bk => first | exact rfl | assumption); (case hdef3bv => exact Eq.refl (some _)); (case hdef3bd => decide)) | ((with_reducible refine' Mine.ev_attr ?hdef3bF ?hdef3bX ?hdef3bH ?hdef3bI ?hdef3bg ?hdef3bh ?hdef3ba ?hdef3bn ?hdef3bl ?hdef3bv); (case hdef3bF => k_asm); (case hdef3bX => k_asm); (case hdef3bH => k_extra "my ev name"); (case hdef3bI => k_inst); (case hdef3bg => k_is); (case hdef3bh => k_is); (case hdef3ba => k_is); (case hdef3bn => k_is); (case hdef3bl => k_get); (case hdef3bv => k_handed)) | ((with_reducible refine' Mine.ev_item ?hdef3bN ?hdef3bH ?hdef3bm ?hdef3bz ?hdef3bx); (case hdef3bN => k_asm); (case hdef3bH => k_extra "my ev name"); (case hdef3bm => k_mem); (case hdef3bz => exact rfl); (case hdef3bx => exact rfl)) | ((with_reducible refine' Mine.ev_add ?hdef3bx ?hdef3by); (case hdef3bx => k_extra "my ev3"); (case hdef3by => k_extra "my ev3")) | ((with_reducible refine' Mine.ev_sub ?hdef3bx ?hdef3by); (case hdef3bx => k_extra "my ev3"); (case hdef3by => k_extra "my ev3")) | ((with_reducible refine' Mine.ev_eq ?hdef3bx ?hdef3by ?hdef3bz); (case hdef3bx => k_extra "my ev3"); (case hdef3by => k_extra "my ev3"); (case hdef3bz => with_unfolding_all rfl)) | ((with_reducible refine' Mine.ev_ne ?hdef3bx ?hdef3by ?hdef3bz); (case hdef3bx => k_extra "my ev3"); (case hdef3by => k_extra "my ev3"); (case hdef3bz => with_unfolding_all rfl)) | ((with_reducible refine' Mine.ev_lt ?hdef3bx ?hdef3by ?hdef3bz); (case hdef3bx => k_extra "my ev3"); (case hdef3by => k_extra "my ev3"); (case hdef3bz => with_unfolding_all rfl)) | ((with_reducible refine' Mine.ev_le ?hdef3bx ?hdef3by ?hdef3bz); (case hdef3bx => k_extra "my ev3"); (case hdef3by => k_extra "my ev3"); (case hdef3bz => with_unfolding_all rfl)) | ((with_reducible refine' Mine.ev_gt ?hdef3bx ?hdef3by ?hdef3bz); (case hdef3bx => k_extra "my ev3"); (case hdef3by => k_extra "my ev3"); (case hdef3bz => with_unfolding_all rfl)) | ((with_reducible refine' Mine.ev_ge ?hdef3bx ?hdef3by ?hdef3bz); (case hdef3bx => k_extra "my ev3"); (case hdef3by => k_extra "my ev3"); (case hdef3bz => with_unfolding_all rfl)) | ((with_reducible refine' Mine.ev_C ?hdef3bN ?hdef3bk ?hdef3bx ?hdef3bc ?hdef3bm ?hdef3bo ?hdef3bd); (case hdef3bx => rfl); (case hdef3bk => first | exact rfl | assumption); (case hdef3bN => k_asm); (case hdef3bc => rfl); (case hdef3bm => k_mem); (case hdef3bo => k_asm); (case hdef3bd => decide)) | (with_reducible exact Mine.ev_str) | (with_reducible exact Mine.ev_bool) | (with_reducible exact Mine.ev_none)
  k_with "my ev3" => first | (with_reducible exact Mine.ev_int) | ((with_reducible refine' Mine.ev_L ?h1a33cF ?h1a33ck ?h1a33cx ?h1a33cv ?h1a33cd); (case h1a33cx => rfl); (case h1a33cF => k_asm); (case h1a33ck => first | exact rfl | assumption); (case h1a33cv => exact Eq.refl (some _)); (case h1a33cd => decide)) | ((with_reducible refine' Mine.ev_attr ?h1a33cF ?h1a33cX ?h1a33cH ?h1a33cI ?h1a33cg ?h1a33ch ?h1a33ca ?h1a33cn ?h1a33cl ?h1a33cv); (case h1a33cF => k_asm); (case h1a33cX => k_asm); (case h1a33cH => k_extra "my ev name"); (case h1a33cI => k_inst); (case h1a33cg => k_is); (case h1a33ch => k_is); (case h1a33ca => k_is); (case h1a33cn => k_is); (case h1a33cl => k_get); (case h1a33cv => k_handed)) | ((with_reducible refine' Mine.ev_item ?h1a33cN ?h1a33cH ?h1a33cm ?h1a33cz ?h1a33cx); (case h1a33cN => k_asm); (case h1a33cH => k_extra "my ev name"); (case h1a33cm => k_mem); (case h1a33cz => exact rfl); (case h1a33cx => exact rfl)) | ((with_reducible refine' Mine.ev_add ?h1a33cx ?h1a33cy); (case h1a33cx => k_extra "my ev4"); (case h1a33cy => k_extra "my ev4")) | ((with_reducible refine' Mine.ev_sub ?h1a33cx ?h1a33cy); (case h1a33cx => k_extra "my ev4"); (case h1a33cy => k_extra "my ev4")) | ((with_reducible refine' Mine.ev_eq ?h1a33cx ?h1a33cy ?h1a33cz); (case h1a33cx => k_extra "my ev4"); (case h1a33cy => k_extra "my ev4"); (case h1a33cz => with_unfolding_all rfl)) | ((with_reducible refine' Mine.ev_ne ?h1a33cx ?h1a33cy ?h1a33cz); (case h1a33cx => k_extra "my ev4"); (case h1a33cy => k_extra "my ev4"); (case h1a33cz => with_unfolding_all rfl)) | ((with_reducible refine' Mine.ev_lt ?h1a33cx ?h1a33cy ?h1a33cz); (case h1a33cx => k_extra "my ev4"); (case h1a33cy => k_extra "my ev4"); (case h1a33cz => with_unfolding_all rfl)) | ((with_reducible refine' Mine.ev_le ?h1a33cx ?h1a33cy ?h1a33cz); (case h1a33cx => k_extra "my ev4"); (case h1a33cy => k_extra "my ev4"); (case h1a33cz => with_unfolding_all rfl)) | ((with_reducible refine' Mine.ev_gt ?h1a33cx ?h1a33cy ?h1a33cz); (case h1a33cx => k_extra "my ev4"); (case h1a33cy => k_extra "my ev4"); (case h1a33cz => with_unfolding_all rfl)) | ((with_reducible refine' Mine.ev_ge ?h1a33cx ?h1a33cy ?h1a33cz); (case h1a33cx => k_extra "my ev4"); (case h1a33cy => k_extra "my ev4"); (case h1a33cz => with_unfolding_all rfl)) | ((with_reducible refine' Mine.ev_C ?h1a33cN ?h1a33ck ?h1a33cx ?h1a33cc ?h1a33cm ?h1a33co ?h1a33cd); (case h1a33cx => rfl); (case h1a33ck => first | exact rfl | assumption); (case h1a33cN => k_asm); (case h1a33cc => rfl); (case h1a33cm => k_mem); (case h1a33co => k_asm); (case h1a33cd => decide)) | (with_reducible exact Mine.ev_str) | (with_reducible exact Mine.ev_bool) | (with_reducible exact Mine.ev_none)
  k_with "my ev4" => first | (with_reducible exact Mine.ev_int) | ((with_reducible refine' Mine.ev_L ?hb89ebF ?hb89ebk ?hb89ebx ?hb89ebv ?hb89ebd); (case hb89ebx => rfl); (case hb89ebF => k_asm); (case hb89ebk => first | exact rfl | assumption); (case hb89ebv => exact Eq.refl (some _)); (case hb89ebd => decide)) | ((with_reducible refine' Mine.ev_attr ?hb89ebF ?hb89ebX ?hb89ebH ?hb89ebI ?hb89ebg ?hb89ebh ?hb89eba ?hb89ebn ?hb89ebl ?hb89ebv); (case hb89ebF => k_asm); (case hb89ebX => k_asm); (case hb89ebH => k_extra "my ev name"); (case hb89ebI => k_inst); (case hb89ebg => k_is); (case hb89ebh => k_is); (case hb89eba => k_is); (case hb89ebn => k_is); (case hb89ebl => k_get); (case hb89ebv => k_handed)) | ((with_reducible refine' Mine.ev_item ?hb89ebN ?hb89ebH ?hb89ebm ?hb89ebz ?hb89ebx); (case hb89ebN => k_asm); (case hb89ebH => k_extra "my ev name"); (case hb89ebm => k_mem); (case hb89ebz => exact rfl); (case hb89ebx => exact rfl)) | ((with_reducible refine' Mine.ev_add ?hb89ebx ?hb89eby); (case hb89ebx => k_extra "my ev5"); (case hb89eby => k_extra "my ev5")) | ((with_reducible refine' Mine.ev_sub ?hb89ebx ?hb89eby); (case hb89ebx => k_extra "my ev5"); (case hb89eby => k_extra "my ev5")) | ((with_reducible refine' Mine.ev_eq ?hb89ebx ?hb89eby ?hb89ebz); (case hb89ebx => k_extra "my ev5"); (case hb89eby => k_extra "my ev5"); (case hb89ebz => with_unfolding_all rfl)) | ((with_reducible refine' Mine.ev_ne ?hb89ebx ?hb89eby ?hb89ebz); (case hb89ebx => k_extra "my ev5"); (case hb89eby => k_extra "my ev5"); (case hb89ebz => with_unfolding_all rfl)) | ((with_reducible refine' Mine.ev_lt ?hb89ebx ?hb89eby ?hb89ebz); (case hb89ebx => k_extra "my ev5"); (case hb89eby => k_extra "my ev5"); (case hb89ebz => with_unfolding_all rfl)) | ((with_reducible refine' Mine.ev_le ?hb89ebx ?hb89eby ?hb89ebz); (case hb89ebx => k_extra "my ev5"); (case hb89eby => k_extra "my ev5"); (case hb89ebz => with_unfolding_all rfl)) | ((with_reducible refine' Mine.ev_gt ?hb89ebx ?hb89eby ?hb89ebz); (case hb89ebx => k_extra "my ev5"); (case hb89eby => k_extra "my ev5"); (case hb89ebz => with_unfolding_all rfl)) | ((with_reducible refine' Mine.ev_ge ?hb89ebx ?hb89eby ?hb89ebz); (case hb89ebx => k_extra "my ev5"); (case hb89eby => k_extra "my ev5"); (case hb89ebz => with_unfolding_all rfl)) | ((with_reducible refine' Mine.ev_C ?hb89ebN ?hb89ebk ?hb89ebx ?hb89ebc ?hb89ebm ?hb89ebo ?hb89ebd); (case hb89ebx => rfl); (case hb89ebk => first | exact rfl | assumption); (case hb89ebN => k_asm); (case hb89ebc => rfl); (case hb89ebm => k_mem); (case hb89ebo => k_asm); (case hb89ebd => decide)) | (with_reducible exact Mine.ev_str) | (with_reducible exact Mine.ev_bool) | (with_reducible exact Mine.ev_none)
  k_with "my evs" => first | (with_reducible exact Mine.evs_nil) | ((with_reducible refine' Mine.evs_cons ?h3ebe4x ?h3ebe4y ?h3ebe4z); (case h3ebe4x => k_extra "my ev0"); (case h3ebe4y => k_extra "my evs"); (case h3ebe4z => rfl))
  k_with "my execs cons" => (k_here; (try ((first | (with_reducible show wpAny _ _ _ (Mine.MwPost _ _ _ _ _ _ _ _ _) _ _) | (with_reducible show wpAny _ _ _ (Mine.MrPost _ _ _ _ _ _ _ _ _) _ _) | (with_reducible show wpAny _ _ _ (InvPostN _ _ _ _ _ _ _) _ _) | (with_reducible show wpAny _ _ _ (KswPost _ _ _ _ _ _ _ _ _ _ _ _) _ _)); refine Mine.nameQ ?_; intro Qn hQn)); (with_reducible refine Mine.execs_seqE ?_); intro Qk hQk)
  k_with "my eval Name" => (k_here; k_dflt (first | (refine' nameX_L ?hfde63F ?hfde63v ?_ ?hfde63a ?hfde63b; (case hfde63b => rfl); (case hfde63F => k_asm); (case hfde63a => rfl); (case hfde63v => exact Eq.refl (some _)); k_whole) | (refine' nameX_K ?hfde63F ?hfde63X ?hfde63T ?hfde63e ?_ ?hfde63a ?hfde63b; (case hfde63b => rfl); (case hfde63F => k_asm); (case hfde63X => k_asm); (case hfde63T => k_asm); (case hfde63a => rfl); (case hfde63e => k_is); k_whole) | (refine' nameX_B ?hfde63F ?hfde63X ?hfde63T ?hfde63e ?hfde63v ?hfde63n ?_ ?hfde63a ?hfde63b; (case hfde63b => rfl); (case hfde63F => k_asm); (case hfde63X => k_asm); (case hfde63T => k_asm); (case hfde63a => rfl); (case hfde63e => k_is); (case hfde63v => boot_fast); (case hfde63n => decide); k_whole)))
  k_with "my eval BinOp" => (k_here; k_dflt (refine' Mine.ev_use ?hcbeddu ?_; (case hcbeddu => k_extra "my ev0"); k_whole); (try dsimp only))
  k_with "my eval Compare" => (k_here; k_dflt (refine' Mine.ev_use ?h28b78u ?_; (case h28b78u => k_extra "my ev0"); k_whole); (try dsimp only))
  k_with "my eval Subscript" => (k_here; k_dflt (refine' Mine.ev_use ?h772c3u ?_; (case h772c3u => k_extra "my ev0"); k_whole); (try dsimp only))
  k_with "my eval Attribute Name" => (k_here; k_dflt (refine' Mine.ev_use ?he290du ?_; (case he290du => k_extra "my ev0"); k_whole); (try dsimp only))
  k_with "my spliced" => (k_here; (with_reducible show wpAny _ _ (spliced (backTo _ (starEach (_ :: _) _))) _ _ _); k_dflt (refine' Mine.evs_use ?hf8b0eu ?_; (case hf8b0eu => k_extra "my evs"); k_whole); (try dsimp only))
  k_with "my isTrue Compare" => (k_here; k_dflt (first | ((with_reducible refine' Mine.ist_eq ?hdb5ccx ?hdb5ccy ?hdb5ccz ?_); (case hdb5ccx => k_extra "my ev0"); (case hdb5ccy => k_extra "my ev0"); (case hdb5ccz => with_unfolding_all rfl); k_whole) | ((with_reducible refine' Mine.ist_ne ?hdb5ccx ?hdb5ccy ?hdb5ccz ?_); (case hdb5ccx => k_extra "my ev0"); (case hdb5ccy => k_extra "my ev0"); (case hdb5ccz => with_unfolding_all rfl); k_whole) | ((with_reducible refine' Mine.ist_lt ?hdb5ccx ?hdb5ccy ?hdb5ccz ?_); (case hdb5ccx => k_extra "my ev0"); (case hdb5ccy => k_extra "my ev0"); (case hdb5ccz => with_unfolding_all rfl); k_whole) | ((with_reducible refine' Mine.ist_le ?hdb5ccx ?hdb5ccy ?hdb5ccz ?_); (case hdb5ccx => k_extra "my ev0"); (case hdb5ccy => k_extra "my ev0"); (case hdb5ccz => with_unfolding_all rfl); k_whole) | ((with_reducible refine' Mine.ist_gt ?hdb5ccx ?hdb5ccy ?hdb5ccz ?_); (case hdb5ccx => k_extra "my ev0"); (case hdb5ccy => k_extra "my ev0"); (case hdb5ccz => with_unfolding_all rfl); k_whole) | ((with_reducible refine' Mine.ist_ge ?hdb5ccx ?hdb5ccy ?hdb5ccz ?_); (case hdb5ccx => k_extra "my ev0"); (case hdb5ccy => k_extra "my ev0"); (case hdb5ccz => with_unfolding_all rfl); k_whole)); (try dsimp only))
  trivial
theorem strsAre_of : ∀ (ys : List Str) (vs : List Value), vs.length = ys.length → (∀ (j : Nat) (v : Value), vs[j]? = some v → ∃ (y : Str) (t : Tok), ys[j]? = some y ∧ v = Value.str y t) → StrsAre vs ys
  | [], [], _, _ => .nil
  | [], _ :: _, h, _ => by simp at h
  | _ :: _, [], h, _ => by simp at h
  | y :: ys, v :: vs, h, k => by
    obtain ⟨y', t, e1, rfl⟩ := k 0 v rfl
    simp only [List.getElem?_cons_zero, Option.some.injEq] at e1
    subst e1
    exact .cons _ t (strsAre_of ys vs (by simpa using h) fun j v hv => k (j + 1) v (by simpa using hv))
theorem strsAre_app : ∀ {vs ws : List Value} {ys zs : List Str}, StrsAre vs ys → StrsAre ws zs → StrsAre (vs ++ ws) (ys ++ zs)
  | _, _, _, _, .nil, h => h
  | _, _, _, _, .cons y t h, h2 => .cons y t (strsAre_app h h2)
theorem strsAre_rev : ∀ {vs : List Value} {ys : List Str}, StrsAre vs ys → StrsAre vs.reverse ys.reverse
  | _, _, .nil => .nil
  | _, _, .cons y t h => by
    rw [List.reverse_cons, List.reverse_cons]
    exact strsAre_app (strsAre_rev h) (.cons y t .nil)
section
variable {prog : Program} {w : World} {A : Around} {E : Value → Shared → Prop} {s : Shared} {h₀ : Heap} {L : Addr} {m : Str → Option Value} {Q : Value → Shared → Prop} {news : List (Addr × Obj)}
theorem listStr_K {x : Str} {t : Tok} (hh : A.handled = none) (F : Fr h₀ L s.heap m) (N : News h₀ L s.heap news) (hsz : x.length ≤ sizeLine)
    (hQ : ∀ (h' : Heap) (tk : Nat) (vs : List Value) (n : Nat), Fr h₀ L h' m → News h₀ L h' ((s.heap.objs.size, PySem.W.listOf vs.toArray n) :: news) → (∀ p ∈ news, p.1 < s.heap.objs.size) → StrsAre vs (signs x) → Q (.ref s.heap.objs.size) { s with heap := h', toks := tk }) :
    wpAny (model prog w) A (call (.type "list") [.str x t]) Q E s := by
  refine call_list_str hh x t (hn := hsz) fun h' tk acc' c' hk hS' hacc => ?_
  have hlt : ∀ p ∈ news, p.1 < s.heap.objs.size := fun p hp => Heap.lt_size (N p hp).1
  refine hQ h' tk acc'.toList c' (F.keeps hk) ?_ hlt (strsAre_of _ _ (by simp [hacc.1, signs]) fun j v hv => ?_)
  · intro p hp
    rcases List.mem_cons.mp hp with rfl | hp
    · refine ⟨by simpa using hS', ?_, ?_⟩
      · obtain ⟨oL, _, _, hL, _⟩ := F.ns
        exact Nat.ne_of_gt (Heap.lt_size hL)
      · cases e : h₀.get? s.heap.objs.size with
        | none => rfl
        | some o => exact absurd (Heap.lt_size (F.keep _ _ e)) (Nat.lt_irrefl _)
    · exact ⟨hk _ _ (N p hp).1, (N p hp).2⟩
  · obtain ⟨c, u, hc, rfl⟩ := hacc.2 j v (by simpa using hv)
    exact ⟨⟨#[c]⟩, u, by simp [signs, hc], rfl⟩
theorem lenStrs_K {a : Addr} {l : List Value} {n : Nat} {ys : List Str} (N : News h₀ L s.heap news) (hm : (a, PySem.W.listOf l.toArray n) ∈ news) (hi : StrsAre l ys) (hfit : (ys.length : Int) < 9223372036854775808)
    (h : Q (.int ys.length (s.toks + 1)) { s with toks := s.toks + 1 + 1 }) : wpAny (model prog w) A (call (.builtin "len") [.ref a]) Q E s :=
  len_strsA (News.isList N hm) hi hfit h
theorem itemStrs_K {value slice : Expr} {a : Addr} {l : List Value} {n : Nat} {ys : List Str} {k : Int} {u : Tok} (N : News h₀ L s.heap news) (hm : (a, PySem.W.listOf l.toArray n) ∈ news) (hi : StrsAre l ys)
    (h0 : 0 ≤ k) (hk : k < ys.length) (hfit : k < 2 ^ 63) (h : ∀ t', Q (.str (ys.getD k.toNat Str.empty) t') s)
    (hs : subscripted slice false (.ref a) (.int k u) = operate [.ref a, .int k u] (getItem (.ref a) (.int k u)) := by with_unfolding_all rfl) (hg : ∀ r, letTemporaryGo value (.ref a) r = pure () := by intro _; with_unfolding_all rfl) :
    wpAny (model prog w) A (subscriptTail value slice (.ref a) (.int k u)) Q E s :=
  item_strsA (News.isList N hm) hi h0 hk hfit h hs hg
theorem revStrs_K {value slice : PySem.Expr} {l : Addr} {vs : List Value} {n : Nat} {ys : List Str} {vk : Value} {ops : List Value} (F : Fr h₀ L s.heap m) (N : News h₀ L s.heap news) (hm : (l, PySem.W.listOf vs.toArray n) ∈ news) (pk : IsPart vk (some (-1))) (hi : StrsAre vs ys) (hy : ys.length ≤ 1000)
    (h : ∀ D ws h', Fr h₀ L h' m → News h₀ L h' ((D, PySem.W.listOf (List.toArray ws) 0) :: news) → (∀ p ∈ news, p.1 < D) → StrsAre ws ys.reverse → Q (.ref D) { s with heap := h' })
    (hs : subscripted slice false (.ref l) (.ref s.heap.objs.size) = operate ops (getItem (.ref l) (.ref s.heap.objs.size))) (ht : ∀ r, letTemporaryGo value (.ref l) r = pure ()) :
    wpAny (model prog w) A (subscriptTail value slice (.ref l) (.ref s.heap.objs.size)) Q E { s with heap := s.heap.push { cls := .type "slice", data := .fields #[.none, .none, vk] } } :=
  krv_lit (its := vs.toArray) (zs := vs.reverse) F N (News.isList N hm) pk rfl (fun D h' F' N' l1 => h D vs.reverse h' F' N' l1 (strsAre_rev hi)) hs ht (by rw [List.size_toArray, hi.len_eq, sizeLine_eq]; omega)
end

theorem next_spec {prog : Program} {w : World} {p : Program} {loose : List Str} {mean : ExcName → Option Value} {mg mb : Str → Option Value}
  {dp un : Nat} {gd : Option (List Code)} {cn : Str} {cs : Scope} {a : Addr} {ccd : Value} {cl : List (Str × Addr)} {outer : List Env} {A₀ : Around} {base h₀ : Heap} {L : Addr} {m : Str → Option Value} {s : Shared} {Q E : Value → Shared → Prop}
  {t nu : Nat} {c sd many : Int} {t1 t2 t3 : Tok} {n n2 : Nat} {its : List Value} {ns : List Int} {rest : List (Addr × Obj)}
  (B : Below A₀ base outer h₀) (F : Fr h₀ L s.heap m) (X : (hd0.heap_1_1 w.params).In h₀) (N : News h₀ L s.heap ((t, tapeO c t1 nu sd t2 n) :: (nu, PySem.W.listOf its.toArray n2) :: rest)) (T : Top p loose mean mg mb h₀) (hk : cs.kind = .function)
  (hI : IntsAre its ns) (htn : t ≠ nu) (hr : ∀ p ∈ rest, p.1 ≠ t) (hlen : ns.length ≤ 40) (hc0 : 0 ≤ c) (hc1 : c < 10000) (hs0 : 0 ≤ sd) (hs1 : sd < 2147483647) (hm0 : 0 < many) (hm1 : many < 10000)
  (hdp : dp + 1 < recursionLimit) (hun : un + 8 < cLine)
  (hret : ∀ (v sd' : Int) (t0 t1' t2' : Tok) (h' : Heap) (tk' : Nat), Fr h₀ L h' m → News h₀ L h' ((t, tapeO (c+1) t1' nu sd' t2' n) :: (nu, PySem.W.listOf its.toArray n2) :: rest) → 0 ≤ v → v < many → 0 ≤ sd' → sd' < 2147483647 → Q (.int v t0) { s with heap := h', toks := tk' }) :
  wpAny (model prog w) (ktrTop dp un gd cn cs L a ccd cl outer) (call (.ref 245) [.ref t, .int many t3]) Q E s := by
 exact Mine.quiet _ (type_of% (Mine.aside (by
  refine wpAny_call ?_
  k_dflt ktr_enter
  k_extra "my steps"
  · exact hret _ _ _ _ _ _ _ (by k_asm) (by k_asm) (Int.fmod_nonneg_of_pos _ hm0) (Int.fmod_lt_of_pos _ hm0) hs0 hs1
  · exact hret _ _ _ _ _ _ _ (by k_asm) (by k_asm) (Int.fmod_nonneg_of_pos _ hm0) (Int.fmod_lt_of_pos _ hm0) (Int.fmod_nonneg_of_pos _ (by decide)) (Int.fmod_lt_of_pos _ (by decide))
 ) (by exact Nat) _))
theorem next_call {prog : Program} {w : World} {p : Program} {loose : List Str} {mean : ExcName → Option Value} {mg mb : Str → Option Value}
  {dp un : Nat} {gd : Option (List Code)} {cn : Str} {cs : Scope} {a : Addr} {ccd : Value} {cl : List (Str × Addr)} {outer : List Env} {A₀ : Around} {base h₀ : Heap} {L : Addr} {m : Str → Option Value} {s : Shared} {Q E : Value → Shared → Prop}
  {t nu : Nat} {c sd many : Int} {t1 t2 t3 : Tok} {n n2 : Nat} {its : List Value} {ns : List Int} {news : List (Addr × Obj)} {f : Obj → List (Addr × Obj)}
  (B : Below A₀ base outer h₀) (F : Fr h₀ L s.heap m) (X : (hd0.heap_1_1 w.params).In h₀) (N : News h₀ L s.heap (news)) (T : Top p loose mean mg mb h₀) (hk : cs.kind = .function) (U : UpdF t (tapeO c t1 nu sd t2 n) news f) (hn : (nu, PySem.W.listOf its.toArray n2) ∈ news)
  (hI : IntsAre its ns) (htn : t ≠ nu) (hlen : ns.length ≤ 40) (hc0 : 0 ≤ c) (hc1 : c < 10000) (hs0 : 0 ≤ sd) (hs1 : sd < 2147483647) (hm0 : 0 < many) (hm1 : many < 10000)
  (hdp : dp + 1 < recursionLimit) (hun : un + 8 < cLine)
  (hret : ∀ (v sd' : Int) (t0 t1' t2' : Tok) (h' : Heap) (tk' : Nat), Fr h₀ L h' m → News h₀ L h' (f (tapeO (c+1) t1' nu sd' t2' n)) → 0 ≤ v → v < many → 0 ≤ sd' → sd' < 2147483647 → Q (.int v t0) { s with heap := h', toks := tk' }) :
  wpAny (model prog w) (ktrTop dp un gd cn cs L a ccd cl outer) (call (.ref 245) [.ref t, .int many t3]) Q E s := by
  obtain ⟨rest, hr, N1, hf, hmem⟩ := updF_rest N U
  exact next_spec B F X (news_ins N hn N1) T hk hI htn hr hlen hc0 hc1 hs0 hs1 hm0 hm1 hdp hun
    fun v sd' t0 t1' t2' h' tk' F' N' a b c d => hret v sd' t0 t1' t2' h' tk' F' (hf _ _ (news_del N')) a b c d

theorem replaced_spec {prog : Program} {w : World} {p : Program} {loose : List Str} {mean : ExcName → Option Value} {mg mb : Str → Option Value}
  {dp un : Nat} {gd : Option (List Code)} {cn : Str} {cs : Scope} {a : Addr} {ccd : Value} {cl : List (Str × Addr)} {outer : List Env} {A₀ : Around} {base h₀ : Heap} {L : Addr} {m : Str → Option Value} {s : Shared} {Q E : Value → Shared → Prop}
  {tw : Nat} {x g : Str} {c l lb b k i j : Int} {σ0 σ1 σ2 σ3 σ4 σ5 tg ti tj : Tok} {n : Nat} {rest : List (Addr × Obj)}
  (B : Below A₀ base outer h₀) (F : Fr h₀ L s.heap m) (X : (hd0.heap_1_1 w.params).In h₀) (N : News h₀ L s.heap ((tw, twinO x σ0 c σ1 l σ2 lb σ3 b σ4 k σ5 n) :: rest)) (T : Top p loose mean mg mb h₀) (hk : cs.kind = .function)
  (hr : ∀ p ∈ rest, p.1 ≠ tw) (hx : x.length ≤ 1000) (hg : g.length ≤ 1000) (hc0 : 0 ≤ c) (hcl : c ≤ l) (hl1 : l ≤ x.length) (hi : 0 ≤ i) (hij : i ≤ j) (hj : j ≤ x.length)
  (hdp : dp + 1 < recursionLimit) (hun : un + 8 < cLine)
  (hret : ∀ (x' : Str) (c' l' : Int) (σ0 σ1 σ2 σ3 σ4 σ5 : Tok) (h' : Heap) (tk' : Nat), Fr h₀ L h' m → News h₀ L h' ((tw, twinO x' σ0 c' σ1 l' σ2 lb σ3 b σ4 k σ5 n) :: rest) →
    x' = Txt.slice x (some 0) (some i) ++ g ++ Txt.slice x (some j) none → c' = (if j ≤ c then c + (g.length - (j - i)) else if i < c then i else c) → l' = l + (g.length - (j - i)) → Q .none { s with heap := h', toks := tk' }) :
  wpAny (model prog w) (ktrTop dp un gd cn cs L a ccd cl outer) (call (.ref 266) [.ref tw, .int i ti, .int j tj, .str g tg]) Q E s := by
 exact Mine.quiet _ (type_of% (Mine.aside (by
  refine wpAny_call ?_
  k_dflt ktr_enter
  have e1 := slice_zs (x := x) hi (by k_extra "my num")
  have e2 := rep_len (x := x) (g := g) hi hij hj
  rw [e1] at e2
  k_extra "my steps"
  all_goals exact hret _ _ _ _ _ _ _ _ _ _ _ (by k_asm) (by k_asm) (by rw [e1]) (by (repeat' split) <;> omega) (by k_extra "my num")
 ) (by exact Nat) _))
theorem replaced_call {prog : Program} {w : World} {p : Program} {loose : List Str} {mean : ExcName → Option Value} {mg mb : Str → Option Value}
  {dp un : Nat} {gd : Option (List Code)} {cn : Str} {cs : Scope} {a : Addr} {ccd : Value} {cl : List (Str × Addr)} {outer : List Env} {A₀ : Around} {base h₀ : Heap} {L : Addr} {m : Str → Option Value} {s : Shared} {Q E : Value → Shared → Prop}
  {tw : Nat} {x g : Str} {c l lb b k i j : Int} {σ0 σ1 σ2 σ3 σ4 σ5 tg ti tj : Tok} {n : Nat} {news : List (Addr × Obj)} {f : Obj → List (Addr × Obj)}
  (B : Below A₀ base outer h₀) (F : Fr h₀ L s.heap m) (X : (hd0.heap_1_1 w.params).In h₀) (N : News h₀ L s.heap (news)) (T : Top p loose mean mg mb h₀) (hk : cs.kind = .function) (U : UpdF tw (twinO x σ0 c σ1 l σ2 lb σ3 b σ4 k σ5 n) news f)
  (hx : x.length ≤ 1000) (hg : g.length ≤ 1000) (hc0 : 0 ≤ c) (hcl : c ≤ l) (hl1 : l ≤ x.length) (hi : 0 ≤ i) (hij : i ≤ j) (hj : j ≤ x.length)
  (hdp : dp + 1 < recursionLimit) (hun : un + 8 < cLine)
  (hret : ∀ (x' : Str) (c' l' : Int) (σ0 σ1 σ2 σ3 σ4 σ5 : Tok) (h' : Heap) (tk' : Nat), Fr h₀ L h' m → News h₀ L h' (f (twinO x' σ0 c' σ1 l' σ2 lb σ3 b σ4 k σ5 n)) →
    x' = Txt.slice x (some 0) (some i) ++ g ++ Txt.slice x (some j) none → c' = (if j ≤ c then c + (g.length - (j - i)) else if i < c then i else c) → l' = l + (g.length - (j - i)) → Q .none { s with heap := h', toks := tk' }) :
  wpAny (model prog w) (ktrTop dp un gd cn cs L a ccd cl outer) (call (.ref 266) [.ref tw, .int i ti, .int j tj, .str g tg]) Q E s := by
  obtain ⟨rest, hr, N1, hf, -⟩ := updF_rest N U
  exact replaced_spec B F X N1 T hk hr hx hg hc0 hcl hl1 hi hij hj hdp hun fun x' c' l' σ0 σ1 σ2 σ3 σ4 σ5 h' tk' F' N' => hret x' c' l' σ0 σ1 σ2 σ3 σ4 σ5 h' tk' F' (hf _ _ N')

theorem con_true {g y : Str} (h : (Builtin.Str.occurrences g y 0 g.length 1).isEmpty = false) : Txt.contains g y = true := by unfold Txt.contains; rw [h]; rfl
theorem con_false {g y : Str} (h : (Builtin.Str.occurrences g y 0 g.length 1).isEmpty = true) : Txt.contains g y = false := by unfold Txt.contains; rw [h]; rfl
def LookF (ins : Bool) (x g : Str) (c l c' : Int) (v : Bool) : Prop :=
  (v = true ∧ c < l ∧ Txt.contains g (Txt.item x c) = ins ∧ c' = c + 1) ∨ (v = false ∧ (l ≤ c ∨ Txt.contains g (Txt.item x c) = !ins) ∧ c' = c)
def GoF (ins : Bool) (x g : Str) (c l c' : Int) (v : Bool) : Prop :=
  c ≤ c' ∧ c' ≤ l ∧ (∀ i, c ≤ i → i < c' → Txt.contains g (Txt.item x i) = ins) ∧ ((v = true ∧ c' < l ∧ Txt.contains g (Txt.item x c') = !ins) ∨ (v = false ∧ l ≤ c'))
def LookB (ins : Bool) (x g : Str) (c lb c' : Int) (v : Bool) : Prop :=
  (v = true ∧ lb < c ∧ Txt.contains g (Txt.item x (c - 1)) = ins ∧ c' = c - 1) ∨ (v = false ∧ (c ≤ lb ∨ Txt.contains g (Txt.item x (c - 1)) = !ins) ∧ c' = c)
def GoB (ins : Bool) (x g : Str) (c lb c' : Int) (v : Bool) : Prop :=
  c' ≤ c ∧ (c' = c ∨ lb ≤ c') ∧ (∀ i, c' ≤ i → i < c → Txt.contains g (Txt.item x i) = ins) ∧ ((v = true ∧ lb < c' ∧ Txt.contains g (Txt.item x (c' - 1)) = !ins) ∨ (v = false ∧ c' ≤ lb))

theorem in_grouping_spec {prog : Program} {w : World} {p : Program} {loose : List Str} {mean : ExcName → Option Value} {mg mb : Str → Option Value}
  {dp un : Nat} {gd : Option (List Code)} {cn : Str} {cs : Scope} {a : Addr} {ccd : Value} {cl : List (Str × Addr)} {outer : List Env} {A₀ : Around} {base h₀ : Heap} {L : Addr} {m : Str → Option Value} {s : Shared} {Q E : Value → Shared → Prop}
  {mx dx : Nat} {H : Nat → Int} {KT : Nat → Tok} {x : Str} {c l lb b k : Int} {τ0 τ1 τ2 τ3 τ4 τ5 : Tok} {g : Str} {tg : Tok} {rest : List (Addr × Obj)}
  (B : Below A₀ base outer h₀) (F : Fr h₀ L s.heap m) (X : (hd0.heap_1_1 w.params).In h₀) (N : News h₀ L s.heap ((mx, instObj 199 dx) :: (dx, machD H KT (x) τ0 (c) τ1 (l) τ2 (lb) τ3 (b) τ4 (k) τ5) :: rest)) (T : Top p loose mean mg mb h₀) (hk : cs.kind = .function)
  (hmd : mx ≠ dx) (hr : ∀ p ∈ rest, p.1 ≠ dx) (hx : x.length ≤ 1000) (hc0 : 0 ≤ c) (hcl : c ≤ l) (hl1 : l ≤ x.length) (hlb : 0 ≤ lb) (hdp : dp + 1 < recursionLimit) (hun : un + 8 < cLine)
  (hret : ∀ (v : Bool) (c' : Int) (τ0 τ1 τ2 τ3 τ4 τ5 : Tok) (h' : Heap) (tk' : Nat), Fr h₀ L h' m → News h₀ L h' ((mx, instObj 199 dx) :: (dx, machD H KT (x) τ0 (c') τ1 (l) τ2 (lb) τ3 (b) τ4 (k) τ5) :: rest) → LookF true x g c l c' v → Q (.bool v) { s with heap := h', toks := tk' }) :
  wpAny (model prog w) (ktrTop dp un gd cn cs L a ccd cl outer) (call (.ref 63) [.ref mx, .str g tg]) Q E s := by
 exact Mine.quiet _ (type_of% (Mine.aside (by
  refine wpAny_call ?_
  k_dflt ktr_enter
  k_extra "my steps"
  all_goals (refine hret _ _ _ _ _ _ _ _ _ _ (by k_asm) (by k_asm) ?_; first | exact .inr ⟨rfl, .inl (by k_extra "my num"), rfl⟩ | exact .inl ⟨rfl, by k_extra "my num", con_true (by assumption), rfl⟩ | exact .inr ⟨rfl, .inr (con_false (by assumption)), rfl⟩)
 ) (by exact Nat) _))
theorem in_grouping_call {prog : Program} {w : World} {p : Program} {loose : List Str} {mean : ExcName → Option Value} {mg mb : Str → Option Value}
  {dp un : Nat} {gd : Option (List Code)} {cn : Str} {cs : Scope} {a : Addr} {ccd : Value} {cl : List (Str × Addr)} {outer : List Env} {A₀ : Around} {base h₀ : Heap} {L : Addr} {m : Str → Option Value} {s : Shared} {Q E : Value → Shared → Prop}
  {mx dx : Nat} {H : Nat → Int} {KT : Nat → Tok} {x : Str} {c l lb b k : Int} {τ0 τ1 τ2 τ3 τ4 τ5 : Tok} {g : Str} {tg : Tok} {news : List (Addr × Obj)} {f : Obj → List (Addr × Obj)}
  (B : Below A₀ base outer h₀) (F : Fr h₀ L s.heap m) (X : (hd0.heap_1_1 w.params).In h₀) (N : News h₀ L s.heap (news)) (T : Top p loose mean mg mb h₀) (hk : cs.kind = .function)
  (hm : (mx, instObj 199 dx) ∈ news) (U : UpdF dx (machD H KT (x) τ0 (c) τ1 (l) τ2 (lb) τ3 (b) τ4 (k) τ5) news f) (hmd : mx ≠ dx) (hx : x.length ≤ 1000) (hc0 : 0 ≤ c) (hcl : c ≤ l) (hl1 : l ≤ x.length) (hlb : 0 ≤ lb) (hdp : dp + 1 < recursionLimit) (hun : un + 8 < cLine)
  (hret : ∀ (v : Bool) (c' : Int) (τ0 τ1 τ2 τ3 τ4 τ5 : Tok) (h' : Heap) (tk' : Nat), Fr h₀ L h' m → News h₀ L h' (f (machD H KT (x) τ0 (c') τ1 (l) τ2 (lb) τ3 (b) τ4 (k) τ5)) → LookF true x g c l c' v → Q (.bool v) { s with heap := h', toks := tk' }) :
  wpAny (model prog w) (ktrTop dp un gd cn cs L a ccd cl outer) (call (.ref 63) [.ref mx, .str g tg]) Q E s := by
  obtain ⟨rest, hr, N1, hf, -⟩ := updF_rest N U
  exact in_grouping_spec B F X (news_put N hm N1) T hk hmd hr hx hc0 hcl hl1 hlb hdp hun fun v c' τ0 τ1 τ2 τ3 τ4 τ5 h' tk' F' N' e0 => hret v c' τ0 τ1 τ2 τ3 τ4 τ5 h' tk' F' (hf _ _ (news_tl N')) e0

theorem go_in_grouping_spec {prog : Program} {w : World} {p : Program} {loose : List Str} {mean : ExcName → Option Value} {mg mb : Str → Option Value}
  {dp un : Nat} {gd : Option (List Code)} {cn : Str} {cs : Scope} {a : Addr} {ccd : Value} {cl : List (Str × Addr)} {outer : List Env} {A₀ : Around} {base h₀ : Heap} {L : Addr} {m : Str → Option Value} {s : Shared} {Q E : Value → Shared → Prop}
  {mx dx : Nat} {H : Nat → Int} {KT : Nat → Tok} {x : Str} {c l lb b k : Int} {τ0 τ1 τ2 τ3 τ4 τ5 : Tok} {g : Str} {tg : Tok} {rest : List (Addr × Obj)}
  (B : Below A₀ base outer h₀) (F : Fr h₀ L s.heap m) (X : (hd0.heap_1_1 w.params).In h₀) (N : News h₀ L s.heap ((mx, instObj 199 dx) :: (dx, machD H KT (x) τ0 (c) τ1 (l) τ2 (lb) τ3 (b) τ4 (k) τ5) :: rest)) (T : Top p loose mean mg mb h₀) (hk : cs.kind = .function)
  (hmd : mx ≠ dx) (hr : ∀ p ∈ rest, p.1 ≠ dx) (hx : x.length ≤ 1000) (hc0 : 0 ≤ c) (hcl : c ≤ l) (hl1 : l ≤ x.length) (hlb : 0 ≤ lb) (hdp : dp + 1 < recursionLimit) (hun : un + 8 < cLine)
  (hret : ∀ (v : Bool) (c' : Int) (τ0 τ1 τ2 τ3 τ4 τ5 : Tok) (h' : Heap) (tk' : Nat), Fr h₀ L h' m → News h₀ L h' ((mx, instObj 199 dx) :: (dx, machD H KT (x) τ0 (c') τ1 (l) τ2 (lb) τ3 (b) τ4 (k) τ5) :: rest) → GoF true x g c l c' v → Q (.bool v) { s with heap := h', toks := tk' }) :
  wpAny (model prog w) (ktrTop dp un gd cn cs L a ccd cl outer) (call (.ref 70) [.ref mx, .str g tg]) Q E s := by
 exact Mine.quiet _ (type_of% (Mine.aside (by
  refine wpAny_call ?_
  k_dflt ktr_enter
  (k_with "my exec While Compare cons nil" => (
    refine' ksw_while (σ := Int × Tok) (fun st => (mx, instObj 199 dx) :: (dx, machD H KT x τ0 st.1 st.2 l τ2 lb τ3 b τ4 k τ5) :: rest) (fun _ => []) (fun _ => True) [] (fun st => c ≤ st.1 ∧ st.1 ≤ l ∧ (∀ i, c ≤ i → i < st.1 → Txt.contains g (Txt.item x i) = true)) (fun st => (l - st.1).toNat) (c, τ1) ?kF ?kN ?kf ?kk ?kp ?_
    (case kF => k_asm); (case kN => k_asm); (case kf => exact trivial); (case kk => exact fun _ h => nomatch h); (case kp => exact ⟨Int.le_refl _, hcl, fun i h1 h2 => absurd h2 (by k_extra "my num")⟩)
    rintro ⟨a, ta⟩ u h tk - ⟨hca, hcb, hia⟩ F9 N9
    dsimp only at hca hcb hia N9; dsimp only [kstB] at F9
    dsimp only))
  k_extra "my steps"
  all_goals first
    | (refine ksw_end (_, _) (by k_asm) (by k_asm) (fun _ h => h) trivial (fun _ h => nomatch h) (fun _ _ _ => rfl) ⟨by k_extra "my num", by k_extra "my num", all_to hia (con_true (by assumption))⟩ ?_; dsimp only; omega)
    | (refine hret _ _ _ _ _ _ _ _ _ _ (by k_asm) (by k_asm) ?_; first | exact ⟨hca, hcb, hia, .inl ⟨rfl, by k_extra "my num", con_false (by assumption)⟩⟩ | exact ⟨hca, hcb, hia, .inr ⟨rfl, by k_extra "my num"⟩⟩)
 ) (by exact Nat) _))
theorem go_in_grouping_call {prog : Program} {w : World} {p : Program} {loose : List Str} {mean : ExcName → Option Value} {mg mb : Str → Option Value}
  {dp un : Nat} {gd : Option (List Code)} {cn : Str} {cs : Scope} {a : Addr} {ccd : Value} {cl : List (Str × Addr)} {outer : List Env} {A₀ : Around} {base h₀ : Heap} {L : Addr} {m : Str → Option Value} {s : Shared} {Q E : Value → Shared → Prop}
  {mx dx : Nat} {H : Nat → Int} {KT : Nat → Tok} {x : Str} {c l lb b k : Int} {τ0 τ1 τ2 τ3 τ4 τ5 : Tok} {g : Str} {tg : Tok} {news : List (Addr × Obj)} {f : Obj → List (Addr × Obj)}
  (B : Below A₀ base outer h₀) (F : Fr h₀ L s.heap m) (X : (hd0.heap_1_1 w.params).In h₀) (N : News h₀ L s.heap (news)) (T : Top p loose mean mg mb h₀) (hk : cs.kind = .function)
  (hm : (mx, instObj 199 dx) ∈ news) (U : UpdF dx (machD H KT (x) τ0 (c) τ1 (l) τ2 (lb) τ3 (b) τ4 (k) τ5) news f) (hmd : mx ≠ dx) (hx : x.length ≤ 1000) (hc0 : 0 ≤ c) (hcl : c ≤ l) (hl1 : l ≤ x.length) (hlb : 0 ≤ lb) (hdp : dp + 1 < recursionLimit) (hun : un + 8 < cLine)
  (hret : ∀ (v : Bool) (c' : Int) (τ0 τ1 τ2 τ3 τ4 τ5 : Tok) (h' : Heap) (tk' : Nat), Fr h₀ L h' m → News h₀ L h' (f (machD H KT (x) τ0 (c') τ1 (l) τ2 (lb) τ3 (b) τ4 (k) τ5)) → GoF true x g c l c' v → Q (.bool v) { s with heap := h', toks := tk' }) :
  wpAny (model prog w) (ktrTop dp un gd cn cs L a ccd cl outer) (call (.ref 70) [.ref mx, .str g tg]) Q E s := by
  obtain ⟨rest, hr, N1, hf, -⟩ := updF_rest N U
  exact go_in_grouping_spec B F X (news_put N hm N1) T hk hmd hr hx hc0 hcl hl1 hlb hdp hun fun v c' τ0 τ1 τ2 τ3 τ4 τ5 h' tk' F' N' e0 => hret v c' τ0 τ1 τ2 τ3 τ4 τ5 h' tk' F' (hf _ _ (news_tl N')) e0

theorem in_grouping_b_spec {prog : Program} {w : World} {p : Program} {loose : List Str} {mean : ExcName → Option Value} {mg mb : Str → Option Value}
  {dp un : Nat} {gd : Option (List Code)} {cn : Str} {cs : Scope} {a : Addr} {ccd : Value} {cl : List (Str × Addr)} {outer : List Env} {A₀ : Around} {base h₀ : Heap} {L : Addr} {m : Str → Option Value} {s : Shared} {Q E : Value → Shared → Prop}
  {mx dx : Nat} {H : Nat → Int} {KT : Nat → Tok} {x : Str} {c l lb b k : Int} {τ0 τ1 τ2 τ3 τ4 τ5 : Tok} {g : Str} {tg : Tok} {rest : List (Addr × Obj)}
  (B : Below A₀ base outer h₀) (F : Fr h₀ L s.heap m) (X : (hd0.heap_1_1 w.params).In h₀) (N : News h₀ L s.heap ((mx, instObj 199 dx) :: (dx, machD H KT (x) τ0 (c) τ1 (l) τ2 (lb) τ3 (b) τ4 (k) τ5) :: rest)) (T : Top p loose mean mg mb h₀) (hk : cs.kind = .function)
  (hmd : mx ≠ dx) (hr : ∀ p ∈ rest, p.1 ≠ dx) (hx : x.length ≤ 1000) (hc0 : 0 ≤ c) (hcl : c ≤ l) (hl1 : l ≤ x.length) (hlb : 0 ≤ lb) (hdp : dp + 1 < recursionLimit) (hun : un + 8 < cLine)
  (hret : ∀ (v : Bool) (c' : Int) (τ0 τ1 τ2 τ3 τ4 τ5 : Tok) (h' : Heap) (tk' : Nat), Fr h₀ L h' m → News h₀ L h' ((mx, instObj 199 dx) :: (dx, machD H KT (x) τ0 (c') τ1 (l) τ2 (lb) τ3 (b) τ4 (k) τ5) :: rest) → LookB true x g c lb c' v → Q (.bool v) { s with heap := h', toks := tk' }) :
  wpAny (model prog w) (ktrTop dp un gd cn cs L a ccd cl outer) (call (.ref 77) [.ref mx, .str g tg]) Q E s := by
 exact Mine.quiet _ (type_of% (Mine.aside (by
  refine wpAny_call ?_
  k_dflt ktr_enter
  k_extra "my steps"
  all_goals (refine hret _ _ _ _ _ _ _ _ _ _ (by k_asm) (by k_asm) ?_; first | exact .inr ⟨rfl, .inl (by k_extra "my num"), rfl⟩ | exact .inl ⟨rfl, by k_extra "my num", con_true (by assumption), rfl⟩ | exact .inr ⟨rfl, .inr (con_false (by assumption)), rfl⟩)
 ) (by exact Nat) _))
theorem in_grouping_b_call {prog : Program} {w : World} {p : Program} {loose : List Str} {mean : ExcName → Option Value} {mg mb : Str → Option Value}
  {dp un : Nat} {gd : Option (List Code)} {cn : Str} {cs : Scope} {a : Addr} {ccd : Value} {cl : List (Str × Addr)} {outer : List Env} {A₀ : Around} {base h₀ : Heap} {L : Addr} {m : Str → Option Value} {s : Shared} {Q E : Value → Shared → Prop}
  {mx dx : Nat} {H : Nat → Int} {KT : Nat → Tok} {x : Str} {c l lb b k : Int} {τ0 τ1 τ2 τ3 τ4 τ5 : Tok} {g : Str} {tg : Tok} {news : List (Addr × Obj)} {f : Obj → List (Addr × Obj)}
  (B : Below A₀ base outer h₀) (F : Fr h₀ L s.heap m) (X : (hd0.heap_1_1 w.params).In h₀) (N : News h₀ L s.heap (news)) (T : Top p loose mean mg mb h₀) (hk : cs.kind = .function)
  (hm : (mx, instObj 199 dx) ∈ news) (U : UpdF dx (machD H KT (x) τ0 (c) τ1 (l) τ2 (lb) τ3 (b) τ4 (k) τ5) news f) (hmd : mx ≠ dx) (hx : x.length ≤ 1000) (hc0 : 0 ≤ c) (hcl : c ≤ l) (hl1 : l ≤ x.length) (hlb : 0 ≤ lb) (hdp : dp + 1 < recursionLimit) (hun : un + 8 < cLine)
  (hret : ∀ (v : Bool) (c' : Int) (τ0 τ1 τ2 τ3 τ4 τ5 : Tok) (h' : Heap) (tk' : Nat), Fr h₀ L h' m → News h₀ L h' (f (machD H KT (x) τ0 (c') τ1 (l) τ2 (lb) τ3 (b) τ4 (k) τ5)) → LookB true x g c lb c' v → Q (.bool v) { s with heap := h', toks := tk' }) :
  wpAny (model prog w) (ktrTop dp un gd cn cs L a ccd cl outer) (call (.ref 77) [.ref mx, .str g tg]) Q E s := by
  obtain ⟨rest, hr, N1, hf, -⟩ := updF_rest N U
  exact in_grouping_b_spec B F X (news_put N hm N1) T hk hmd hr hx hc0 hcl hl1 hlb hdp hun fun v c' τ0 τ1 τ2 τ3 τ4 τ5 h' tk' F' N' e0 => hret v c' τ0 τ1 τ2 τ3 τ4 τ5 h' tk' F' (hf _ _ (news_tl N')) e0

theorem go_in_grouping_b_spec {prog : Program} {w : World} {p : Program} {loose : List Str} {mean : ExcName → Option Value} {mg mb : Str → Option Value}
  {dp un : Nat} {gd : Option (List Code)} {cn : Str} {cs : Scope} {a : Addr} {ccd : Value} {cl : List (Str × Addr)} {outer : List Env} {A₀ : Around} {base h₀ : Heap} {L : Addr} {m : Str → Option Value} {s : Shared} {Q E : Value → Shared → Prop}
  {mx dx : Nat} {H : Nat → Int} {KT : Nat → Tok} {x : Str} {c l lb b k : Int} {τ0 τ1 τ2 τ3 τ4 τ5 : Tok} {g : Str} {tg : Tok} {rest : List (Addr × Obj)}
  (B : Below A₀ base outer h₀) (F : Fr h₀ L s.heap m) (X : (hd0.heap_1_1 w.params).In h₀) (N : News h₀ L s.heap ((mx, instObj 199 dx) :: (dx, machD H KT (x) τ0 (c) τ1 (l) τ2 (lb) τ3 (b) τ4 (k) τ5) :: rest)) (T : Top p loose mean mg mb h₀) (hk : cs.kind = .function)
  (hmd : mx ≠ dx) (hr : ∀ p ∈ rest, p.1 ≠ dx) (hx : x.length ≤ 1000) (hc0 : 0 ≤ c) (hcl : c ≤ l) (hl1 : l ≤ x.length) (hlb : 0 ≤ lb) (hdp : dp + 1 < recursionLimit) (hun : un + 8 < cLine)
  (hret : ∀ (v : Bool) (c' : Int) (τ0 τ1 τ2 τ3 τ4 τ5 : Tok) (h' : Heap) (tk' : Nat), Fr h₀ L h' m → News h₀ L h' ((mx, instObj 199 dx) :: (dx, machD H KT (x) τ0 (c') τ1 (l) τ2 (lb) τ3 (b) τ4 (k) τ5) :: rest) → GoB true x g c lb c' v → Q (.bool v) { s with heap := h', toks := tk' }) :
  wpAny (model prog w) (ktrTop dp un gd cn cs L a ccd cl outer) (call (.ref 84) [.ref mx, .str g tg]) Q E s := by
 exact Mine.quiet _ (type_of% (Mine.aside (by
  refine wpAny_call ?_
  k_dflt ktr_enter
  (k_with "my exec While Compare cons nil" => (
    refine' ksw_while (σ := Int × Tok) (fun st => (mx, instObj 199 dx) :: (dx, machD H KT x τ0 st.1 st.2 l τ2 lb τ3 b τ4 k τ5) :: rest) (fun _ => []) (fun _ => True) [] (fun st => st.1 ≤ c ∧ (st.1 = c ∨ lb ≤ st.1) ∧ (∀ i, st.1 ≤ i → i < c → Txt.contains g (Txt.item x i) = true)) (fun st => (st.1 - lb).toNat) (c, τ1) ?kF ?kN ?kf ?kk ?kp ?_
    (case kF => k_asm); (case kN => k_asm); (case kf => exact trivial); (case kk => exact fun _ h => nomatch h); (case kp => exact ⟨Int.le_refl _, .inl rfl, fun i h1 h2 => absurd h2 (by k_extra "my num")⟩)
    rintro ⟨a, ta⟩ u h tk - ⟨hca, hcb, hia⟩ F9 N9
    dsimp only at hca hcb hia N9; dsimp only [kstB] at F9
    dsimp only))
  k_extra "my steps"
  all_goals first
    | (refine ksw_end (_, _) (by k_asm) (by k_asm) (fun _ h => h) trivial (fun _ h => nomatch h) (fun _ _ _ => rfl) ⟨by k_extra "my num", .inr (by k_extra "my num"), all_fro hia (con_true (by assumption))⟩ ?_; dsimp only; omega)
    | (refine hret _ _ _ _ _ _ _ _ _ _ (by k_asm) (by k_asm) ?_; first | exact ⟨hca, hcb, hia, .inl ⟨rfl, by k_extra "my num", con_false (by assumption)⟩⟩ | exact ⟨hca, hcb, hia, .inr ⟨rfl, by k_extra "my num"⟩⟩)
 ) (by exact Nat) _))
theorem go_in_grouping_b_call {prog : Program} {w : World} {p : Program} {loose : List Str} {mean : ExcName → Option Value} {mg mb : Str → Option Value}
  {dp un : Nat} {gd : Option (List Code)} {cn : Str} {cs : Scope} {a : Addr} {ccd : Value} {cl : List (Str × Addr)} {outer : List Env} {A₀ : Around} {base h₀ : Heap} {L : Addr} {m : Str → Option Value} {s : Shared} {Q E : Value → Shared → Prop}
  {mx dx : Nat} {H : Nat → Int} {KT : Nat → Tok} {x : Str} {c l lb b k : Int} {τ0 τ1 τ2 τ3 τ4 τ5 : Tok} {g : Str} {tg : Tok} {news : List (Addr × Obj)} {f : Obj → List (Addr × Obj)}
  (B : Below A₀ base outer h₀) (F : Fr h₀ L s.heap m) (X : (hd0.heap_1_1 w.params).In h₀) (N : News h₀ L s.heap (news)) (T : Top p loose mean mg mb h₀) (hk : cs.kind = .function)
  (hm : (mx, instObj 199 dx) ∈ news) (U : UpdF dx (machD H KT (x) τ0 (c) τ1 (l) τ2 (lb) τ3 (b) τ4 (k) τ5) news f) (hmd : mx ≠ dx) (hx : x.length ≤ 1000) (hc0 : 0 ≤ c) (hcl : c ≤ l) (hl1 : l ≤ x.length) (hlb : 0 ≤ lb) (hdp : dp + 1 < recursionLimit) (hun : un + 8 < cLine)
  (hret : ∀ (v : Bool) (c' : Int) (τ0 τ1 τ2 τ3 τ4 τ5 : Tok) (h' : Heap) (tk' : Nat), Fr h₀ L h' m → News h₀ L h' (f (machD H KT (x) τ0 (c') τ1 (l) τ2 (lb) τ3 (b) τ4 (k) τ5)) → GoB true x g c lb c' v → Q (.bool v) { s with heap := h', toks := tk' }) :
  wpAny (model prog w) (ktrTop dp un gd cn cs L a ccd cl outer) (call (.ref 84) [.ref mx, .str g tg]) Q E s := by
  obtain ⟨rest, hr, N1, hf, -⟩ := updF_rest N U
  exact go_in_grouping_b_spec B F X (news_put N hm N1) T hk hmd hr hx hc0 hcl hl1 hlb hdp hun fun v c' τ0 τ1 τ2 τ3 τ4 τ5 h' tk' F' N' e0 => hret v c' τ0 τ1 τ2 τ3 τ4 τ5 h' tk' F' (hf _ _ (news_tl N')) e0

theorem out_grouping_spec {prog : Program} {w : World} {p : Program} {loose : List Str} {mean : ExcName → Option Value} {mg mb : Str → Option Value}
  {dp un : Nat} {gd : Option (List Code)} {cn : Str} {cs : Scope} {a : Addr} {ccd : Value} {cl : List (Str × Addr)} {outer : List Env} {A₀ : Around} {base h₀ : Heap} {L : Addr} {m : Str → Option Value} {s : Shared} {Q E : Value → Shared → Prop}
  {mx dx : Nat} {H : Nat → Int} {KT : Nat → Tok} {x : Str} {c l lb b k : Int} {τ0 τ1 τ2 τ3 τ4 τ5 : Tok} {g : Str} {tg : Tok} {rest : List (Addr × Obj)}
  (B : Below A₀ base outer h₀) (F : Fr h₀ L s.heap m) (X : (hd0.heap_1_1 w.params).In h₀) (N : News h₀ L s.heap ((mx, instObj 199 dx) :: (dx, machD H KT (x) τ0 (c) τ1 (l) τ2 (lb) τ3 (b) τ4 (k) τ5) :: rest)) (T : Top p loose mean mg mb h₀) (hk : cs.kind = .function)
  (hmd : mx ≠ dx) (hr : ∀ p ∈ rest, p.1 ≠ dx) (hx : x.length ≤ 1000) (hc0 : 0 ≤ c) (hcl : c ≤ l) (hl1 : l ≤ x.length) (hlb : 0 ≤ lb) (hdp : dp + 1 < recursionLimit) (hun : un + 8 < cLine)
  (hret : ∀ (v : Bool) (c' : Int) (τ0 τ1 τ2 τ3 τ4 τ5 : Tok) (h' : Heap) (tk' : Nat), Fr h₀ L h' m → News h₀ L h' ((mx, instObj 199 dx) :: (dx, machD H KT (x) τ0 (c') τ1 (l) τ2 (lb) τ3 (b) τ4 (k) τ5) :: rest) → LookF false x g c l c' v → Q (.bool v) { s with heap := h', toks := tk' }) :
  wpAny (model prog w) (ktrTop dp un gd cn cs L a ccd cl outer) (call (.ref 91) [.ref mx, .str g tg]) Q E s := by
 exact Mine.quiet _ (type_of% (Mine.aside (by
  refine wpAny_call ?_
  k_dflt ktr_enter
  k_extra "my steps"
  all_goals (refine hret _ _ _ _ _ _ _ _ _ _ (by k_asm) (by k_asm) ?_; first | exact .inr ⟨rfl, .inl (by k_extra "my num"), rfl⟩ | exact .inl ⟨rfl, by k_extra "my num", con_false (by assumption), rfl⟩ | exact .inr ⟨rfl, .inr (con_true (by assumption)), rfl⟩)
 ) (by exact Nat) _))
theorem out_grouping_call {prog : Program} {w : World} {p : Program} {loose : List Str} {mean : ExcName → Option Value} {mg mb : Str → Option Value}
  {dp un : Nat} {gd : Option (List Code)} {cn : Str} {cs : Scope} {a : Addr} {ccd : Value} {cl : List (Str × Addr)} {outer : List Env} {A₀ : Around} {base h₀ : Heap} {L : Addr} {m : Str → Option Value} {s : Shared} {Q E : Value → Shared → Prop}
  {mx dx : Nat} {H : Nat → Int} {KT : Nat → Tok} {x : Str} {c l lb b k : Int} {τ0 τ1 τ2 τ3 τ4 τ5 : Tok} {g : Str} {tg : Tok} {news : List (Addr × Obj)} {f : Obj → List (Addr × Obj)}
  (B : Below A₀ base outer h₀) (F : Fr h₀ L s.heap m) (X : (hd0.heap_1_1 w.params).In h₀) (N : News h₀ L s.heap (news)) (T : Top p loose mean mg mb h₀) (hk : cs.kind = .function)
  (hm : (mx, instObj 199 dx) ∈ news) (U : UpdF dx (machD H KT (x) τ0 (c) τ1 (l) τ2 (lb) τ3 (b) τ4 (k) τ5) news f) (hmd : mx ≠ dx) (hx : x.length ≤ 1000) (hc0 : 0 ≤ c) (hcl : c ≤ l) (hl1 : l ≤ x.length) (hlb : 0 ≤ lb) (hdp : dp + 1 < recursionLimit) (hun : un + 8 < cLine)
  (hret : ∀ (v : Bool) (c' : Int) (τ0 τ1 τ2 τ3 τ4 τ5 : Tok) (h' : Heap) (tk' : Nat), Fr h₀ L h' m → News h₀ L h' (f (machD H KT (x) τ0 (c') τ1 (l) τ2 (lb) τ3 (b) τ4 (k) τ5)) → LookF false x g c l c' v → Q (.bool v) { s with heap := h', toks := tk' }) :
  wpAny (model prog w) (ktrTop dp un gd cn cs L a ccd cl outer) (call (.ref 91) [.ref mx, .str g tg]) Q E s := by
  obtain ⟨rest, hr, N1, hf, -⟩ := updF_rest N U
  exact out_grouping_spec B F X (news_put N hm N1) T hk hmd hr hx hc0 hcl hl1 hlb hdp hun fun v c' τ0 τ1 τ2 τ3 τ4 τ5 h' tk' F' N' e0 => hret v c' τ0 τ1 τ2 τ3 τ4 τ5 h' tk' F' (hf _ _ (news_tl N')) e0

theorem go_out_grouping_spec {prog : Program} {w : World} {p : Program} {loose : List Str} {mean : ExcName → Option Value} {mg mb : Str → Option Value}
  {dp un : Nat} {gd : Option (List Code)} {cn : Str} {cs : Scope} {a : Addr} {ccd : Value} {cl : List (Str × Addr)} {outer : List Env} {A₀ : Around} {base h₀ : Heap} {L : Addr} {m : Str → Option Value} {s : Shared} {Q E : Value → Shared → Prop}
  {mx dx : Nat} {H : Nat → Int} {KT : Nat → Tok} {x : Str} {c l lb b k : Int} {τ0 τ1 τ2 τ3 τ4 τ5 : Tok} {g : Str} {tg : Tok} {rest : List (Addr × Obj)}
  (B : Below A₀ base outer h₀) (F : Fr h₀ L s.heap m) (X : (hd0.heap_1_1 w.params).In h₀) (N : News h₀ L s.heap ((mx, instObj 199 dx) :: (dx, machD H KT (x) τ0 (c) τ1 (l) τ2 (lb) τ3 (b) τ4 (k) τ5) :: rest)) (T : Top p loose mean mg mb h₀) (hk : cs.kind = .function)
  (hmd : mx ≠ dx) (hr : ∀ p ∈ rest, p.1 ≠ dx) (hx : x.length ≤ 1000) (hc0 : 0 ≤ c) (hcl : c ≤ l) (hl1 : l ≤ x.length) (hlb : 0 ≤ lb) (hdp : dp + 1 < recursionLimit) (hun : un + 8 < cLine)
  (hret : ∀ (v : Bool) (c' : Int) (τ0 τ1 τ2 τ3 τ4 τ5 : Tok) (h' : Heap) (tk' : Nat), Fr h₀ L h' m → News h₀ L h' ((mx, instObj 199 dx) :: (dx, machD H KT (x) τ0 (c') τ1 (l) τ2 (lb) τ3 (b) τ4 (k) τ5) :: rest) → GoF false x g c l c' v → Q (.bool v) { s with heap := h', toks := tk' }) :
  wpAny (model prog w) (ktrTop dp un gd cn cs L a ccd cl outer) (call (.ref 98) [.ref mx, .str g tg]) Q E s := by
 exact Mine.quiet _ (type_of% (Mine.aside (by
  refine wpAny_call ?_
  k_dflt ktr_enter
  (k_with "my exec While Compare cons nil" => (
    refine' ksw_while (σ := Int × Tok) (fun st => (mx, instObj 199 dx) :: (dx, machD H KT x τ0 st.1 st.2 l τ2 lb τ3 b τ4 k τ5) :: rest) (fun _ => []) (fun _ => True) [] (fun st => c ≤ st.1 ∧ st.1 ≤ l ∧ (∀ i, c ≤ i → i < st.1 → Txt.contains g (Txt.item x i) = false)) (fun st => (l - st.1).toNat) (c, τ1) ?kF ?kN ?kf ?kk ?kp ?_
    (case kF => k_asm); (case kN => k_asm); (case kf => exact trivial); (case kk => exact fun _ h => nomatch h); (case kp => exact ⟨Int.le_refl _, hcl, fun i h1 h2 => absurd h2 (by k_extra "my num")⟩)
    rintro ⟨a, ta⟩ u h tk - ⟨hca, hcb, hia⟩ F9 N9
    dsimp only at hca hcb hia N9; dsimp only [kstB] at F9
    dsimp only))
  k_extra "my steps"
  all_goals first
    | (refine ksw_end (_, _) (by k_asm) (by k_asm) (fun _ h => h) trivial (fun _ h => nomatch h) (fun _ _ _ => rfl) ⟨by k_extra "my num", by k_extra "my num", all_to hia (con_false (by assumption))⟩ ?_; dsimp only; omega)
    | (refine hret _ _ _ _ _ _ _ _ _ _ (by k_asm) (by k_asm) ?_; first | exact ⟨hca, hcb, hia, .inl ⟨rfl, by k_extra "my num", con_true (by assumption)⟩⟩ | exact ⟨hca, hcb, hia, .inr ⟨rfl, by k_extra "my num"⟩⟩)
 ) (by exact Nat) _))
theorem go_out_grouping_call {prog : Program} {w : World} {p : Program} {loose : List Str} {mean : ExcName → Option Value} {mg mb : Str → Option Value}
  {dp un : Nat} {gd : Option (List Code)} {cn : Str} {cs : Scope} {a : Addr} {ccd : Value} {cl : List (Str × Addr)} {outer : List Env} {A₀ : Around} {base h₀ : Heap} {L : Addr} {m : Str → Option Value} {s : Shared} {Q E : Value → Shared → Prop}
  {mx dx : Nat} {H : Nat → Int} {KT : Nat → Tok} {x : Str} {c l lb b k : Int} {τ0 τ1 τ2 τ3 τ4 τ5 : Tok} {g : Str} {tg : Tok} {news : List (Addr × Obj)} {f : Obj → List (Addr × Obj)}
  (B : Below A₀ base outer h₀) (F : Fr h₀ L s.heap m) (X : (hd0.heap_1_1 w.params).In h₀) (N : News h₀ L s.heap (news)) (T : Top p loose mean mg mb h₀) (hk : cs.kind = .function)
  (hm : (mx, instObj 199 dx) ∈ news) (U : UpdF dx (machD H KT (x) τ0 (c) τ1 (l) τ2 (lb) τ3 (b) τ4 (k) τ5) news f) (hmd : mx ≠ dx) (hx : x.length ≤ 1000) (hc0 : 0 ≤ c) (hcl : c ≤ l) (hl1 : l ≤ x.length) (hlb : 0 ≤ lb) (hdp : dp + 1 < recursionLimit) (hun : un + 8 < cLine)
  (hret : ∀ (v : Bool) (c' : Int) (τ0 τ1 τ2 τ3 τ4 τ5 : Tok) (h' : Heap) (tk' : Nat), Fr h₀ L h' m → News h₀ L h' (f (machD H KT (x) τ0 (c') τ1 (l) τ2 (lb) τ3 (b) τ4 (k) τ5)) → GoF false x g c l c' v → Q (.bool v) { s with heap := h', toks := tk' }) :
  wpAny (model prog w) (ktrTop dp un gd cn cs L a ccd cl outer) (call (.ref 98) [.ref mx, .str g tg]) Q E s := by
  obtain ⟨rest, hr, N1, hf, -⟩ := updF_rest N U
  exact go_out_grouping_spec B F X (news_put N hm N1) T hk hmd hr hx hc0 hcl hl1 hlb hdp hun fun v c' τ0 τ1 τ2 τ3 τ4 τ5 h' tk' F' N' e0 => hret v c' τ0 τ1 τ2 τ3 τ4 τ5 h' tk' F' (hf _ _ (news_tl N')) e0

theorem out_grouping_b_spec {prog : Program} {w : World} {p : Program} {loose : List Str} {mean : ExcName → Option Value} {mg mb : Str → Option Value}
  {dp un : Nat} {gd : Option (List Code)} {cn : Str} {cs : Scope} {a : Addr} {ccd : Value} {cl : List (Str × Addr)} {outer : List Env} {A₀ : Around} {base h₀ : Heap} {L : Addr} {m : Str → Option Value} {s : Shared} {Q E : Value → Shared → Prop}
  {mx dx : Nat} {H : Nat → Int} {KT : Nat → Tok} {x : Str} {c l lb b k : Int} {τ0 τ1 τ2 τ3 τ4 τ5 : Tok} {g : Str} {tg : Tok} {rest : List (Addr × Obj)}
  (B : Below A₀ base outer h₀) (F : Fr h₀ L s.heap m) (X : (hd0.heap_1_1 w.params).In h₀) (N : News h₀ L s.heap ((mx, instObj 199 dx) :: (dx, machD H KT (x) τ0 (c) τ1 (l) τ2 (lb) τ3 (b) τ4 (k) τ5) :: rest)) (T : Top p loose mean mg mb h₀) (hk : cs.kind = .function)
  (hmd : mx ≠ dx) (hr : ∀ p ∈ rest, p.1 ≠ dx) (hx : x.length ≤ 1000) (hc0 : 0 ≤ c) (hcl : c ≤ l) (hl1 : l ≤ x.length) (hlb : 0 ≤ lb) (hdp : dp + 1 < recursionLimit) (hun : un + 8 < cLine)
  (hret : ∀ (v : Bool) (c' : Int) (τ0 τ1 τ2 τ3 τ4 τ5 : Tok) (h' : Heap) (tk' : Nat), Fr h₀ L h' m → News h₀ L h' ((mx, instObj 199 dx) :: (dx, machD H KT (x) τ0 (c') τ1 (l) τ2 (lb) τ3 (b) τ4 (k) τ5) :: rest) → LookB false x g c lb c' v → Q (.bool v) { s with heap := h', toks := tk' }) :
  wpAny (model prog w) (ktrTop dp un gd cn cs L a ccd cl outer) (call (.ref 105) [.ref mx, .str g tg]) Q E s := by
 exact Mine.quiet _ (type_of% (Mine.aside (by
  refine wpAny_call ?_
  k_dflt ktr_enter
  k_extra "my steps"
  all_goals (refine hret _ _ _ _ _ _ _ _ _ _ (by k_asm) (by k_asm) ?_; first | exact .inr ⟨rfl, .inl (by k_extra "my num"), rfl⟩ | exact .inl ⟨rfl, by k_extra "my num", con_false (by assumption), rfl⟩ | exact .inr ⟨rfl, .inr (con_true (by assumption)), rfl⟩)
 ) (by exact Nat) _))
theorem out_grouping_b_call {prog : Program} {w : World} {p : Program} {loose : List Str} {mean : ExcName → Option Value} {mg mb : Str → Option Value}
  {dp un : Nat} {gd : Option (List Code)} {cn : Str} {cs : Scope} {a : Addr} {ccd : Value} {cl : List (Str × Addr)} {outer : List Env} {A₀ : Around} {base h₀ : Heap} {L : Addr} {m : Str → Option Value} {s : Shared} {Q E : Value → Shared → Prop}
  {mx dx : Nat} {H : Nat → Int} {KT : Nat → Tok} {x : Str} {c l lb b k : Int} {τ0 τ1 τ2 τ3 τ4 τ5 : Tok} {g : Str} {tg : Tok} {news : List (Addr × Obj)} {f : Obj → List (Addr × Obj)}
  (B : Below A₀ base outer h₀) (F : Fr h₀ L s.heap m) (X : (hd0.heap_1_1 w.params).In h₀) (N : News h₀ L s.heap (news)) (T : Top p loose mean mg mb h₀) (hk : cs.kind = .function)
  (hm : (mx, instObj 199 dx) ∈ news) (U : UpdF dx (machD H KT (x) τ0 (c) τ1 (l) τ2 (lb) τ3 (b) τ4 (k) τ5) news f) (hmd : mx ≠ dx) (hx : x.length ≤ 1000) (hc0 : 0 ≤ c) (hcl : c ≤ l) (hl1 : l ≤ x.length) (hlb : 0 ≤ lb) (hdp : dp + 1 < recursionLimit) (hun : un + 8 < cLine)
  (hret : ∀ (v : Bool) (c' : Int) (τ0 τ1 τ2 τ3 τ4 τ5 : Tok) (h' : Heap) (tk' : Nat), Fr h₀ L h' m → News h₀ L h' (f (machD H KT (x) τ0 (c') τ1 (l) τ2 (lb) τ3 (b) τ4 (k) τ5)) → LookB false x g c lb c' v → Q (.bool v) { s with heap := h', toks := tk' }) :
  wpAny (model prog w) (ktrTop dp un gd cn cs L a ccd cl outer) (call (.ref 105) [.ref mx, .str g tg]) Q E s := by
  obtain ⟨rest, hr, N1, hf, -⟩ := updF_rest N U
  exact out_grouping_b_spec B F X (news_put N hm N1) T hk hmd hr hx hc0 hcl hl1 hlb hdp hun fun v c' τ0 τ1 τ2 τ3 τ4 τ5 h' tk' F' N' e0 => hret v c' τ0 τ1 τ2 τ3 τ4 τ5 h' tk' F' (hf _ _ (news_tl N')) e0

theorem go_out_grouping_b_spec {prog : Program} {w : World} {p : Program} {loose : List Str} {mean : ExcName → Option Value} {mg mb : Str → Option Value}
  {dp un : Nat} {gd : Option (List Code)} {cn : Str} {cs : Scope} {a : Addr} {ccd : Value} {cl : List (Str × Addr)} {outer : List Env} {A₀ : Around} {base h₀ : Heap} {L : Addr} {m : Str → Option Value} {s : Shared} {Q E : Value → Shared → Prop}
  {mx dx : Nat} {H : Nat → Int} {KT : Nat → Tok} {x : Str} {c l lb b k : Int} {τ0 τ1 τ2 τ3 τ4 τ5 : Tok} {g : Str} {tg : Tok} {rest : List (Addr × Obj)}
  (B : Below A₀ base outer h₀) (F : Fr h₀ L s.heap m) (X : (hd0.heap_1_1 w.params).In h₀) (N : News h₀ L s.heap ((mx, instObj 199 dx) :: (dx, machD H KT (x) τ0 (c) τ1 (l) τ2 (lb) τ3 (b) τ4 (k) τ5) :: rest)) (T : Top p loose mean mg mb h₀) (hk : cs.kind = .function)
  (hmd : mx ≠ dx) (hr : ∀ p ∈ rest, p.1 ≠ dx) (hx : x.length ≤ 1000) (hc0 : 0 ≤ c) (hcl : c ≤ l) (hl1 : l ≤ x.length) (hlb : 0 ≤ lb) (hdp : dp + 1 < recursionLimit) (hun : un + 8 < cLine)
  (hret : ∀ (v : Bool) (c' : Int) (τ0 τ1 τ2 τ3 τ4 τ5 : Tok) (h' : Heap) (tk' : Nat), Fr h₀ L h' m → News h₀ L h' ((mx, instObj 199 dx) :: (dx, machD H KT (x) τ0 (c') τ1 (l) τ2 (lb) τ3 (b) τ4 (k) τ5) :: rest) → GoB false x g c lb c' v → Q (.bool v) { s with heap := h', toks := tk' }) :
  wpAny (model prog w) (ktrTop dp un gd cn cs L a ccd cl outer) (call (.ref 112) [.ref mx, .str g tg]) Q E s := by
 exact Mine.quiet _ (type_of% (Mine.aside (by
  refine wpAny_call ?_
  k_dflt ktr_enter
  (k_with "my exec While Compare cons nil" => (
    refine' ksw_while (σ := Int × Tok) (fun st => (mx, instObj 199 dx) :: (dx, machD H KT x τ0 st.1 st.2 l τ2 lb τ3 b τ4 k τ5) :: rest) (fun _ => []) (fun _ => True) [] (fun st => st.1 ≤ c ∧ (st.1 = c ∨ lb ≤ st.1) ∧ (∀ i, st.1 ≤ i → i < c → Txt.contains g (Txt.item x i) = false)) (fun st => (st.1 - lb).toNat) (c, τ1) ?kF ?kN ?kf ?kk ?kp ?_
    (case kF => k_asm); (case kN => k_asm); (case kf => exact trivial); (case kk => exact fun _ h => nomatch h); (case kp => exact ⟨Int.le_refl _, .inl rfl, fun i h1 h2 => absurd h2 (by k_extra "my num")⟩)
    rintro ⟨a, ta⟩ u h tk - ⟨hca, hcb, hia⟩ F9 N9
    dsimp only at hca hcb hia N9; dsimp only [kstB] at F9
    dsimp only))
  k_extra "my steps"
  all_goals first
    | (refine ksw_end (_, _) (by k_asm) (by k_asm) (fun _ h => h) trivial (fun _ h => nomatch h) (fun _ _ _ => rfl) ⟨by k_extra "my num", .inr (by k_extra "my num"), all_fro hia (con_false (by assumption))⟩ ?_; dsimp only; omega)
    | (refine hret _ _ _ _ _ _ _ _ _ _ (by k_asm) (by k_asm) ?_; first | exact ⟨hca, hcb, hia, .inl ⟨rfl, by k_extra "my num", con_true (by assumption)⟩⟩ | exact ⟨hca, hcb, hia, .inr ⟨rfl, by k_extra "my num"⟩⟩)
 ) (by exact Nat) _))
theorem go_out_grouping_b_call {prog : Program} {w : World} {p : Program} {loose : List Str} {mean : ExcName → Option Value} {mg mb : Str → Option Value}
  {dp un : Nat} {gd : Option (List Code)} {cn : Str} {cs : Scope} {a : Addr} {ccd : Value} {cl : List (Str × Addr)} {outer : List Env} {A₀ : Around} {base h₀ : Heap} {L : Addr} {m : Str → Option Value} {s : Shared} {Q E : Value → Shared → Prop}
  {mx dx : Nat} {H : Nat → Int} {KT : Nat → Tok} {x : Str} {c l lb b k : Int} {τ0 τ1 τ2 τ3 τ4 τ5 : Tok} {g : Str} {tg : Tok} {news : List (Addr × Obj)} {f : Obj → List (Addr × Obj)}
  (B : Below A₀ base outer h₀) (F : Fr h₀ L s.heap m) (X : (hd0.heap_1_1 w.params).In h₀) (N : News h₀ L s.heap (news)) (T : Top p loose mean mg mb h₀) (hk : cs.kind = .function)
  (hm : (mx, instObj 199 dx) ∈ news) (U : UpdF dx (machD H KT (x) τ0 (c) τ1 (l) τ2 (lb) τ3 (b) τ4 (k) τ5) news f) (hmd : mx ≠ dx) (hx : x.length ≤ 1000) (hc0 : 0 ≤ c) (hcl : c ≤ l) (hl1 : l ≤ x.length) (hlb : 0 ≤ lb) (hdp : dp + 1 < recursionLimit) (hun : un + 8 < cLine)
  (hret : ∀ (v : Bool) (c' : Int) (τ0 τ1 τ2 τ3 τ4 τ5 : Tok) (h' : Heap) (tk' : Nat), Fr h₀ L h' m → News h₀ L h' (f (machD H KT (x) τ0 (c') τ1 (l) τ2 (lb) τ3 (b) τ4 (k) τ5)) → GoB false x g c lb c' v → Q (.bool v) { s with heap := h', toks := tk' }) :
  wpAny (model prog w) (ktrTop dp un gd cn cs L a ccd cl outer) (call (.ref 112) [.ref mx, .str g tg]) Q E s := by
  obtain ⟨rest, hr, N1, hf, -⟩ := updF_rest N U
  exact go_out_grouping_b_spec B F X (news_put N hm N1) T hk hmd hr hx hc0 hcl hl1 hlb hdp hun fun v c' τ0 τ1 τ2 τ3 τ4 τ5 h' tk' F' N' e0 => hret v c' τ0 τ1 τ2 τ3 τ4 τ5 h' tk' F' (hf _ _ (news_tl N')) e0

theorem eq_s_spec {prog : Program} {w : World} {p : Program} {loose : List Str} {mean : ExcName → Option Value} {mg mb : Str → Option Value}
  {dp un : Nat} {gd : Option (List Code)} {cn : Str} {cs : Scope} {a : Addr} {ccd : Value} {cl : List (Str × Addr)} {outer : List Env} {A₀ : Around} {base h₀ : Heap} {L : Addr} {m : Str → Option Value} {s : Shared} {Q E : Value → Shared → Prop}
  {mx dx : Nat} {H : Nat → Int} {KT : Nat → Tok} {x : Str} {c l lb b k : Int} {τ0 τ1 τ2 τ3 τ4 τ5 : Tok} {g : Str} {tg : Tok} {rest : List (Addr × Obj)}
  (B : Below A₀ base outer h₀) (F : Fr h₀ L s.heap m) (X : (hd0.heap_1_1 w.params).In h₀) (N : News h₀ L s.heap ((mx, instObj 199 dx) :: (dx, machD H KT (x) τ0 (c) τ1 (l) τ2 (lb) τ3 (b) τ4 (k) τ5) :: rest)) (T : Top p loose mean mg mb h₀) (hk : cs.kind = .function)
  (hmd : mx ≠ dx) (hr : ∀ p ∈ rest, p.1 ≠ dx) (hx : x.length ≤ 1000) (hc0 : 0 ≤ c) (hcl : c ≤ l) (hl1 : l ≤ x.length) (hg : g.length ≤ 1000) (hdp : dp + 1 < recursionLimit) (hun : un + 8 < cLine)
  (hret : ∀ (v : Bool) (c' : Int) (τ0 τ1 τ2 τ3 τ4 τ5 : Tok) (h' : Heap) (tk' : Nat), Fr h₀ L h' m → News h₀ L h' ((mx, instObj 199 dx) :: (dx, machD H KT (x) τ0 (c') τ1 (l) τ2 (lb) τ3 (b) τ4 (k) τ5) :: rest) → v = Txt.startswith (Txt.slice x (some c) (some l)) g → c' = (if v then c + g.length else c) → Q (.bool v) { s with heap := h', toks := tk' }) :
  wpAny (model prog w) (ktrTop dp un gd cn cs L a ccd cl outer) (call (.ref 119) [.ref mx, .str g tg]) Q E s := by
 exact Mine.quiet _ (type_of% (Mine.aside (by
  refine wpAny_call ?_
  k_dflt ktr_enter
  k_extra "my steps"
  · exact hret _ _ _ _ _ _ _ _ _ _ (by k_asm) (by k_asm) (Eq.symm (by assumption)) rfl
  · exact hret _ _ _ _ _ _ _ _ _ _ (by k_asm) (by k_asm) (Eq.symm (by assumption)) rfl
 ) (by exact Nat) _))
theorem eq_s_call {prog : Program} {w : World} {p : Program} {loose : List Str} {mean : ExcName → Option Value} {mg mb : Str → Option Value}
  {dp un : Nat} {gd : Option (List Code)} {cn : Str} {cs : Scope} {a : Addr} {ccd : Value} {cl : List (Str × Addr)} {outer : List Env} {A₀ : Around} {base h₀ : Heap} {L : Addr} {m : Str → Option Value} {s : Shared} {Q E : Value → Shared → Prop}
  {mx dx : Nat} {H : Nat → Int} {KT : Nat → Tok} {x : Str} {c l lb b k : Int} {τ0 τ1 τ2 τ3 τ4 τ5 : Tok} {g : Str} {tg : Tok} {news : List (Addr × Obj)} {f : Obj → List (Addr × Obj)}
  (B : Below A₀ base outer h₀) (F : Fr h₀ L s.heap m) (X : (hd0.heap_1_1 w.params).In h₀) (N : News h₀ L s.heap (news)) (T : Top p loose mean mg mb h₀) (hk : cs.kind = .function)
  (hm : (mx, instObj 199 dx) ∈ news) (U : UpdF dx (machD H KT (x) τ0 (c) τ1 (l) τ2 (lb) τ3 (b) τ4 (k) τ5) news f) (hmd : mx ≠ dx) (hx : x.length ≤ 1000) (hc0 : 0 ≤ c) (hcl : c ≤ l) (hl1 : l ≤ x.length) (hg : g.length ≤ 1000) (hdp : dp + 1 < recursionLimit) (hun : un + 8 < cLine)
  (hret : ∀ (v : Bool) (c' : Int) (τ0 τ1 τ2 τ3 τ4 τ5 : Tok) (h' : Heap) (tk' : Nat), Fr h₀ L h' m → News h₀ L h' (f (machD H KT (x) τ0 (c') τ1 (l) τ2 (lb) τ3 (b) τ4 (k) τ5)) → v = Txt.startswith (Txt.slice x (some c) (some l)) g → c' = (if v then c + g.length else c) → Q (.bool v) { s with heap := h', toks := tk' }) :
  wpAny (model prog w) (ktrTop dp un gd cn cs L a ccd cl outer) (call (.ref 119) [.ref mx, .str g tg]) Q E s := by
  obtain ⟨rest, hr, N1, hf, -⟩ := updF_rest N U
  exact eq_s_spec B F X (news_put N hm N1) T hk hmd hr hx hc0 hcl hl1 hg hdp hun fun v c' τ0 τ1 τ2 τ3 τ4 τ5 h' tk' F' N' e0 e1 => hret v c' τ0 τ1 τ2 τ3 τ4 τ5 h' tk' F' (hf _ _ (news_tl N')) e0 e1

theorem eq_s_b_spec {prog : Program} {w : World} {p : Program} {loose : List Str} {mean : ExcName → Option Value} {mg mb : Str → Option Value}
  {dp un : Nat} {gd : Option (List Code)} {cn : Str} {cs : Scope} {a : Addr} {ccd : Value} {cl : List (Str × Addr)} {outer : List Env} {A₀ : Around} {base h₀ : Heap} {L : Addr} {m : Str → Option Value} {s : Shared} {Q E : Value → Shared → Prop}
  {mx dx : Nat} {H : Nat → Int} {KT : Nat → Tok} {x : Str} {c l lb b k : Int} {τ0 τ1 τ2 τ3 τ4 τ5 : Tok} {g : Str} {tg : Tok} {rest : List (Addr × Obj)}
  (B : Below A₀ base outer h₀) (F : Fr h₀ L s.heap m) (X : (hd0.heap_1_1 w.params).In h₀) (N : News h₀ L s.heap ((mx, instObj 199 dx) :: (dx, machD H KT (x) τ0 (c) τ1 (l) τ2 (lb) τ3 (b) τ4 (k) τ5) :: rest)) (T : Top p loose mean mg mb h₀) (hk : cs.kind = .function)
  (hmd : mx ≠ dx) (hr : ∀ p ∈ rest, p.1 ≠ dx) (hx : x.length ≤ 1000) (hc0 : 0 ≤ c) (hcl : c ≤ l) (hl1 : l ≤ x.length) (hg : g.length ≤ 1000) (hdp : dp + 1 < recursionLimit) (hun : un + 8 < cLine)
  (hret : ∀ (v : Bool) (c' : Int) (τ0 τ1 τ2 τ3 τ4 τ5 : Tok) (h' : Heap) (tk' : Nat), Fr h₀ L h' m → News h₀ L h' ((mx, instObj 199 dx) :: (dx, machD H KT (x) τ0 (c') τ1 (l) τ2 (lb) τ3 (b) τ4 (k) τ5) :: rest) → v = Txt.endswith (Txt.slice x (some lb) (some c)) g → c' = (if v then c - g.length else c) → Q (.bool v) { s with heap := h', toks := tk' }) :
  wpAny (model prog w) (ktrTop dp un gd cn cs L a ccd cl outer) (call (.ref 126) [.ref mx, .str g tg]) Q E s := by
 exact Mine.quiet _ (type_of% (Mine.aside (by
  refine wpAny_call ?_
  k_dflt ktr_enter
  k_extra "my steps"
  · exact hret _ _ _ _ _ _ _ _ _ _ (by k_asm) (by k_asm) (Eq.symm (by assumption)) rfl
  · exact hret _ _ _ _ _ _ _ _ _ _ (by k_asm) (by k_asm) (Eq.symm (by assumption)) rfl
 ) (by exact Nat) _))
theorem eq_s_b_call {prog : Program} {w : World} {p : Program} {loose : List Str} {mean : ExcName → Option Value} {mg mb : Str → Option Value}
  {dp un : Nat} {gd : Option (List Code)} {cn : Str} {cs : Scope} {a : Addr} {ccd : Value} {cl : List (Str × Addr)} {outer : List Env} {A₀ : Around} {base h₀ : Heap} {L : Addr} {m : Str → Option Value} {s : Shared} {Q E : Value → Shared → Prop}
  {mx dx : Nat} {H : Nat → Int} {KT : Nat → Tok} {x : Str} {c l lb b k : Int} {τ0 τ1 τ2 τ3 τ4 τ5 : Tok} {g : Str} {tg : Tok} {news : List (Addr × Obj)} {f : Obj → List (Addr × Obj)}
  (B : Below A₀ base outer h₀) (F : Fr h₀ L s.heap m) (X : (hd0.heap_1_1 w.params).In h₀) (N : News h₀ L s.heap (news)) (T : Top p loose mean mg mb h₀) (hk : cs.kind = .function)
  (hm : (mx, instObj 199 dx) ∈ news) (U : UpdF dx (machD H KT (x) τ0 (c) τ1 (l) τ2 (lb) τ3 (b) τ4 (k) τ5) news f) (hmd : mx ≠ dx) (hx : x.length ≤ 1000) (hc0 : 0 ≤ c) (hcl : c ≤ l) (hl1 : l ≤ x.length) (hg : g.length ≤ 1000) (hdp : dp + 1 < recursionLimit) (hun : un + 8 < cLine)
  (hret : ∀ (v : Bool) (c' : Int) (τ0 τ1 τ2 τ3 τ4 τ5 : Tok) (h' : Heap) (tk' : Nat), Fr h₀ L h' m → News h₀ L h' (f (machD H KT (x) τ0 (c') τ1 (l) τ2 (lb) τ3 (b) τ4 (k) τ5)) → v = Txt.endswith (Txt.slice x (some lb) (some c)) g → c' = (if v then c - g.length else c) → Q (.bool v) { s with heap := h', toks := tk' }) :
  wpAny (model prog w) (ktrTop dp un gd cn cs L a ccd cl outer) (call (.ref 126) [.ref mx, .str g tg]) Q E s := by
  obtain ⟨rest, hr, N1, hf, -⟩ := updF_rest N U
  exact eq_s_b_spec B F X (news_put N hm N1) T hk hmd hr hx hc0 hcl hl1 hg hdp hun fun v c' τ0 τ1 τ2 τ3 τ4 τ5 h' tk' F' N' e0 e1 => hret v c' τ0 τ1 τ2 τ3 τ4 τ5 h' tk' F' (hf _ _ (news_tl N')) e0 e1

theorem replace_s_spec {prog : Program} {w : World} {p : Program} {loose : List Str} {mean : ExcName → Option Value} {mg mb : Str → Option Value}
  {dp un : Nat} {gd : Option (List Code)} {cn : Str} {cs : Scope} {a : Addr} {ccd : Value} {cl : List (Str × Addr)} {outer : List Env} {A₀ : Around} {base h₀ : Heap} {L : Addr} {m : Str → Option Value} {s : Shared} {Q E : Value → Shared → Prop}
  {mx dx : Nat} {H : Nat → Int} {KT : Nat → Tok} {x : Str} {c l lb b k : Int} {τ0 τ1 τ2 τ3 τ4 τ5 : Tok} {g : Str} {tg ti tj : Tok} {i j : Int} {rest : List (Addr × Obj)}
  (B : Below A₀ base outer h₀) (F : Fr h₀ L s.heap m) (X : (hd0.heap_1_1 w.params).In h₀) (N : News h₀ L s.heap ((mx, instObj 199 dx) :: (dx, machD H KT (x) τ0 (c) τ1 (l) τ2 (lb) τ3 (b) τ4 (k) τ5) :: rest)) (T : Top p loose mean mg mb h₀) (hk : cs.kind = .function)
  (hmd : mx ≠ dx) (hr : ∀ p ∈ rest, p.1 ≠ dx) (hx : x.length ≤ 1000) (hc0 : 0 ≤ c) (hcl : c ≤ l) (hl1 : l ≤ x.length) (hg : g.length ≤ 1000) (hi : 0 ≤ i) (hij : i ≤ j) (hj : j ≤ x.length) (hdp : dp + 1 < recursionLimit) (hun : un + 8 < cLine)
  (hret : ∀ (c' : Int) (tv : Tok) (τ0 τ1 τ2 τ3 τ4 τ5 : Tok) (h' : Heap) (tk' : Nat), Fr h₀ L h' m → News h₀ L h' ((mx, instObj 199 dx) :: (dx, machD H KT (Txt.slice x (some 0) (some i) ++ g ++ Txt.slice x (some j) none) τ0 (c') τ1 (l + (g.length - (j - i))) τ2 (lb) τ3 (b) τ4 (k) τ5) :: rest) → c' = (if j ≤ c then c + (g.length - (j - i)) else if i < c then i else c) → Q (.int (g.length - (j - i)) tv) { s with heap := h', toks := tk' }) :
  wpAny (model prog w) (ktrTop dp un gd cn cs L a ccd cl outer) (call (.ref 147) [.ref mx, .int i ti, .int j tj, .str g tg]) Q E s := by
 exact Mine.quiet _ (type_of% (Mine.aside (by
  refine wpAny_call ?_
  k_dflt ktr_enter
  k_extra "my steps"
  all_goals exact hret _ _ _ _ _ _ _ _ _ _ (by k_asm) (by k_asm) (by (repeat' split) <;> omega)
 ) (by exact Nat) _))
theorem replace_s_call {prog : Program} {w : World} {p : Program} {loose : List Str} {mean : ExcName → Option Value} {mg mb : Str → Option Value}
  {dp un : Nat} {gd : Option (List Code)} {cn : Str} {cs : Scope} {a : Addr} {ccd : Value} {cl : List (Str × Addr)} {outer : List Env} {A₀ : Around} {base h₀ : Heap} {L : Addr} {m : Str → Option Value} {s : Shared} {Q E : Value → Shared → Prop}
  {mx dx : Nat} {H : Nat → Int} {KT : Nat → Tok} {x : Str} {c l lb b k : Int} {τ0 τ1 τ2 τ3 τ4 τ5 : Tok} {g : Str} {tg ti tj : Tok} {i j : Int} {news : List (Addr × Obj)} {f : Obj → List (Addr × Obj)}
  (B : Below A₀ base outer h₀) (F : Fr h₀ L s.heap m) (X : (hd0.heap_1_1 w.params).In h₀) (N : News h₀ L s.heap (news)) (T : Top p loose mean mg mb h₀) (hk : cs.kind = .function)
  (hm : (mx, instObj 199 dx) ∈ news) (U : UpdF dx (machD H KT (x) τ0 (c) τ1 (l) τ2 (lb) τ3 (b) τ4 (k) τ5) news f) (hmd : mx ≠ dx) (hx : x.length ≤ 1000) (hc0 : 0 ≤ c) (hcl : c ≤ l) (hl1 : l ≤ x.length) (hg : g.length ≤ 1000) (hi : 0 ≤ i) (hij : i ≤ j) (hj : j ≤ x.length) (hdp : dp + 1 < recursionLimit) (hun : un + 8 < cLine)
  (hret : ∀ (c' : Int) (tv : Tok) (τ0 τ1 τ2 τ3 τ4 τ5 : Tok) (h' : Heap) (tk' : Nat), Fr h₀ L h' m → News h₀ L h' (f (machD H KT (Txt.slice x (some 0) (some i) ++ g ++ Txt.slice x (some j) none) τ0 (c') τ1 (l + (g.length - (j - i))) τ2 (lb) τ3 (b) τ4 (k) τ5)) → c' = (if j ≤ c then c + (g.length - (j - i)) else if i < c then i else c) → Q (.int (g.length - (j - i)) tv) { s with heap := h', toks := tk' }) :
  wpAny (model prog w) (ktrTop dp un gd cn cs L a ccd cl outer) (call (.ref 147) [.ref mx, .int i ti, .int j tj, .str g tg]) Q E s := by
  obtain ⟨rest, hr, N1, hf, -⟩ := updF_rest N U
  exact replace_s_spec B F X (news_put N hm N1) T hk hmd hr hx hc0 hcl hl1 hg hi hij hj hdp hun fun c' tv τ0 τ1 τ2 τ3 τ4 τ5 h' tk' F' N' e0 => hret c' tv τ0 τ1 τ2 τ3 τ4 τ5 h' tk' F' (hf _ _ (news_tl N')) e0


theorem words_jMach2_2 : True := by
  k_with "my call ref" => (k_here; (with_reducible show wpAny _ _ (call (Value.ref 63) _) _ _ _); k_dflt (refine' Mine.in_grouping_call ?h03145zB ?h03145zF ?h03145zX ?h03145zN ?h03145zT ?h03145zk ?h03145zm ?h03145zU ?h03145zd ?h03145zhx ?h03145zhc0 ?h03145zhcl ?h03145zhl1 ?h03145zhlb ?h03145zhdp ?h03145zhun ?_; (case h03145zB => k_asm); (case h03145zF => k_asm); (case h03145zX => k_asm); (case h03145zN => k_asm); (case h03145zT => k_asm); (case h03145zk => first | exact rfl | assumption); (case h03145zm => k_mem); (case h03145zU => k_updF); (case h03145zd => first | assumption | k_extra "my num"); (case h03145zhx => first | k_extra "my num" | (simp only [List.length_cons] at *; omega)); (case h03145zhc0 => first | k_extra "my num" | (simp only [List.length_cons] at *; omega)); (case h03145zhcl => first | k_extra "my num" | (simp only [List.length_cons] at *; omega)); (case h03145zhl1 => first | k_extra "my num" | (simp only [List.length_cons] at *; omega)); (case h03145zhlb => first | k_extra "my num" | (simp only [List.length_cons] at *; omega)); (case h03145zhdp => k_extra "my room"); (case h03145zhun => k_extra "my units"); k_whole); intro o0' o1' o2' o3' o4' o5' o6' o7' o8' o9' F' N' e0'; (try dsimp only at N'); (try k_sweep); (try dsimp only); (try k_fold))
  k_with "my call ref" => (k_here; (with_reducible show wpAny _ _ (call (Value.ref 70) _) _ _ _); k_dflt (refine' Mine.go_in_grouping_call ?h9b035zB ?h9b035zF ?h9b035zX ?h9b035zN ?h9b035zT ?h9b035zk ?h9b035zm ?h9b035zU ?h9b035zd ?h9b035zhx ?h9b035zhc0 ?h9b035zhcl ?h9b035zhl1 ?h9b035zhlb ?h9b035zhdp ?h9b035zhun ?_; (case h9b035zB => k_asm); (case h9b035zF => k_asm); (case h9b035zX => k_asm); (case h9b035zN => k_asm); (case h9b035zT => k_asm); (case h9b035zk => first | exact rfl | assumption); (case h9b035zm => k_mem); (case h9b035zU => k_updF); (case h9b035zd => first | assumption | k_extra "my num"); (case h9b035zhx => first | k_extra "my num" | (simp only [List.length_cons] at *; omega)); (case h9b035zhc0 => first | k_extra "my num" | (simp only [List.length_cons] at *; omega)); (case h9b035zhcl => first | k_extra "my num" | (simp only [List.length_cons] at *; omega)); (case h9b035zhl1 => first | k_extra "my num" | (simp only [List.length_cons] at *; omega)); (case h9b035zhlb => first | k_extra "my num" | (simp only [List.length_cons] at *; omega)); (case h9b035zhdp => k_extra "my room"); (case h9b035zhun => k_extra "my units"); k_whole); intro o0' o1' o2' o3' o4' o5' o6' o7' o8' o9' F' N' e0'; (try dsimp only at N'); (try k_sweep); (try dsimp only); (try k_fold))
  k_with "my call ref" => (k_here; (with_reducible show wpAny _ _ (call (Value.ref 77) _) _ _ _); k_dflt (refine' Mine.in_grouping_b_call ?hb5934zB ?hb5934zF ?hb5934zX ?hb5934zN ?hb5934zT ?hb5934zk ?hb5934zm ?hb5934zU ?hb5934zd ?hb5934zhx ?hb5934zhc0 ?hb5934zhcl ?hb5934zhl1 ?hb5934zhlb ?hb5934zhdp ?hb5934zhun ?_; (case hb5934zB => k_asm); (case hb5934zF => k_asm); (case hb5934zX => k_asm); (case hb5934zN => k_asm); (case hb5934zT => k_asm); (case hb5934zk => first | exact rfl | assumption); (case hb5934zm => k_mem); (case hb5934zU => k_updF); (case hb5934zd => first | assumption | k_extra "my num"); (case hb5934zhx => first | k_extra "my num" | (simp only [List.length_cons] at *; omega)); (case hb5934zhc0 => first | k_extra "my num" | (simp only [List.length_cons] at *; omega)); (case hb5934zhcl => first | k_extra "my num" | (simp only [List.length_cons] at *; omega)); (case hb5934zhl1 => first | k_extra "my num" | (simp only [List.length_cons] at *; omega)); (case hb5934zhlb => first | k_extra "my num" | (simp only [List.length_cons] at *; omega)); (case hb5934zhdp => k_extra "my room"); (case hb5934zhun => k_extra "my units"); k_whole); intro o0' o1' o2' o3' o4' o5' o6' o7' o8' o9' F' N' e0'; (try dsimp only at N'); (try k_sweep); (try dsimp only); (try k_fold))
  k_with "my call ref" => (k_here; (with_reducible show wpAny _ _ (call (Value.ref 84) _) _ _ _); k_dflt (refine' Mine.go_in_grouping_b_call ?h286b1zB ?h286b1zF ?h286b1zX ?h286b1zN ?h286b1zT ?h286b1zk ?h286b1zm ?h286b1zU ?h286b1zd ?h286b1zhx ?h286b1zhc0 ?h286b1zhcl ?h286b1zhl1 ?h286b1zhlb ?h286b1zhdp ?h286b1zhun ?_; (case h286b1zB => k_asm); (case h286b1zF => k_asm); (case h286b1zX => k_asm); (case h286b1zN => k_asm); (case h286b1zT => k_asm); (case h286b1zk => first | exact rfl | assumption); (case h286b1zm => k_mem); (case h286b1zU => k_updF); (case h286b1zd => first | assumption | k_extra "my num"); (case h286b1zhx => first | k_extra "my num" | (simp only [List.length_cons] at *; omega)); (case h286b1zhc0 => first | k_extra "my num" | (simp only [List.length_cons] at *; omega)); (case h286b1zhcl => first | k_extra "my num" | (simp only [List.length_cons] at *; omega)); (case h286b1zhl1 => first | k_extra "my num" | (simp only [List.length_cons] at *; omega)); (case h286b1zhlb => first | k_extra "my num" | (simp only [List.length_cons] at *; omega)); (case h286b1zhdp => k_extra "my room"); (case h286b1zhun => k_extra "my units"); k_whole); intro o0' o1' o2' o3' o4' o5' o6' o7' o8' o9' F' N' e0'; (try dsimp only at N'); (try k_sweep); (try dsimp only); (try k_fold))
  k_with "my call ref" => (k_here; (with_reducible show wpAny _ _ (call (Value.ref 91) _) _ _ _); k_dflt (refine' Mine.out_grouping_call ?h6b3f7zB ?h6b3f7zF ?h6b3f7zX ?h6b3f7zN ?h6b3f7zT ?h6b3f7zk ?h6b3f7zm ?h6b3f7zU ?h6b3f7zd ?h6b3f7zhx ?h6b3f7zhc0 ?h6b3f7zhcl ?h6b3f7zhl1 ?h6b3f7zhlb ?h6b3f7zhdp ?h6b3f7zhun ?_; (case h6b3f7zB => k_asm); (case h6b3f7zF => k_asm); (case h6b3f7zX => k_asm); (case h6b3f7zN => k_asm); (case h6b3f7zT => k_asm); (case h6b3f7zk => first | exact rfl | assumption); (case h6b3f7zm => k_mem); (case h6b3f7zU => k_updF); (case h6b3f7zd => first | assumption | k_extra "my num"); (case h6b3f7zhx => first | k_extra "my num" | (simp only [List.length_cons] at *; omega)); (case h6b3f7zhc0 => first | k_extra "my num" | (simp only [List.length_cons] at *; omega)); (case h6b3f7zhcl => first | k_extra "my num" | (simp only [List.length_cons] at *; omega)); (case h6b3f7zhl1 => first | k_extra "my num" | (simp only [List.length_cons] at *; omega)); (case h6b3f7zhlb => first | k_extra "my num" | (simp only [List.length_cons] at *; omega)); (case h6b3f7zhdp => k_extra "my room"); (case h6b3f7zhun => k_extra "my units"); k_whole); intro o0' o1' o2' o3' o4' o5' o6' o7' o8' o9' F' N' e0'; (try dsimp only at N'); (try k_sweep); (try dsimp only); (try k_fold))
  k_with "my call ref" => (k_here; (with_reducible show wpAny _ _ (call (Value.ref 98) _) _ _ _); k_dflt (refine' Mine.go_out_grouping_call ?h004e3zB ?h004e3zF ?h004e3zX ?h004e3zN ?h004e3zT ?h004e3zk ?h004e3zm ?h004e3zU ?h004e3zd ?h004e3zhx ?h004e3zhc0 ?h004e3zhcl ?h004e3zhl1 ?h004e3zhlb ?h004e3zhdp ?h004e3zhun ?_; (case h004e3zB => k_asm); (case h004e3zF => k_asm); (case h004e3zX => k_asm); (case h004e3zN => k_asm); (case h004e3zT => k_asm); (case h004e3zk => first | exact rfl | assumption); (case h004e3zm => k_mem); (case h004e3zU => k_updF); (case h004e3zd => first | assumption | k_extra "my num"); (case h004e3zhx => first | k_extra "my num" | (simp only [List.length_cons] at *; omega)); (case h004e3zhc0 => first | k_extra "my num" | (simp only [List.length_cons] at *; omega)); (case h004e3zhcl => first | k_extra "my num" | (simp only [List.length_cons] at *; omega)); (case h004e3zhl1 => first | k_extra "my num" | (simp only [List.length_cons] at *; omega)); (case h004e3zhlb => first | k_extra "my num" | (simp only [List.length_cons] at *; omega)); (case h004e3zhdp => k_extra "my room"); (case h004e3zhun => k_extra "my units"); k_whole); intro o0' o1' o2' o3' o4' o5' o6' o7' o8' o9' F' N' e0'; (try dsimp only at N'); (try k_sweep); (try dsimp only); (try k_fold))
  k_with "my call ref" => (k_here; (with_reducible show wpAny _ _ (call (Value.ref 105) _) _ _ _); k_dflt (refine' Mine.out_grouping_b_call ?h19505zB ?h19505zF ?h19505zX ?h19505zN ?h19505zT ?h19505zk ?h19505zm ?h19505zU ?h19505zd ?h19505zhx ?h19505zhc0 ?h19505zhcl ?h19505zhl1 ?h19505zhlb ?h19505zhdp ?h19505zhun ?_; (case h19505zB => k_asm); (case h19505zF => k_asm); (case h19505zX => k_asm); (case h19505zN => k_asm); (case h19505zT => k_asm); (case h19505zk => first | exact rfl | assumption); (case h19505zm => k_mem); (case h19505zU => k_updF); (case h19505zd => first | assumption | k_extra "my num"); (case h19505zhx => first | k_extra "my num" | (simp only [List.length_cons] at *; omega)); (case h19505zhc0 => first | k_extra "my num" | (simp only [List.length_cons] at *; omega)); (case h19505zhcl => first | k_extra "my num" | (simp only [List.length_cons] at *; omega)); (case h19505zhl1 => first | k_extra "my num" | (simp only [List.length_cons] at *; omega)); (case h19505zhlb => first | k_extra "my num" | (simp only [List.length_cons] at *; omega)); (case h19505zhdp => k_extra "my room"); (case h19505zhun => k_extra "my units"); k_whole); intro o0' o1' o2' o3' o4' o5' o6' o7' o8' o9' F' N' e0'; (try dsimp only at N'); (try k_sweep); (try dsimp only); (try k_fold))
  k_with "my call ref" => (k_here; (with_reducible show wpAny _ _ (call (Value.ref 112) _) _ _ _); k_dflt (refine' Mine.go_out_grouping_b_call ?h91105zB ?h91105zF ?h91105zX ?h91105zN ?h91105zT ?h91105zk ?h91105zm ?h91105zU ?h91105zd ?h91105zhx ?h91105zhc0 ?h91105zhcl ?h91105zhl1 ?h91105zhlb ?h91105zhdp ?h91105zhun ?_; (case h91105zB => k_asm); (case h91105zF => k_asm); (case h91105zX => k_asm); (case h91105zN => k_asm); (case h91105zT => k_asm); (case h91105zk => first | exact rfl | assumption); (case h91105zm => k_mem); (case h91105zU => k_updF); (case h91105zd => first | assumption | k_extra "my num"); (case h91105zhx => first | k_extra "my num" | (simp only [List.length_cons] at *; omega)); (case h91105zhc0 => first | k_extra "my num" | (simp only [List.length_cons] at *; omega)); (case h91105zhcl => first | k_extra "my num" | (simp only [List.length_cons] at *; omega)); (case h91105zhl1 => first | k_extra "my num" | (simp only [List.length_cons] at *; omega)); (case h91105zhlb => first | k_extra "my num" | (simp only [List.length_cons] at *; omega)); (case h91105zhdp => k_extra "my room"); (case h91105zhun => k_extra "my units"); k_whole); intro o0' o1' o2' o3' o4' o5' o6' o7' o8' o9' F' N' e0'; (try dsimp only at N'); (try k_sweep); (try dsimp only); (try k_fold))
  k_with "my call ref" => (k_here; (with_reducible show wpAny _ _ (call (Value.ref 119) _) _ _ _); k_dflt (refine' Mine.eq_s_call ?h87e6dzB ?h87e6dzF ?h87e6dzX ?h87e6dzN ?h87e6dzT ?h87e6dzk ?h87e6dzm ?h87e6dzU ?h87e6dzd ?h87e6dzhx ?h87e6dzhc0 ?h87e6dzhcl ?h87e6dzhl1 ?h87e6dzhg ?h87e6dzhdp ?h87e6dzhun ?_; (case h87e6dzB => k_asm); (case h87e6dzF => k_asm); (case h87e6dzX => k_asm); (case h87e6dzN => k_asm); (case h87e6dzT => k_asm); (case h87e6dzk => first | exact rfl | assumption); (case h87e6dzm => k_mem); (case h87e6dzU => k_updF); (case h87e6dzd => first | assumption | k_extra "my num"); (case h87e6dzhx => first | k_extra "my num" | (simp only [List.length_cons] at *; omega)); (case h87e6dzhc0 => first | k_extra "my num" | (simp only [List.length_cons] at *; omega)); (case h87e6dzhcl => first | k_extra "my num" | (simp only [List.length_cons] at *; omega)); (case h87e6dzhl1 => first | k_extra "my num" | (simp only [List.length_cons] at *; omega)); (case h87e6dzhg => first | k_extra "my num" | (simp only [List.length_cons] at *; omega)); (case h87e6dzhdp => k_extra "my room"); (case h87e6dzhun => k_extra "my units"); k_whole); intro o0' o1' o2' o3' o4' o5' o6' o7' o8' o9' F' N' e0' e1'; (try dsimp only at N'); (try k_sweep); (try dsimp only); (try k_fold))
  k_with "my call ref" => (k_here; (with_reducible show wpAny _ _ (call (Value.ref 126) _) _ _ _); k_dflt (refine' Mine.eq_s_b_call ?ha43c0zB ?ha43c0zF ?ha43c0zX ?ha43c0zN ?ha43c0zT ?ha43c0zk ?ha43c0zm ?ha43c0zU ?ha43c0zd ?ha43c0zhx ?ha43c0zhc0 ?ha43c0zhcl ?ha43c0zhl1 ?ha43c0zhg ?ha43c0zhdp ?ha43c0zhun ?_; (case ha43c0zB => k_asm); (case ha43c0zF => k_asm); (case ha43c0zX => k_asm); (case ha43c0zN => k_asm); (case ha43c0zT => k_asm); (case ha43c0zk => first | exact rfl | assumption); (case ha43c0zm => k_mem); (case ha43c0zU => k_updF); (case ha43c0zd => first | assumption | k_extra "my num"); (case ha43c0zhx => first | k_extra "my num" | (simp only [List.length_cons] at *; omega)); (case ha43c0zhc0 => first | k_extra "my num" | (simp only [List.length_cons] at *; omega)); (case ha43c0zhcl => first | k_extra "my num" | (simp only [List.length_cons] at *; omega)); (case ha43c0zhl1 => first | k_extra "my num" | (simp only [List.length_cons] at *; omega)); (case ha43c0zhg => first | k_extra "my num" | (simp only [List.length_cons] at *; omega)); (case ha43c0zhdp => k_extra "my room"); (case ha43c0zhun => k_extra "my units"); k_whole); intro o0' o1' o2' o3' o4' o5' o6' o7' o8' o9' F' N' e0' e1'; (try dsimp only at N'); (try k_sweep); (try dsimp only); (try k_fold))
  k_with "my call ref" => (k_here; (with_reducible show wpAny _ _ (call (Value.ref 147) _) _ _ _); k_dflt (refine' Mine.replace_s_call ?hccaaazB ?hccaaazF ?hccaaazX ?hccaaazN ?hccaaazT ?hccaaazk ?hccaaazm ?hccaaazU ?hccaaazd ?hccaaazhx ?hccaaazhc0 ?hccaaazhcl ?hccaaazhl1 ?hccaaazhg ?hccaaazhi ?hccaaazhij ?hccaaazhj ?hccaaazhdp ?hccaaazhun ?_; (case hccaaazB => k_asm); (case hccaaazF => k_asm); (case hccaaazX => k_asm); (case hccaaazN => k_asm); (case hccaaazT => k_asm); (case hccaaazk => first | exact rfl | assumption); (case hccaaazm => k_mem); (case hccaaazU => k_updF); (case hccaaazd => first | assumption | k_extra "my num"); (case hccaaazhx => first | k_extra "my num" | (simp only [List.length_cons] at *; omega)); (case hccaaazhc0 => first | k_extra "my num" | (simp only [List.length_cons] at *; omega)); (case hccaaazhcl => first | k_extra "my num" | (simp only [List.length_cons] at *; omega)); (case hccaaazhl1 => first | k_extra "my num" | (simp only [List.length_cons] at *; omega)); (case hccaaazhg => first | k_extra "my num" | (simp only [List.length_cons] at *; omega)); (case hccaaazhi => first | k_extra "my num" | (simp only [List.length_cons] at *; omega)); (case hccaaazhij => first | k_extra "my num" | (simp only [List.length_cons] at *; omega)); (case hccaaazhj => first | k_extra "my num" | (simp only [List.length_cons] at *; omega)); (case hccaaazhdp => k_extra "my room"); (case hccaaazhun => k_extra "my units"); k_whole); intro o0' o1' o2' o3' o4' o5' o6' o7' o8' o9' F' N' e0'; (try dsimp only at N'); (try k_sweep); (try dsimp only); (try k_fold))
  trivial
theorem slice_from_spec {prog : Program} {w : World} {p : Program} {loose : List Str} {mean : ExcName → Option Value} {mg mb : Str → Option Value}
  {dp un : Nat} {gd : Option (List Code)} {cn : Str} {cs : Scope} {a : Addr} {ccd : Value} {cl : List (Str × Addr)} {outer : List Env} {A₀ : Around} {base h₀ : Heap} {L : Addr} {m : Str → Option Value} {s : Shared} {Q E : Value → Shared → Prop}
  {mx dx : Nat} {H : Nat → Int} {KT : Nat → Tok} {x : Str} {c l lb b k : Int} {τ0 τ1 τ2 τ3 τ4 τ5 : Tok} {g : Str} {tg : Tok} {rest : List (Addr × Obj)}
  (B : Below A₀ base outer h₀) (F : Fr h₀ L s.heap m) (X : (hd0.heap_1_1 w.params).In h₀) (N : News h₀ L s.heap ((mx, instObj 199 dx) :: (dx, machD H KT (x) τ0 (c) τ1 (l) τ2 (lb) τ3 (b) τ4 (k) τ5) :: rest)) (T : Top p loose mean mg mb h₀) (hk : cs.kind = .function)
  (hmd : mx ≠ dx) (hr : ∀ p ∈ rest, p.1 ≠ dx) (hx : x.length ≤ 1000) (hc0 : 0 ≤ c) (hcl : c ≤ l) (hl1 : l ≤ x.length) (hg : g.length ≤ 1000) (hb0 : 0 ≤ b) (hbk : b ≤ k) (hkl : k ≤ l) (hdp : dp + 2 < recursionLimit) (hun : un + 16 < cLine)
  (hret : ∀ (c' : Int) (τ0 τ1 τ2 τ3 τ4 τ5 : Tok) (h' : Heap) (tk' : Nat), Fr h₀ L h' m → News h₀ L h' ((mx, instObj 199 dx) :: (dx, machD H KT (Txt.slice x (some 0) (some b) ++ g ++ Txt.slice x (some k) none) τ0 (c') τ1 (l + (g.length - (k - b))) τ2 (lb) τ3 (b) τ4 (b + g.length) τ5) :: rest) → c' = (if k ≤ c then c + (g.length - (k - b)) else if b < c then b else c) → Q (.none) { s with heap := h', toks := tk' }) :
  wpAny (model prog w) (ktrTop dp un gd cn cs L a ccd cl outer) (call (.ref 154) [.ref mx, .str g tg]) Q E s := by
 exact Mine.quiet _ (type_of% (Mine.aside (by
  refine wpAny_call ?_
  k_dflt ktr_enter
  k_extra "my steps"
  all_goals exact hret _ _ _ _ _ _ _ _ _ (by k_asm) (by k_asm) (by assumption)
 ) (by exact Nat) _))
theorem slice_from_call {prog : Program} {w : World} {p : Program} {loose : List Str} {mean : ExcName → Option Value} {mg mb : Str → Option Value}
  {dp un : Nat} {gd : Option (List Code)} {cn : Str} {cs : Scope} {a : Addr} {ccd : Value} {cl : List (Str × Addr)} {outer : List Env} {A₀ : Around} {base h₀ : Heap} {L : Addr} {m : Str → Option Value} {s : Shared} {Q E : Value → Shared → Prop}
  {mx dx : Nat} {H : Nat → Int} {KT : Nat → Tok} {x : Str} {c l lb b k : Int} {τ0 τ1 τ2 τ3 τ4 τ5 : Tok} {g : Str} {tg : Tok} {news : List (Addr × Obj)} {f : Obj → List (Addr × Obj)}
  (B : Below A₀ base outer h₀) (F : Fr h₀ L s.heap m) (X : (hd0.heap_1_1 w.params).In h₀) (N : News h₀ L s.heap (news)) (T : Top p loose mean mg mb h₀) (hk : cs.kind = .function)
  (hm : (mx, instObj 199 dx) ∈ news) (U : UpdF dx (machD H KT (x) τ0 (c) τ1 (l) τ2 (lb) τ3 (b) τ4 (k) τ5) news f) (hmd : mx ≠ dx) (hx : x.length ≤ 1000) (hc0 : 0 ≤ c) (hcl : c ≤ l) (hl1 : l ≤ x.length) (hg : g.length ≤ 1000) (hb0 : 0 ≤ b) (hbk : b ≤ k) (hkl : k ≤ l) (hdp : dp + 2 < recursionLimit) (hun : un + 16 < cLine)
  (hret : ∀ (c' : Int) (τ0 τ1 τ2 τ3 τ4 τ5 : Tok) (h' : Heap) (tk' : Nat), Fr h₀ L h' m → News h₀ L h' (f (machD H KT (Txt.slice x (some 0) (some b) ++ g ++ Txt.slice x (some k) none) τ0 (c') τ1 (l + (g.length - (k - b))) τ2 (lb) τ3 (b) τ4 (b + g.length) τ5)) → c' = (if k ≤ c then c + (g.length - (k - b)) else if b < c then b else c) → Q (.none) { s with heap := h', toks := tk' }) :
  wpAny (model prog w) (ktrTop dp un gd cn cs L a ccd cl outer) (call (.ref 154) [.ref mx, .str g tg]) Q E s := by
  obtain ⟨rest, hr, N1, hf, -⟩ := updF_rest N U
  exact slice_from_spec B F X (news_put N hm N1) T hk hmd hr hx hc0 hcl hl1 hg hb0 hbk hkl hdp hun fun c' τ0 τ1 τ2 τ3 τ4 τ5 h' tk' F' N' e0 => hret c' τ0 τ1 τ2 τ3 τ4 τ5 h' tk' F' (hf _ _ (news_tl N')) e0

theorem insert_spec {prog : Program} {w : World} {p : Program} {loose : List Str} {mean : ExcName → Option Value} {mg mb : Str → Option Value}
  {dp un : Nat} {gd : Option (List Code)} {cn : Str} {cs : Scope} {a : Addr} {ccd : Value} {cl : List (Str × Addr)} {outer : List Env} {A₀ : Around} {base h₀ : Heap} {L : Addr} {m : Str → Option Value} {s : Shared} {Q E : Value → Shared → Prop}
  {mx dx : Nat} {H : Nat → Int} {KT : Nat → Tok} {x : Str} {c l lb b k : Int} {τ0 τ1 τ2 τ3 τ4 τ5 : Tok} {g : Str} {tg ti tj : Tok} {i j : Int} {rest : List (Addr × Obj)}
  (B : Below A₀ base outer h₀) (F : Fr h₀ L s.heap m) (X : (hd0.heap_1_1 w.params).In h₀) (N : News h₀ L s.heap ((mx, instObj 199 dx) :: (dx, machD H KT (x) τ0 (c) τ1 (l) τ2 (lb) τ3 (b) τ4 (k) τ5) :: rest)) (T : Top p loose mean mg mb h₀) (hk : cs.kind = .function)
  (hmd : mx ≠ dx) (hr : ∀ p ∈ rest, p.1 ≠ dx) (hx : x.length ≤ 1000) (hc0 : 0 ≤ c) (hcl : c ≤ l) (hl1 : l ≤ x.length) (hg : g.length ≤ 1000) (hi : 0 ≤ i) (hij : i ≤ j) (hj : j ≤ x.length) (hb : -100000 ≤ b ∧ b ≤ 100000) (hkb : -100000 ≤ k ∧ k ≤ 100000) (hdp : dp + 2 < recursionLimit) (hun : un + 16 < cLine)
  (hret : ∀ (c' : Int) (b' : Int) (k' : Int) (τ0 τ1 τ2 τ3 τ4 τ5 : Tok) (h' : Heap) (tk' : Nat), Fr h₀ L h' m → News h₀ L h' ((mx, instObj 199 dx) :: (dx, machD H KT (Txt.slice x (some 0) (some i) ++ g ++ Txt.slice x (some j) none) τ0 (c') τ1 (l + (g.length - (j - i))) τ2 (lb) τ3 (b') τ4 (k') τ5) :: rest) → c' = (if j ≤ c then c + (g.length - (j - i)) else if i < c then i else c) → b' = (if i ≤ b then b + (g.length - (j - i)) else b) → k' = (if i ≤ k then k + (g.length - (j - i)) else k) → Q (.none) { s with heap := h', toks := tk' }) :
  wpAny (model prog w) (ktrTop dp un gd cn cs L a ccd cl outer) (call (.ref 168) [.ref mx, .int i ti, .int j tj, .str g tg]) Q E s := by
 exact Mine.quiet _ (type_of% (Mine.aside (by
  refine wpAny_call ?_
  k_dflt ktr_enter
  k_extra "my steps"
  all_goals exact hret _ _ _ _ _ _ _ _ _ _ _ (by k_asm) (by k_asm) (by assumption) (by (repeat' split) <;> omega) (by (repeat' split) <;> omega)
 ) (by exact Nat) _))
theorem insert_call {prog : Program} {w : World} {p : Program} {loose : List Str} {mean : ExcName → Option Value} {mg mb : Str → Option Value}
  {dp un : Nat} {gd : Option (List Code)} {cn : Str} {cs : Scope} {a : Addr} {ccd : Value} {cl : List (Str × Addr)} {outer : List Env} {A₀ : Around} {base h₀ : Heap} {L : Addr} {m : Str → Option Value} {s : Shared} {Q E : Value → Shared → Prop}
  {mx dx : Nat} {H : Nat → Int} {KT : Nat → Tok} {x : Str} {c l lb b k : Int} {τ0 τ1 τ2 τ3 τ4 τ5 : Tok} {g : Str} {tg ti tj : Tok} {i j : Int} {news : List (Addr × Obj)} {f : Obj → List (Addr × Obj)}
  (B : Below A₀ base outer h₀) (F : Fr h₀ L s.heap m) (X : (hd0.heap_1_1 w.params).In h₀) (N : News h₀ L s.heap (news)) (T : Top p loose mean mg mb h₀) (hk : cs.kind = .function)
  (hm : (mx, instObj 199 dx) ∈ news) (U : UpdF dx (machD H KT (x) τ0 (c) τ1 (l) τ2 (lb) τ3 (b) τ4 (k) τ5) news f) (hmd : mx ≠ dx) (hx : x.length ≤ 1000) (hc0 : 0 ≤ c) (hcl : c ≤ l) (hl1 : l ≤ x.length) (hg : g.length ≤ 1000) (hi : 0 ≤ i) (hij : i ≤ j) (hj : j ≤ x.length) (hb : -100000 ≤ b ∧ b ≤ 100000) (hkb : -100000 ≤ k ∧ k ≤ 100000) (hdp : dp + 2 < recursionLimit) (hun : un + 16 < cLine)
  (hret : ∀ (c' : Int) (b' : Int) (k' : Int) (τ0 τ1 τ2 τ3 τ4 τ5 : Tok) (h' : Heap) (tk' : Nat), Fr h₀ L h' m → News h₀ L h' (f (machD H KT (Txt.slice x (some 0) (some i) ++ g ++ Txt.slice x (some j) none) τ0 (c') τ1 (l + (g.length - (j - i))) τ2 (lb) τ3 (b') τ4 (k') τ5)) → c' = (if j ≤ c then c + (g.length - (j - i)) else if i < c then i else c) → b' = (if i ≤ b then b + (g.length - (j - i)) else b) → k' = (if i ≤ k then k + (g.length - (j - i)) else k) → Q (.none) { s with heap := h', toks := tk' }) :
  wpAny (model prog w) (ktrTop dp un gd cn cs L a ccd cl outer) (call (.ref 168) [.ref mx, .int i ti, .int j tj, .str g tg]) Q E s := by
  obtain ⟨rest, hr, N1, hf, -⟩ := updF_rest N U
  exact insert_spec B F X (news_put N hm N1) T hk hmd hr hx hc0 hcl hl1 hg hi hij hj hb hkb hdp hun fun c' b' k' τ0 τ1 τ2 τ3 τ4 τ5 h' tk' F' N' e0 e1 e2 => hret c' b' k' τ0 τ1 τ2 τ3 τ4 τ5 h' tk' F' (hf _ _ (news_tl N')) e0 e1 e2

theorem slice_to_spec {prog : Program} {w : World} {p : Program} {loose : List Str} {mean : ExcName → Option Value} {mg mb : Str → Option Value}
  {dp un : Nat} {gd : Option (List Code)} {cn : Str} {cs : Scope} {a : Addr} {ccd : Value} {cl : List (Str × Addr)} {outer : List Env} {A₀ : Around} {base h₀ : Heap} {L : Addr} {m : Str → Option Value} {s : Shared} {Q E : Value → Shared → Prop}
  {mx dx : Nat} {H : Nat → Int} {KT : Nat → Tok} {x : Str} {c l lb b k : Int} {τ0 τ1 τ2 τ3 τ4 τ5 : Tok}  {rest : List (Addr × Obj)}
  (B : Below A₀ base outer h₀) (F : Fr h₀ L s.heap m) (X : (hd0.heap_1_1 w.params).In h₀) (N : News h₀ L s.heap ((mx, instObj 199 dx) :: (dx, machD H KT (x) τ0 (c) τ1 (l) τ2 (lb) τ3 (b) τ4 (k) τ5) :: rest)) (T : Top p loose mean mg mb h₀) (hk : cs.kind = .function)
  (hmd : mx ≠ dx) (hr : ∀ p ∈ rest, p.1 ≠ dx) (hx : x.length ≤ 1000) (hc0 : 0 ≤ c) (hcl : c ≤ l) (hl1 : l ≤ x.length) (hb0 : 0 ≤ b) (hbk : b ≤ k) (hkl : k ≤ l) (hdp : dp + 1 < recursionLimit) (hun : un + 8 < cLine)
  (hret : ∀ (tv : Tok) (τ0 τ1 τ2 τ3 τ4 τ5 : Tok) (h' : Heap) (tk' : Nat), Fr h₀ L h' m → News h₀ L h' ((mx, instObj 199 dx) :: (dx, machD H KT (x) τ0 (c) τ1 (l) τ2 (lb) τ3 (b) τ4 (k) τ5) :: rest) → Q (.str (Txt.slice x (some b) (some k)) tv) { s with heap := h', toks := tk' }) :
  wpAny (model prog w) (ktrTop dp un gd cn cs L a ccd cl outer) (call (.ref 175) [.ref mx]) Q E s := by
 exact Mine.quiet _ (type_of% (Mine.aside (by
  refine wpAny_call ?_
  k_dflt ktr_enter
  k_extra "my steps"
  all_goals exact hret _ _ _ _ _ _ _ _ _ (by k_asm) (by k_asm) 
 ) (by exact Nat) _))
theorem slice_to_call {prog : Program} {w : World} {p : Program} {loose : List Str} {mean : ExcName → Option Value} {mg mb : Str → Option Value}
  {dp un : Nat} {gd : Option (List Code)} {cn : Str} {cs : Scope} {a : Addr} {ccd : Value} {cl : List (Str × Addr)} {outer : List Env} {A₀ : Around} {base h₀ : Heap} {L : Addr} {m : Str → Option Value} {s : Shared} {Q E : Value → Shared → Prop}
  {mx dx : Nat} {H : Nat → Int} {KT : Nat → Tok} {x : Str} {c l lb b k : Int} {τ0 τ1 τ2 τ3 τ4 τ5 : Tok}  {news : List (Addr × Obj)} {f : Obj → List (Addr × Obj)}
  (B : Below A₀ base outer h₀) (F : Fr h₀ L s.heap m) (X : (hd0.heap_1_1 w.params).In h₀) (N : News h₀ L s.heap (news)) (T : Top p loose mean mg mb h₀) (hk : cs.kind = .function)
  (hm : (mx, instObj 199 dx) ∈ news) (U : UpdF dx (machD H KT (x) τ0 (c) τ1 (l) τ2 (lb) τ3 (b) τ4 (k) τ5) news f) (hmd : mx ≠ dx) (hx : x.length ≤ 1000) (hc0 : 0 ≤ c) (hcl : c ≤ l) (hl1 : l ≤ x.length) (hb0 : 0 ≤ b) (hbk : b ≤ k) (hkl : k ≤ l) (hdp : dp + 1 < recursionLimit) (hun : un + 8 < cLine)
  (hret : ∀ (tv : Tok) (τ0 τ1 τ2 τ3 τ4 τ5 : Tok) (h' : Heap) (tk' : Nat), Fr h₀ L h' m → News h₀ L h' (f (machD H KT (x) τ0 (c) τ1 (l) τ2 (lb) τ3 (b) τ4 (k) τ5)) → Q (.str (Txt.slice x (some b) (some k)) tv) { s with heap := h', toks := tk' }) :
  wpAny (model prog w) (ktrTop dp un gd cn cs L a ccd cl outer) (call (.ref 175) [.ref mx]) Q E s := by
  obtain ⟨rest, hr, N1, hf, -⟩ := updF_rest N U
  exact slice_to_spec B F X (news_put N hm N1) T hk hmd hr hx hc0 hcl hl1 hb0 hbk hkl hdp hun fun tv τ0 τ1 τ2 τ3 τ4 τ5 h' tk' F' N'  => hret tv τ0 τ1 τ2 τ3 τ4 τ5 h' tk' F' (hf _ _ (news_tl N')) 

theorem assign_to_spec {prog : Program} {w : World} {p : Program} {loose : List Str} {mean : ExcName → Option Value} {mg mb : Str → Option Value}
  {dp un : Nat} {gd : Option (List Code)} {cn : Str} {cs : Scope} {a : Addr} {ccd : Value} {cl : List (Str × Addr)} {outer : List Env} {A₀ : Around} {base h₀ : Heap} {L : Addr} {m : Str → Option Value} {s : Shared} {Q E : Value → Shared → Prop}
  {mx dx : Nat} {H : Nat → Int} {KT : Nat → Tok} {x : Str} {c l lb b k : Int} {τ0 τ1 τ2 τ3 τ4 τ5 : Tok}  {rest : List (Addr × Obj)}
  (B : Below A₀ base outer h₀) (F : Fr h₀ L s.heap m) (X : (hd0.heap_1_1 w.params).In h₀) (N : News h₀ L s.heap ((mx, instObj 199 dx) :: (dx, machD H KT (x) τ0 (c) τ1 (l) τ2 (lb) τ3 (b) τ4 (k) τ5) :: rest)) (T : Top p loose mean mg mb h₀) (hk : cs.kind = .function)
  (hmd : mx ≠ dx) (hr : ∀ p ∈ rest, p.1 ≠ dx) (hx : x.length ≤ 1000) (hc0 : 0 ≤ c) (hcl : c ≤ l) (hl1 : l ≤ x.length) (hdp : dp + 1 < recursionLimit) (hun : un + 8 < cLine)
  (hret : ∀ (tv : Tok) (τ0 τ1 τ2 τ3 τ4 τ5 : Tok) (h' : Heap) (tk' : Nat), Fr h₀ L h' m → News h₀ L h' ((mx, instObj 199 dx) :: (dx, machD H KT (x) τ0 (c) τ1 (l) τ2 (lb) τ3 (b) τ4 (k) τ5) :: rest) → Q (.str (Txt.slice x (some 0) (some l)) tv) { s with heap := h', toks := tk' }) :
  wpAny (model prog w) (ktrTop dp un gd cn cs L a ccd cl outer) (call (.ref 182) [.ref mx]) Q E s := by
 exact Mine.quiet _ (type_of% (Mine.aside (by
  refine wpAny_call ?_
  k_dflt ktr_enter
  k_extra "my steps"
  all_goals exact hret _ _ _ _ _ _ _ _ _ (by k_asm) (by k_asm) 
 ) (by exact Nat) _))
theorem assign_to_call {prog : Program} {w : World} {p : Program} {loose : List Str} {mean : ExcName → Option Value} {mg mb : Str → Option Value}
  {dp un : Nat} {gd : Option (List Code)} {cn : Str} {cs : Scope} {a : Addr} {ccd : Value} {cl : List (Str × Addr)} {outer : List Env} {A₀ : Around} {base h₀ : Heap} {L : Addr} {m : Str → Option Value} {s : Shared} {Q E : Value → Shared → Prop}
  {mx dx : Nat} {H : Nat → Int} {KT : Nat → Tok} {x : Str} {c l lb b k : Int} {τ0 τ1 τ2 τ3 τ4 τ5 : Tok}  {news : List (Addr × Obj)} {f : Obj → List (Addr × Obj)}
  (B : Below A₀ base outer h₀) (F : Fr h₀ L s.heap m) (X : (hd0.heap_1_1 w.params).In h₀) (N : News h₀ L s.heap (news)) (T : Top p loose mean mg mb h₀) (hk : cs.kind = .function)
  (hm : (mx, instObj 199 dx) ∈ news) (U : UpdF dx (machD H KT (x) τ0 (c) τ1 (l) τ2 (lb) τ3 (b) τ4 (k) τ5) news f) (hmd : mx ≠ dx) (hx : x.length ≤ 1000) (hc0 : 0 ≤ c) (hcl : c ≤ l) (hl1 : l ≤ x.length) (hdp : dp + 1 < recursionLimit) (hun : un + 8 < cLine)
  (hret : ∀ (tv : Tok) (τ0 τ1 τ2 τ3 τ4 τ5 : Tok) (h' : Heap) (tk' : Nat), Fr h₀ L h' m → News h₀ L h' (f (machD H KT (x) τ0 (c) τ1 (l) τ2 (lb) τ3 (b) τ4 (k) τ5)) → Q (.str (Txt.slice x (some 0) (some l)) tv) { s with heap := h', toks := tk' }) :
  wpAny (model prog w) (ktrTop dp un gd cn cs L a ccd cl outer) (call (.ref 182) [.ref mx]) Q E s := by
  obtain ⟨rest, hr, N1, hf, -⟩ := updF_rest N U
  exact assign_to_spec B F X (news_put N hm N1) T hk hmd hr hx hc0 hcl hl1 hdp hun fun tv τ0 τ1 τ2 τ3 τ4 τ5 h' tk' F' N'  => hret tv τ0 τ1 τ2 τ3 τ4 τ5 h' tk' F' (hf _ _ (news_tl N')) 

theorem get_current_spec {prog : Program} {w : World} {p : Program} {loose : List Str} {mean : ExcName → Option Value} {mg mb : Str → Option Value}
  {dp un : Nat} {gd : Option (List Code)} {cn : Str} {cs : Scope} {a : Addr} {ccd : Value} {cl : List (Str × Addr)} {outer : List Env} {A₀ : Around} {base h₀ : Heap} {L : Addr} {m : Str → Option Value} {s : Shared} {Q E : Value → Shared → Prop}
  {mx dx : Nat} {H : Nat → Int} {KT : Nat → Tok} {x : Str} {c l lb b k : Int} {τ0 τ1 τ2 τ3 τ4 τ5 : Tok}  {rest : List (Addr × Obj)}
  (B : Below A₀ base outer h₀) (F : Fr h₀ L s.heap m) (X : (hd0.heap_1_1 w.params).In h₀) (N : News h₀ L s.heap ((mx, instObj 199 dx) :: (dx, machD H KT (x) τ0 (c) τ1 (l) τ2 (lb) τ3 (b) τ4 (k) τ5) :: rest)) (T : Top p loose mean mg mb h₀) (hk : cs.kind = .function)
  (hmd : mx ≠ dx) (hr : ∀ p ∈ rest, p.1 ≠ dx) (hx : x.length ≤ 1000) (hc0 : 0 ≤ c) (hcl : c ≤ l) (hl1 : l ≤ x.length) (hdp : dp + 1 < recursionLimit) (hun : un + 8 < cLine)
  (hret : ∀ (tv : Tok) (τ0 τ1 τ2 τ3 τ4 τ5 : Tok) (h' : Heap) (tk' : Nat), Fr h₀ L h' m → News h₀ L h' ((mx, instObj 199 dx) :: (dx, machD H KT (x) τ0 (c) τ1 (l) τ2 (lb) τ3 (b) τ4 (k) τ5) :: rest) → Q (.str x tv) { s with heap := h', toks := tk' }) :
  wpAny (model prog w) (ktrTop dp un gd cn cs L a ccd cl outer) (call (.ref 49) [.ref mx]) Q E s := by
 exact Mine.quiet _ (type_of% (Mine.aside (by
  refine wpAny_call ?_
  k_dflt ktr_enter
  k_extra "my steps"
  all_goals exact hret _ _ _ _ _ _ _ _ _ (by k_asm) (by k_asm) 
 ) (by exact Nat) _))
theorem get_current_call {prog : Program} {w : World} {p : Program} {loose : List Str} {mean : ExcName → Option Value} {mg mb : Str → Option Value}
  {dp un : Nat} {gd : Option (List Code)} {cn : Str} {cs : Scope} {a : Addr} {ccd : Value} {cl : List (Str × Addr)} {outer : List Env} {A₀ : Around} {base h₀ : Heap} {L : Addr} {m : Str → Option Value} {s : Shared} {Q E : Value → Shared → Prop}
  {mx dx : Nat} {H : Nat → Int} {KT : Nat → Tok} {x : Str} {c l lb b k : Int} {τ0 τ1 τ2 τ3 τ4 τ5 : Tok}  {news : List (Addr × Obj)} {f : Obj → List (Addr × Obj)}
  (B : Below A₀ base outer h₀) (F : Fr h₀ L s.heap m) (X : (hd0.heap_1_1 w.params).In h₀) (N : News h₀ L s.heap (news)) (T : Top p loose mean mg mb h₀) (hk : cs.kind = .function)
  (hm : (mx, instObj 199 dx) ∈ news) (U : UpdF dx (machD H KT (x) τ0 (c) τ1 (l) τ2 (lb) τ3 (b) τ4 (k) τ5) news f) (hmd : mx ≠ dx) (hx : x.length ≤ 1000) (hc0 : 0 ≤ c) (hcl : c ≤ l) (hl1 : l ≤ x.length) (hdp : dp + 1 < recursionLimit) (hun : un + 8 < cLine)
  (hret : ∀ (tv : Tok) (τ0 τ1 τ2 τ3 τ4 τ5 : Tok) (h' : Heap) (tk' : Nat), Fr h₀ L h' m → News h₀ L h' (f (machD H KT (x) τ0 (c) τ1 (l) τ2 (lb) τ3 (b) τ4 (k) τ5)) → Q (.str x tv) { s with heap := h', toks := tk' }) :
  wpAny (model prog w) (ktrTop dp un gd cn cs L a ccd cl outer) (call (.ref 49) [.ref mx]) Q E s := by
  obtain ⟨rest, hr, N1, hf, -⟩ := updF_rest N U
  exact get_current_spec B F X (news_put N hm N1) T hk hmd hr hx hc0 hcl hl1 hdp hun fun tv τ0 τ1 τ2 τ3 τ4 τ5 h' tk' F' N'  => hret tv τ0 τ1 τ2 τ3 τ4 τ5 h' tk' F' (hf _ _ (news_tl N')) 

theorem set_current_spec {prog : Program} {w : World} {p : Program} {loose : List Str} {mean : ExcName → Option Value} {mg mb : Str → Option Value}
  {dp un : Nat} {gd : Option (List Code)} {cn : Str} {cs : Scope} {a : Addr} {ccd : Value} {cl : List (Str × Addr)} {outer : List Env} {A₀ : Around} {base h₀ : Heap} {L : Addr} {m : Str → Option Value} {s : Shared} {Q E : Value → Shared → Prop}
  {mx dx : Nat} {H : Nat → Int} {KT : Nat → Tok} {x : Str} {c l lb b k : Int} {τ0 τ1 τ2 τ3 τ4 τ5 : Tok} {g : Str} {tg : Tok} {rest : List (Addr × Obj)}
  (B : Below A₀ base outer h₀) (F : Fr h₀ L s.heap m) (X : (hd0.heap_1_1 w.params).In h₀) (N : News h₀ L s.heap ((mx, instObj 199 dx) :: (dx, machD H KT (x) τ0 (c) τ1 (l) τ2 (lb) τ3 (b) τ4 (k) τ5) :: rest)) (T : Top p loose mean mg mb h₀) (hk : cs.kind = .function)
  (hmd : mx ≠ dx) (hr : ∀ p ∈ rest, p.1 ≠ dx) (hg : g.length ≤ 1000) (hdp : dp + 1 < recursionLimit) (hun : un + 8 < cLine)
  (hret : ∀ (τ0 τ1 τ2 τ3 τ4 τ5 : Tok) (h' : Heap) (tk' : Nat), Fr h₀ L h' m → News h₀ L h' ((mx, instObj 199 dx) :: (dx, machD H KT (g) τ0 (0) τ1 (g.length) τ2 (0) τ3 (0) τ4 (g.length) τ5) :: rest) → Q (.none) { s with heap := h', toks := tk' }) :
  wpAny (model prog w) (ktrTop dp un gd cn cs L a ccd cl outer) (call (.ref 42) [.ref mx, .str g tg]) Q E s := by
 exact Mine.quiet _ (type_of% (Mine.aside (by
  refine wpAny_call ?_
  k_dflt ktr_enter
  k_extra "my steps"
  all_goals exact hret _ _ _ _ _ _ _ _ (by k_asm) (by k_asm) 
 ) (by exact Nat) _))
theorem set_current_call {prog : Program} {w : World} {p : Program} {loose : List Str} {mean : ExcName → Option Value} {mg mb : Str → Option Value}
  {dp un : Nat} {gd : Option (List Code)} {cn : Str} {cs : Scope} {a : Addr} {ccd : Value} {cl : List (Str × Addr)} {outer : List Env} {A₀ : Around} {base h₀ : Heap} {L : Addr} {m : Str → Option Value} {s : Shared} {Q E : Value → Shared → Prop}
  {mx dx : Nat} {H : Nat → Int} {KT : Nat → Tok} {x : Str} {c l lb b k : Int} {τ0 τ1 τ2 τ3 τ4 τ5 : Tok} {g : Str} {tg : Tok} {news : List (Addr × Obj)} {f : Obj → List (Addr × Obj)}
  (B : Below A₀ base outer h₀) (F : Fr h₀ L s.heap m) (X : (hd0.heap_1_1 w.params).In h₀) (N : News h₀ L s.heap (news)) (T : Top p loose mean mg mb h₀) (hk : cs.kind = .function)
  (hm : (mx, instObj 199 dx) ∈ news) (U : UpdF dx (machD H KT (x) τ0 (c) τ1 (l) τ2 (lb) τ3 (b) τ4 (k) τ5) news f) (hmd : mx ≠ dx) (hg : g.length ≤ 1000) (hdp : dp + 1 < recursionLimit) (hun : un + 8 < cLine)
  (hret : ∀ (τ0 τ1 τ2 τ3 τ4 τ5 : Tok) (h' : Heap) (tk' : Nat), Fr h₀ L h' m → News h₀ L h' (f (machD H KT (g) τ0 (0) τ1 (g.length) τ2 (0) τ3 (0) τ4 (g.length) τ5)) → Q (.none) { s with heap := h', toks := tk' }) :
  wpAny (model prog w) (ktrTop dp un gd cn cs L a ccd cl outer) (call (.ref 42) [.ref mx, .str g tg]) Q E s := by
  obtain ⟨rest, hr, N1, hf, -⟩ := updF_rest N U
  exact set_current_spec B F X (news_put N hm N1) T hk hmd hr hg hdp hun fun τ0 τ1 τ2 τ3 τ4 τ5 h' tk' F' N'  => hret τ0 τ1 τ2 τ3 τ4 τ5 h' tk' F' (hf _ _ (news_tl N')) 


theorem words_jMach3_3 : True := by
  k_with "my call ref" => (k_here; (with_reducible show wpAny _ _ (call (Value.ref 154) _) _ _ _); k_dflt (refine' Mine.slice_from_call ?h195d4zB ?h195d4zF ?h195d4zX ?h195d4zN ?h195d4zT ?h195d4zk ?h195d4zm ?h195d4zU ?h195d4zd ?h195d4zhx ?h195d4zhc0 ?h195d4zhcl ?h195d4zhl1 ?h195d4zhg ?h195d4zhb0 ?h195d4zhbk ?h195d4zhkl ?h195d4zhdp ?h195d4zhun ?_; (case h195d4zB => k_asm); (case h195d4zF => k_asm); (case h195d4zX => k_asm); (case h195d4zN => k_asm); (case h195d4zT => k_asm); (case h195d4zk => first | exact rfl | assumption); (case h195d4zm => k_mem); (case h195d4zU => k_updF); (case h195d4zd => first | assumption | k_extra "my num"); (case h195d4zhx => first | k_extra "my num" | (simp only [List.length_cons] at *; omega)); (case h195d4zhc0 => first | k_extra "my num" | (simp only [List.length_cons] at *; omega)); (case h195d4zhcl => first | k_extra "my num" | (simp only [List.length_cons] at *; omega)); (case h195d4zhl1 => first | k_extra "my num" | (simp only [List.length_cons] at *; omega)); (case h195d4zhg => first | k_extra "my num" | (simp only [List.length_cons] at *; omega)); (case h195d4zhb0 => first | k_extra "my num" | (simp only [List.length_cons] at *; omega)); (case h195d4zhbk => first | k_extra "my num" | (simp only [List.length_cons] at *; omega)); (case h195d4zhkl => first | k_extra "my num" | (simp only [List.length_cons] at *; omega)); (case h195d4zhdp => k_extra "my room"); (case h195d4zhun => k_extra "my units"); k_whole); intro o0' o1' o2' o3' o4' o5' o6' o7' o8' F' N' e0'; (try dsimp only at N'); (try k_sweep); (try dsimp only); (try k_fold))
  k_with "my call ref" => (k_here; (with_reducible show wpAny _ _ (call (Value.ref 168) _) _ _ _); k_dflt (refine' Mine.insert_call ?hb1fc7zB ?hb1fc7zF ?hb1fc7zX ?hb1fc7zN ?hb1fc7zT ?hb1fc7zk ?hb1fc7zm ?hb1fc7zU ?hb1fc7zd ?hb1fc7zhx ?hb1fc7zhc0 ?hb1fc7zhcl ?hb1fc7zhl1 ?hb1fc7zhg ?hb1fc7zhi ?hb1fc7zhij ?hb1fc7zhj ?hb1fc7zhb ?hb1fc7zhkb ?hb1fc7zhdp ?hb1fc7zhun ?_; (case hb1fc7zB => k_asm); (case hb1fc7zF => k_asm); (case hb1fc7zX => k_asm); (case hb1fc7zN => k_asm); (case hb1fc7zT => k_asm); (case hb1fc7zk => first | exact rfl | assumption); (case hb1fc7zm => k_mem); (case hb1fc7zU => k_updF); (case hb1fc7zd => first | assumption | k_extra "my num"); (case hb1fc7zhx => first | k_extra "my num" | (simp only [List.length_cons] at *; omega)); (case hb1fc7zhc0 => first | k_extra "my num" | (simp only [List.length_cons] at *; omega)); (case hb1fc7zhcl => first | k_extra "my num" | (simp only [List.length_cons] at *; omega)); (case hb1fc7zhl1 => first | k_extra "my num" | (simp only [List.length_cons] at *; omega)); (case hb1fc7zhg => first | k_extra "my num" | (simp only [List.length_cons] at *; omega)); (case hb1fc7zhi => first | k_extra "my num" | (simp only [List.length_cons] at *; omega)); (case hb1fc7zhij => first | k_extra "my num" | (simp only [List.length_cons] at *; omega)); (case hb1fc7zhj => first | k_extra "my num" | (simp only [List.length_cons] at *; omega)); (case hb1fc7zhb => first | k_extra "my num" | (simp only [List.length_cons] at *; omega)); (case hb1fc7zhkb => first | k_extra "my num" | (simp only [List.length_cons] at *; omega)); (case hb1fc7zhdp => k_extra "my room"); (case hb1fc7zhun => k_extra "my units"); k_whole); intro o0' o1' o2' o3' o4' o5' o6' o7' o8' o9' o10' F' N' e0' e1' e2'; (try dsimp only at N'); (try k_sweep); (try dsimp only); (try k_fold))
  k_with "my call ref" => (k_here; (with_reducible show wpAny _ _ (call (Value.ref 175) _) _ _ _); k_dflt (refine' Mine.slice_to_call ?h68030zB ?h68030zF ?h68030zX ?h68030zN ?h68030zT ?h68030zk ?h68030zm ?h68030zU ?h68030zd ?h68030zhx ?h68030zhc0 ?h68030zhcl ?h68030zhl1 ?h68030zhb0 ?h68030zhbk ?h68030zhkl ?h68030zhdp ?h68030zhun ?_; (case h68030zB => k_asm); (case h68030zF => k_asm); (case h68030zX => k_asm); (case h68030zN => k_asm); (case h68030zT => k_asm); (case h68030zk => first | exact rfl | assumption); (case h68030zm => k_mem); (case h68030zU => k_updF); (case h68030zd => first | assumption | k_extra "my num"); (case h68030zhx => first | k_extra "my num" | (simp only [List.length_cons] at *; omega)); (case h68030zhc0 => first | k_extra "my num" | (simp only [List.length_cons] at *; omega)); (case h68030zhcl => first | k_extra "my num" | (simp only [List.length_cons] at *; omega)); (case h68030zhl1 => first | k_extra "my num" | (simp only [List.length_cons] at *; omega)); (case h68030zhb0 => first | k_extra "my num" | (simp only [List.length_cons] at *; omega)); (case h68030zhbk => first | k_extra "my num" | (simp only [List.length_cons] at *; omega)); (case h68030zhkl => first | k_extra "my num" | (simp only [List.length_cons] at *; omega)); (case h68030zhdp => k_extra "my room"); (case h68030zhun => k_extra "my units"); k_whole); intro o0' o1' o2' o3' o4' o5' o6' o7' o8' F' N' ; (try dsimp only at N'); (try k_sweep); (try dsimp only); (try k_fold))
  k_with "my call ref" => (k_here; (with_reducible show wpAny _ _ (call (Value.ref 182) _) _ _ _); k_dflt (refine' Mine.assign_to_call ?h999c4zB ?h999c4zF ?h999c4zX ?h999c4zN ?h999c4zT ?h999c4zk ?h999c4zm ?h999c4zU ?h999c4zd ?h999c4zhx ?h999c4zhc0 ?h999c4zhcl ?h999c4zhl1 ?h999c4zhdp ?h999c4zhun ?_; (case h999c4zB => k_asm); (case h999c4zF => k_asm); (case h999c4zX => k_asm); (case h999c4zN => k_asm); (case h999c4zT => k_asm); (case h999c4zk => first | exact rfl | assumption); (case h999c4zm => k_mem); (case h999c4zU => k_updF); (case h999c4zd => first | assumption | k_extra "my num"); (case h999c4zhx => first | k_extra "my num" | (simp only [List.length_cons] at *; omega)); (case h999c4zhc0 => first | k_extra "my num" | (simp only [List.length_cons] at *; omega)); (case h999c4zhcl => first | k_extra "my num" | (simp only [List.length_cons] at *; omega)); (case h999c4zhl1 => first | k_extra "my num" | (simp only [List.length_cons] at *; omega)); (case h999c4zhdp => k_extra "my room"); (case h999c4zhun => k_extra "my units"); k_whole); intro o0' o1' o2' o3' o4' o5' o6' o7' o8' F' N' ; (try dsimp only at N'); (try k_sweep); (try dsimp only); (try k_fold))
  k_with "my call ref" => (k_here; (with_reducible show wpAny _ _ (call (Value.ref 49) _) _ _ _); k_dflt (refine' Mine.get_current_call ?h7289bzB ?h7289bzF ?h7289bzX ?h7289bzN ?h7289bzT ?h7289bzk ?h7289bzm ?h7289bzU ?h7289bzd ?h7289bzhx ?h7289bzhc0 ?h7289bzhcl ?h7289bzhl1 ?h7289bzhdp ?h7289bzhun ?_; (case h7289bzB => k_asm); (case h7289bzF => k_asm); (case h7289bzX => k_asm); (case h7289bzN => k_asm); (case h7289bzT => k_asm); (case h7289bzk => first | exact rfl | assumption); (case h7289bzm => k_mem); (case h7289bzU => k_updF); (case h7289bzd => first | assumption | k_extra "my num"); (case h7289bzhx => first | k_extra "my num" | (simp only [List.length_cons] at *; omega)); (case h7289bzhc0 => first | k_extra "my num" | (simp only [List.length_cons] at *; omega)); (case h7289bzhcl => first | k_extra "my num" | (simp only [List.length_cons] at *; omega)); (case h7289bzhl1 => first | k_extra "my num" | (simp only [List.length_cons] at *; omega)); (case h7289bzhdp => k_extra "my room"); (case h7289bzhun => k_extra "my units"); k_whole); intro o0' o1' o2' o3' o4' o5' o6' o7' o8' F' N' ; (try dsimp only at N'); (try k_sweep); (try dsimp only); (try k_fold))
  k_with "my call ref" => (k_here; (with_reducible show wpAny _ _ (call (Value.ref 42) _) _ _ _); k_dflt (refine' Mine.set_current_call ?h35306zB ?h35306zF ?h35306zX ?h35306zN ?h35306zT ?h35306zk ?h35306zm ?h35306zU ?h35306zd ?h35306zhg ?h35306zhdp ?h35306zhun ?_; (case h35306zB => k_asm); (case h35306zF => k_asm); (case h35306zX => k_asm); (case h35306zN => k_asm); (case h35306zT => k_asm); (case h35306zk => first | exact rfl | assumption); (case h35306zm => k_mem); (case h35306zU => k_updF); (case h35306zd => first | assumption | k_extra "my num"); (case h35306zhg => first | k_extra "my num" | (simp only [List.length_cons] at *; omega)); (case h35306zhdp => k_extra "my room"); (case h35306zhun => k_extra "my units"); k_whole); intro o0' o1' o2' o3' o4' o5' o6' o7' F' N' ; (try dsimp only at N'); (try k_sweep); (try dsimp only); (try k_fold))
  trivial
theorem slice_del_spec {prog : Program} {w : World} {p : Program} {loose : List Str} {mean : ExcName → Option Value} {mg mb : Str → Option Value}
  {dp un : Nat} {gd : Option (List Code)} {cn : Str} {cs : Scope} {a : Addr} {ccd : Value} {cl : List (Str × Addr)} {outer : List Env} {A₀ : Around} {base h₀ : Heap} {L : Addr} {m : Str → Option Value} {s : Shared} {Q E : Value → Shared → Prop}
  {mx dx : Nat} {H : Nat → Int} {KT : Nat → Tok} {x : Str} {c l lb b k : Int} {τ0 τ1 τ2 τ3 τ4 τ5 : Tok}  {rest : List (Addr × Obj)}
  (B : Below A₀ base outer h₀) (F : Fr h₀ L s.heap m) (X : (hd0.heap_1_1 w.params).In h₀) (N : News h₀ L s.heap ((mx, instObj 199 dx) :: (dx, machD H KT (x) τ0 (c) τ1 (l) τ2 (lb) τ3 (b) τ4 (k) τ5) :: rest)) (T : Top p loose mean mg mb h₀) (hk : cs.kind = .function)
  (hmd : mx ≠ dx) (hr : ∀ p ∈ rest, p.1 ≠ dx) (hx : x.length ≤ 1000) (hc0 : 0 ≤ c) (hcl : c ≤ l) (hl1 : l ≤ x.length) (hb0 : 0 ≤ b) (hbk : b ≤ k) (hkl : k ≤ l) (hdp : dp + 3 < recursionLimit) (hun : un + 24 < cLine)
  (hret : ∀ (c' : Int) (τ0 τ1 τ2 τ3 τ4 τ5 : Tok) (h' : Heap) (tk' : Nat), Fr h₀ L h' m → News h₀ L h' ((mx, instObj 199 dx) :: (dx, machD H KT (Txt.slice x (some 0) (some b) ++ Str.ofString "" ++ Txt.slice x (some k) none) τ0 (c') τ1 (l + ((Str.ofString "").length - (k - b))) τ2 (lb) τ3 (b) τ4 (b + (Str.ofString "").length) τ5) :: rest) → c' = (if k ≤ c then c + ((Str.ofString "").length - (k - b)) else if b < c then b else c) → Q (.none) { s with heap := h', toks := tk' }) :
  wpAny (model prog w) (ktrTop dp un gd cn cs L a ccd cl outer) (call (.ref 161) [.ref mx]) Q E s := by
 exact Mine.quiet _ (type_of% (Mine.aside (by
  refine wpAny_call ?_
  k_dflt ktr_enter
  have hg : (Str.ofString "").length ≤ 1000 := by decide
  k_extra "my steps"
  all_goals exact hret _ _ _ _ _ _ _ _ _ (by k_asm) (by k_asm) (by assumption)
 ) (by exact Nat) _))
theorem slice_del_call {prog : Program} {w : World} {p : Program} {loose : List Str} {mean : ExcName → Option Value} {mg mb : Str → Option Value}
  {dp un : Nat} {gd : Option (List Code)} {cn : Str} {cs : Scope} {a : Addr} {ccd : Value} {cl : List (Str × Addr)} {outer : List Env} {A₀ : Around} {base h₀ : Heap} {L : Addr} {m : Str → Option Value} {s : Shared} {Q E : Value → Shared → Prop}
  {mx dx : Nat} {H : Nat → Int} {KT : Nat → Tok} {x : Str} {c l lb b k : Int} {τ0 τ1 τ2 τ3 τ4 τ5 : Tok}  {news : List (Addr × Obj)} {f : Obj → List (Addr × Obj)}
  (B : Below A₀ base outer h₀) (F : Fr h₀ L s.heap m) (X : (hd0.heap_1_1 w.params).In h₀) (N : News h₀ L s.heap (news)) (T : Top p loose mean mg mb h₀) (hk : cs.kind = .function)
  (hm : (mx, instObj 199 dx) ∈ news) (U : UpdF dx (machD H KT (x) τ0 (c) τ1 (l) τ2 (lb) τ3 (b) τ4 (k) τ5) news f) (hmd : mx ≠ dx) (hx : x.length ≤ 1000) (hc0 : 0 ≤ c) (hcl : c ≤ l) (hl1 : l ≤ x.length) (hb0 : 0 ≤ b) (hbk : b ≤ k) (hkl : k ≤ l) (hdp : dp + 3 < recursionLimit) (hun : un + 24 < cLine)
  (hret : ∀ (c' : Int) (τ0 τ1 τ2 τ3 τ4 τ5 : Tok) (h' : Heap) (tk' : Nat), Fr h₀ L h' m → News h₀ L h' (f (machD H KT (Txt.slice x (some 0) (some b) ++ Str.ofString "" ++ Txt.slice x (some k) none) τ0 (c') τ1 (l + ((Str.ofString "").length - (k - b))) τ2 (lb) τ3 (b) τ4 (b + (Str.ofString "").length) τ5)) → c' = (if k ≤ c then c + ((Str.ofString "").length - (k - b)) else if b < c then b else c) → Q (.none) { s with heap := h', toks := tk' }) :
  wpAny (model prog w) (ktrTop dp un gd cn cs L a ccd cl outer) (call (.ref 161) [.ref mx]) Q E s := by
  obtain ⟨rest, hr, N1, hf, -⟩ := updF_rest N U
  exact slice_del_spec B F X (news_put N hm N1) T hk hmd hr hx hc0 hcl hl1 hb0 hbk hkl hdp hun fun c' τ0 τ1 τ2 τ3 τ4 τ5 h' tk' F' N' e0 => hret c' τ0 τ1 τ2 τ3 τ4 τ5 h' tk' F' (hf _ _ (news_tl N')) e0


theorem words_jRun_4 : True := by
  k_with_none
  k_with "my own k_all" => first | with_reducible assumption | exact Mine.ne_nil9 | exact Mine.off1_D (by with_reducible assumption) | (refine' Mine.ne_cons9 ?h39209a ?h39209b; (case h39209a => k_ne); (case h39209b => k_all)) | exact Mine.ne_allLt (by with_reducible assumption) | assumption | exact Mine.ne_allLt (by assumption) | exact List.forall_mem_nil _ | (refine' List.forall_mem_cons.mpr ⟨?h39209a, ?h39209b⟩; (case h39209a => k_ne); (case h39209b => k_all))
  k_with "my exec If" => refine wpAny_If ?_
  k_with "my subscriptTail" => (k_here; (with_reducible show wpAny _ _ (subscriptTail _ _ (Value.str _ _) (Value.int _ _)) _ _ _); (refine item_str (fitsSsize_of (N := 9223372036854775808) (by omega) (by omega) (Int.le_refl _)) (by omega) (by omega) ?_); intro _)
  k_with "my subscriptTail" => (k_here; (with_reducible show wpAny _ _ (subscriptTail _ (Expr.Slice none none none _) (Value.str _ _) (Value.ref _)) _ _ _); (with_reducible rename Fr _ _ _ _ => F'); (with_reducible rename News _ _ _ _ => N'); (refine slice_strN_nn_len (hsz := ?he93dfhsz) (s := ⟨_, _, _, _, _⟩) F' N' ?_); (case he93dfhsz => (rw [sizeLine_eq]; omega)); intro _ _ _ _ _ _)
  k_with "my subscriptTail" => (k_here; (with_reducible show wpAny _ _ (subscriptTail _ (Expr.Slice none (some _) none _) (Value.str _ _) (Value.ref _)) _ _ _); (with_reducible rename Fr _ _ _ _ => F'); (with_reducible rename News _ _ _ _ => N'); (refine slice_strN_ns_len (hsz := ?h5ee70hsz) (s := ⟨_, _, _, _, _⟩) F' N' ?_); (case h5ee70hsz => (rw [sizeLine_eq]; omega)); intro _ _ _ _ _ _)
  k_with "my subscriptTail" => (k_here; (with_reducible show wpAny _ _ (subscriptTail _ (Expr.Slice (some _) none none _) (Value.str _ _) (Value.ref _)) _ _ _); (with_reducible rename Fr _ _ _ _ => F'); (with_reducible rename News _ _ _ _ => N'); (refine slice_strN_sn_len (hsz := ?habc6bhsz) (s := ⟨_, _, _, _, _⟩) F' N' ?_); (case habc6bhsz => (rw [sizeLine_eq]; omega)); intro _ _ _ _ _ _)
  k_with "my subscriptTail" => (k_here; (with_reducible show wpAny _ _ (subscriptTail _ (Expr.Slice (some _) (some _) none _) (Value.str _ _) (Value.ref _)) _ _ _); (with_reducible rename Fr _ _ _ _ => F'); (with_reducible rename News _ _ _ _ => N'); (refine slice_strN_ss_len (hsz := ?h78793hsz) (s := ⟨_, _, _, _, _⟩) F' N' ?_); (case h78793hsz => (rw [sizeLine_eq]; omega)); intro _ _ _ _ _ _)
  k_with "my subscriptTail Name Constant ref int" => (k_here; k_dflt (refine' Mine.itemLit_K ?h4db2bzN ?h4db2bzm ?h4db2bz0 ?h4db2bzf ?h4db2bzx ?_ ?h4db2bzs ?h4db2bzg; (case h4db2bzN => k_asm); (case h4db2bzm => k_mem); (case h4db2bz0 => decide); (case h4db2bzf => decide); (case h4db2bzx => exact rfl); (case h4db2bzs => with_unfolding_all rfl); (case h4db2bzg => (intro _; with_unfolding_all rfl)); k_whole))
  k_with "my tail" => first | assumption | exact List.mem_append_left _ (by assumption) | exact List.mem_append_right _ (by assumption) | (refine List.mem_cons_of_mem _ ?_; k_extra "my tail")
  k_with "my sub" => first | exact Mine.all_nil | (refine Mine.all_cons ?h63e88zm ?h63e88zr; (case h63e88zm => k_mem); (case h63e88zr => k_extra "my sub")) | (intro p hp; k_extra "my tail")
  k_with "my own k_in" => first | k_in_fast | (refine' Frag.In.keeps ?hc3b53zX ?hc3b53zF; (case hc3b53zF => (refine' Fr.keep ?hc3b53zG; (case hc3b53zG => with_reducible assumption))); (case hc3b53zX => with_reducible assumption)) | assumption
  k_with "my own k_mem" => ((with_reducible show List.Mem _ _); refine Mine.memL ?_; with_reducible assumption)
  k_with "my onestep" => first | ((with_reducible show wpAny _ _ _ _ _ _); walk1) | (k_unfold; (try dsimp only)) | (with_reducible refine' Mine.seqE_last (by with_reducible assumption) ?_) | (with_reducible refine' Mine.seqE_next (by with_reducible assumption) ?_) | (with_reducible refine' Mine.seqE_ret (by with_reducible assumption) ?_) | (with_reducible refine' Mine.seqE_brk (by with_reducible assumption) ?_) | (with_reducible refine' Mine.seqE_cont (by with_reducible assumption) ?_) | (with_reducible refine Mine.nameQ_end (f := (_ : Flow)) (by with_reducible assumption) ?_) | (k_end; wrow_close) | walk1 | (dsimp only; walk1) | (leave1; walk_say "STEP leave1"; try dsimp only)
  k_with "my upto While" => repeat ((fail_if_success (with_reducible show wpAny _ _ (exec (Stmt.While _ _ _ _) _) _ _ _)); k_extra "my onestep")
  k_with "my upto For" => repeat ((fail_if_success (with_reducible show wpAny _ _ (exec (Stmt.For _ _ _ _ _) _) _ _ _)); k_extra "my onestep")
  k_with "my upto iter" => repeat ((fail_if_success (with_reducible show wpAny _ _ (pyIter _) _ _ _)); k_extra "my onestep")
  k_with "my MwPost" => (dsimp only [Mine.MwPost])
  k_with "my noend" => ((fail_if_success (with_reducible show InvEndN _ _ _ _ _ _ _)); (fail_if_success (with_reducible show Mine.CutPost _ _ _ _ _ _ _ _)); (fail_if_success (with_reducible show Mine.MwEnd _ _ _ _ _ _ _ _ _)); (fail_if_success (with_reducible show LCg.CompEnd _ _ _ _ _ _ _ _ _ _ _ _ _ _)); (fail_if_success (with_reducible show KswEnd _ _ _ _ _ _ _ _ _ _ _ _)))
  k_with "my steps" => repeat' (first | ((with_reducible show wpAny _ _ _ _ _ _); walk1) | (k_extra "my noend"; k_extra "my onestep"))
  k_with "my upto CompSrc" => repeat ((fail_if_success (with_reducible show LCg.CompSrc _ _ _ _ _ _ _ _ _ _ _ _ _ _)); (fail_if_success (with_reducible show LCt.CompSrcT _ _ _ _ _ _ _ _ _ _ _ _ _ _ _)); k_extra "my onestep")
  k_with "my own k_ne" => first | with_reducible (first | assumption | exact Mine.cjg4 (by with_reducible assumption) | exact Mine.cjg3 (by with_reducible assumption) | exact Ne.symm (by assumption) | exact Mine.gt_ne0 (by assumption) | exact Mine.s_ne1 | exact Mine.r_ne1 | exact Mine.lt_ne1 (by assumption) | exact Mine.gt_ne1 (by assumption) | exact Mine.s_ne2 | exact Mine.r_ne2 | exact Mine.lt_ne2 (by assumption) | exact Mine.gt_ne2 (by assumption) | exact Mine.r_ne3 | exact Mine.lt_ne3 (by assumption) | exact Mine.gt_ne3 (by assumption) | exact Mine.lt_ne4 (by assumption) | exact Mine.gt_ne4 (by assumption)) | exact Mine.off3_i1 (by with_reducible assumption) (by k_mem) | exact Mine.off3_c1 (by with_reducible assumption) (by k_mem) | exact Mine.off3_d1 (by with_reducible assumption) (by k_mem) | exact Mine.off1_d1 (by with_reducible assumption) (by k_mem) | exact Mine.ltm_0 (by with_reducible assumption) (by k_mem) | exact Mine.ltm_1 (by with_reducible assumption) (by k_mem) | exact Mine.nem_1 (by with_reducible assumption) (by k_mem) | with_reducible (first | exact Mine.cjl0 (by with_reducible assumption) | exact Mine.cjl1 (by with_reducible assumption) | exact Mine.cjg1 (by with_reducible assumption) | exact Mine.cjl2e (by with_reducible assumption) | exact Mine.cjg2 (by with_reducible assumption) | exact Mine.cjg3 (by with_reducible assumption) | exact Mine.cjg4 (by with_reducible assumption) | exact Mine.cjg6 (by with_reducible assumption) | exact Mine.cjg7 (by with_reducible assumption)) | (refine neN ?_; (try dsimp only); first | omega (config := { splitDisjunctions := false }) | (walk_say "NECONJ"; (repeat (with_reducible rename _ ∧ _ => hcj; obtain ⟨_, _⟩ := hcj)); first | with_reducible assumption | (refine Ne.symm ?_; with_reducible assumption)))
  k_with "my kall1" => first | exact Mine.all_nil | (refine Mine.all_cons ?h6bfabzm ?h6bfabzr; (case h6bfabzm => with_unfolding_all (first | (k_whole; exact Eq.refl (some _)) | rfl)); (case h6bfabzr => k_extra "my kall1"))
  k_with "my kall" => first | (k_whole; k_extra "my kall1") | ((try dsimp only) <;> (k_extra "my kall1"))
  k_with "my cut" => repeat (obtain ⟨hcA, hcj⟩ : _ ∧ _ := hcj; (try (obtain ⟨_, hcA⟩ : _ ∧ _ := hcA; (try (obtain ⟨_, _⟩ : _ ∧ _ := hcA)))))
  k_with "my room" => first | with_reducible assumption | exact Mine.off2 (by with_reducible assumption) (by exact Eq.refl true) | ktr_room
  k_with "my units" => first | with_reducible assumption | exact Mine.off2 (by with_reducible assumption) (by exact Eq.refl true) | ktr_units
  k_with "my num" => first | (k_whole; with_reducible (first | assumption | (show (_ : Int) < _; first | exact Mine.nm_b (by with_reducible assumption) (by with_unfolding_all exact Eq.refl true) | exact Mine.nm_a (by with_reducible assumption) (by with_unfolding_all exact Eq.refl true) | exact Mine.nc_a (by with_reducible assumption) (by with_unfolding_all exact Eq.refl true) | exact Mine.no_a4 (by with_reducible assumption) (by with_unfolding_all exact Eq.refl true) | exact Mine.no_a3 (by with_reducible assumption) (by with_unfolding_all exact Eq.refl true) | exact Mine.no_a2 (by with_reducible assumption) (by with_unfolding_all exact Eq.refl true) | exact Mine.no_a1 (by with_reducible assumption) (by with_unfolding_all exact Eq.refl true)) | (show (_ : Int) ≤ _; first | exact Mine.no_c2 (by with_reducible assumption) (by with_unfolding_all exact Eq.refl true) | exact Mine.no_e2 (by with_unfolding_all exact Eq.refl true) | exact Mine.nm_e (by with_reducible assumption) (by with_unfolding_all exact Eq.refl true) | exact Mine.nm_c (by with_reducible assumption) (by with_unfolding_all exact Eq.refl true) | exact Mine.nc_c (by with_reducible assumption) (by with_unfolding_all exact Eq.refl true) | exact Mine.nc_e (by with_unfolding_all exact Eq.refl true) | exact Mine.nz_e (by with_unfolding_all exact Eq.refl true) | exact Mine.no_c5 (by with_reducible assumption) (by with_unfolding_all exact Eq.refl true) | exact Mine.no_c4 (by with_reducible assumption) (by with_unfolding_all exact Eq.refl true) | exact Mine.no_c3 (by with_reducible assumption) (by with_unfolding_all exact Eq.refl true) | exact Mine.no_c1 (by with_reducible assumption) (by with_unfolding_all exact Eq.refl true) | exact Mine.no_e5 (by with_unfolding_all exact Eq.refl true) | exact Mine.no_e4 (by with_unfolding_all exact Eq.refl true) | exact Mine.no_e3 (by with_unfolding_all exact Eq.refl true) | exact Mine.no_g3 (by with_reducible assumption) (by with_unfolding_all exact Eq.refl true) | exact Mine.no_g2 (by with_reducible assumption) (by with_unfolding_all exact Eq.refl true) | exact Mine.no_g1 (by with_reducible assumption) (by with_unfolding_all exact Eq.refl true)) | (show (_ : Nat) < _; first | exact Mine.nn_b (by with_reducible assumption) (by with_unfolding_all exact Eq.refl true)) | (show (_ : Nat) ≤ _; first | exact Mine.nn_c (by with_reducible assumption) (by with_unfolding_all exact Eq.refl true) | exact Mine.nle_1 | exact Mine.nle_2 | exact Mine.nle_3 | exact Mine.nle_4))) | (decide +kernel) | omega
  k_with "my ev name" => first | (refine' Mine.ev_L ?h6e1a0F ?h6e1a0k ?h6e1a0x ?h6e1a0v ?h6e1a0d; (case h6e1a0x => rfl); (case h6e1a0F => k_asm); (case h6e1a0k => first | exact rfl | assumption); (case h6e1a0v => exact Eq.refl (some _)); (case h6e1a0d => decide)) | (refine' Mine.ev_C ?h6e1a0N ?h6e1a0k ?h6e1a0x ?h6e1a0c ?h6e1a0m ?h6e1a0o ?h6e1a0d; (case h6e1a0k => first | exact rfl | assumption); (case h6e1a0x => rfl); (case h6e1a0N => k_asm); (case h6e1a0c => rfl); (case h6e1a0m => k_mem); (case h6e1a0o => k_asm); (case h6e1a0d => decide))
  k_with "my ev0" => first | (with_reducible exact Mine.ev_int) | ((with_reducible refine' Mine.ev_L ?h84e4cF ?h84e4ck ?h84e4cx ?h84e4cv ?h84e4cd); (case h84e4cx => rfl); (case h84e4cF => k_asm); (case h84e4ck => first | exact rfl | assumption); (case h84e4cv => exact Eq.refl (some _)); (case h84e4cd => decide)) | ((with_reducible refine' Mine.ev_attr ?h84e4cF ?h84e4cX ?h84e4cH ?h84e4cI ?h84e4cg ?h84e4ch ?h84e4ca ?h84e4cn ?h84e4cl ?h84e4cv); (case h84e4cF => k_asm); (case h84e4cX => k_asm); (case h84e4cH => k_extra "my ev name"); (case h84e4cI => k_inst); (case h84e4cg => k_is); (case h84e4ch => k_is); (case h84e4ca => k_is); (case h84e4cn => k_is); (case h84e4cl => k_get); (case h84e4cv => k_handed)) | ((with_reducible refine' Mine.ev_item ?h84e4cN ?h84e4cH ?h84e4cm ?h84e4cz ?h84e4cx); (case h84e4cN => k_asm); (case h84e4cH => k_extra "my ev name"); (case h84e4cm => k_mem); (case h84e4cz => exact rfl); (case h84e4cx => exact rfl)) | ((with_reducible refine' Mine.ev_add ?h84e4cx ?h84e4cy); (case h84e4cx => k_extra "my ev1"); (case h84e4cy => k_extra "my ev1")) | ((with_reducible refine' Mine.ev_sub ?h84e4cx ?h84e4cy); (case h84e4cx => k_extra "my ev1"); (case h84e4cy => k_extra "my ev1")) | ((with_reducible refine' Mine.ev_eq ?h84e4cx ?h84e4cy ?h84e4cz); (case h84e4cx => k_extra "my ev1"); (case h84e4cy => k_extra "my ev1"); (case h84e4cz => with_unfolding_all rfl)) | ((with_reducible refine' Mine.ev_ne ?h84e4cx ?h84e4cy ?h84e4cz); (case h84e4cx => k_extra "my ev1"); (case h84e4cy => k_extra "my ev1"); (case h84e4cz => with_unfolding_all rfl)) | ((with_reducible refine' Mine.ev_lt ?h84e4cx ?h84e4cy ?h84e4cz); (case h84e4cx => k_extra "my ev1"); (case h84e4cy => k_extra "my ev1"); (case h84e4cz => with_unfolding_all rfl)) | ((with_reducible refine' Mine.ev_le ?h84e4cx ?h84e4cy ?h84e4cz); (case h84e4cx => k_extra "my ev1"); (case h84e4cy => k_extra "my ev1"); (case h84e4cz => with_unfolding_all rfl)) | ((with_reducible refine' Mine.ev_gt ?h84e4cx ?h84e4cy ?h84e4cz); (case h84e4cx => k_extra "my ev1"); (case h84e4cy => k_extra "my ev1"); (case h84e4cz => with_unfolding_all rfl)) | ((with_reducible refine' Mine.ev_ge ?h84e4cx ?h84e4cy ?h84e4cz); (case h84e4cx => k_extra "my ev1"); (case h84e4cy => k_extra "my ev1"); (case h84e4cz => with_unfolding_all rfl)) | ((with_reducible refine' Mine.ev_C ?h84e4cN ?h84e4ck ?h84e4cx ?h84e4cc ?h84e4cm ?h84e4co ?h84e4cd); (case h84e4cx => rfl); (case h84e4ck => first | exact rfl | assumption); (case h84e4cN => k_asm); (case h84e4cc => rfl); (case h84e4cm => k_mem); (case h84e4co => k_asm); (case h84e4cd => decide)) | (with_reducible exact Mine.ev_str) | (with_reducible exact Mine.ev_bool) | (with_reducible exact Mine.ev_none)
  k_with "my ev1" => first | (with_reducible exact Mine.ev_int) | ((with_reducible refine' Mine.ev_L ?h1cd45F ?h1cd45k ?h1cd45x ?h1cd45v ?h1cd45d); (case h1cd45x => rfl); (case h1cd45F => k_asm); (case h1cd45k => first | exact rfl | assumption); (case h1cd45v => exact Eq.refl (some _)); (case h1cd45d => decide)) | ((with_reducible refine' Mine.ev_attr ?h1cd45F ?h1cd45X ?h1cd45H ?h1cd45I ?h1cd45g ?h1cd45h ?h1cd45a ?h1cd45n ?h1cd45l ?h1cd45v); (case h1cd45F => k_asm); (case h1cd45X => k_asm); (case h1cd45H => k_extra "my ev name"); (case h1cd45I => k_inst); (case h1cd45g => k_is); (case h1cd45h => k_is); (case h1cd45a => k_is); (case h1cd45n => k_is); (case h1cd45l => k_get); (case h1cd45v => k_handed)) | ((with_reducible refine' Mine.ev_item ?h1cd45N ?h1cd45H ?h1cd45m ?h1cd45z ?h1cd45x); (case h1cd45N => k_asm); (case h1cd45H => k_extra "my ev name"); (case h1cd45m => k_mem); (case h1cd45z => exact rfl); (case h1cd45x => exact rfl)) | ((with_reducible refine' Mine.ev_add ?h1cd45x ?h1cd45y); (case h1cd45x => k_extra "my ev2"); (case h1cd45y => k_extra "my ev2")) | ((with_reducible refine' Mine.ev_sub ?h1cd45x ?h1cd45y); (case h1cd45x => k_extra "my ev2"); (case h1cd45y => k_extra "my ev2")) | ((with_reducible refine' Mine.ev_eq ?h1cd45x ?h1cd45y ?h1cd45z); (case h1cd45x => k_extra "my ev2"); (case h1cd45y => k_extra "my ev2"); (case h1cd45z => with_unfolding_all rfl)) | ((with_reducible refine' Mine.ev_ne ?h1cd45x ?h1cd45y ?h1cd45z); (case h1cd45x => k_extra "my ev2"); (case h1cd45y => k_extra "my ev2"); (case h1cd45z => with_unfolding_all rfl)) | ((with_reducible refine' Mine.ev_lt ?h1cd45x ?h1cd45y ?h1cd45z); (case h1cd45x => k_extra "my ev2"); (case h1cd45y => k_extra "my ev2"); (case h1cd45z => with_unfolding_all rfl)) | ((with_reducible refine' Mine.ev_le ?h1cd45x ?h1cd45y ?h1cd45z); (case h1cd45x => k_extra "my ev2"); (case h1cd45y => k_extra "my ev2"); (case h1cd45z => with_unfolding_all rfl)) | ((with_reducible refine' Mine.ev_gt ?h1cd45x ?h1cd45y ?h1cd45z); (case h1cd45x => k_extra "my ev2"); (case h1cd45y => k_extra "my ev2"); (case h1cd45z => with_unfolding_all rfl)) | ((with_reducible refine' Mine.ev_ge ?h1cd45x ?h1cd45y ?h1cd45z); (case h1cd45x => k_extra "my ev2"); (case h1cd45y => k_extra "my ev2"); (case h1cd45z => with_unfolding_all rfl)) | ((with_reducible refine' Mine.ev_C ?h1cd45N ?h1cd45k ?h1cd45x ?h1cd45c ?h1cd45m ?h1cd45o ?h1cd45d); (case h1cd45x => rfl); (case h1cd45k => first | exact rfl | assumption); (case h1cd45N => k_asm); (case h1cd45c => rfl); (case h1cd45m => k_mem); (case h1cd45o => k_asm); (case h1cd45d => decide)) | (with_reducible exact Mine.ev_str) | (with_reducible exact Mine.ev_bool) | (with_reducible exact Mine.ev_none)
  k_with "my ev2" => first | (with_reducible exact Mine.ev_int) | ((with_reducible refine' Mine.ev_L ?hdef3bF ?hdef3bk ?hdef3bx ?hdef3bv ?hdef3bd); (case hdef3bx => rfl); (case hdef3bF => k_asm); (case hdef3bk => first | exact rfl | assumption); (case hdef3bv => exact Eq.refl (some _)); (case hdef3bd => decide)) | ((with_reducible refine' Mine.ev_attr ?hdef3bF ?hdef3bX ?hdef3bH ?hdef3bI ?hdef3bg ?hdef3bh ?hdef3ba ?hdef3bn ?hdef3bl ?hdef3bv); (case hdef3bF => k_asm); (case hdef3bX => k_asm); (case hdef3bH => k_extra "my ev name"); (case hdef3bI => k_inst); (case hdef3bg => k_is); (case hdef3bh => k_is); (case hdef3ba => k_is); (case hdef3bn => k_is); (case hdef3bl => k_get); (case hdef3bv => k_handed)) | ((with_reducible refine' Mine.ev_item ?hdef3bN ?hdef3bH ?hdef3bm ?hdef3bz ?hdef3bx); (case hdef3bN => k_asm); (case hdef3bH => k_extra "my ev name"); (case hdef3bm => k_mem); (case hdef3bz => exact rfl); (case hdef3bx => exact rfl)) | ((with_reducible refine' Mine.ev_add ?hdef3bx ?hdef3by); (case hdef3bx => k_extra "my ev3"); (case hdef3by => k_extra "my ev3")) | ((with_reducible refine' Mine.ev_sub ?hdef3bx ?hdef3by); (case hdef3bx => k_extra "my ev3"); (case hdef3by => k_extra "my ev3")) | ((with_reducible refine' Mine.ev_eq ?hdef3bx ?hdef3by ?hdef3bz); (case hdef3bx => k_extra "my ev3"); (case hdef3by => k_extra "my ev3"); (case hdef3bz => with_unfolding_all rfl)) | ((with_reducible refine' Mine.ev_ne ?hdef3bx ?hdef3by ?hdef3bz); (case hdef3bx => k_extra "my ev3"); (case hdef3by => k_extra "my ev3"); (case hdef3bz => with_unfolding_all rfl)) | ((with_reducible refine' Mine.ev_lt ?hdef3bx ?hdef3by ?hdef3bz); (case hdef3bx => k_extra "my ev3"); (case hdef3by => k_extra "my ev3"); (case hdef3bz => with_unfolding_all rfl)) | ((with_reducible refine' Mine.ev_le ?hdef3bx ?hdef3by ?hdef3bz); (case hdef3bx => k_extra "my ev3"); (case hdef3by => k_extra "my ev3"); (case hdef3bz => with_unfolding_all rfl)) | ((with_reducible refine' Mine.ev_gt ?hdef3bx ?hdef3by ?hdef3bz); (case hdef3bx => k_extra "my ev3"); (case hdef3by => k_extra "my ev3"); (case hdef3bz => with_unfolding_all rfl)) | ((with_reducible refine' Mine.ev_ge ?hdef3bx ?hdef3by ?hdef3bz); (case hdef3bx => k_extra "my ev3"); (case hdef3by => k_extra "my ev3"); (case hdef3bz => with_unfolding_all rfl)) | ((with_reducible refine' Mine.ev_C ?hdef3bN ?hdef3bk ?hdef3bx ?hdef3bc ?hdef3bm ?hdef3bo ?hdef3bd); (case hdef3bx => rfl); (case hdef3bk => first | exact rfl | assumption); (case hdef3bN => k_asm); (case hdef3bc => rfl); (case hdef3bm => k_mem); (case hdef3bo => k_asm); (case hdef3bd => decide)) | (with_reducible exact Mine.ev_str) | (with_reducible exact Mine.ev_bool) | (with_reducible exact Mine.ev_none)
  k_with "my ev3" => first | (with_reducible exact Mine.ev_int) | ((with_reducible refine' Mine.ev_L ?h1a33cF ?h1a33ck ?h1a33cx ?h1a33cv ?h1a33cd); (case h1a33cx => rfl); (case h1a33cF => k_asm); (case h1a33ck => first | exact rfl | assumption); (case h1a33cv => exact Eq.refl (some _)); (case h1a33cd => decide)) | ((with_reducible refine' Mine.ev_attr ?h1a33cF ?h1a33cX ?h1a33cH ?h1a33cI ?h1a33cg ?h1a33ch ?h1a33ca ?h1a33cn ?h1a33cl ?h1a33cv); (case h1a33cF => k_asm); (case h1a33cX => k_asm); (case h1a33cH => k_extra "my ev name"); (case h1a33cI => k_inst); (case h1a33cg => k_is); (case h1a33ch => k_is); (case h1a33ca => k_is); (case h1a33cn => k_is); (case h1a33cl => k_get); (case h1a33cv => k_handed)) | ((with_reducible refine' Mine.ev_item ?h1a33cN ?h1a33cH ?h1a33cm ?h1a33cz ?h1a33cx); (case h1a33cN => k_asm); (case h1a33cH => k_extra "my ev name"); (case h1a33cm => k_mem); (case h1a33cz => exact rfl); (case h1a33cx => exact rfl)) | ((with_reducible refine' Mine.ev_add ?h1a33cx ?h1a33cy); (case h1a33cx => k_extra "my ev4"); (case h1a33cy => k_extra "my ev4")) | ((with_reducible refine' Mine.ev_sub ?h1a33cx ?h1a33cy); (case h1a33cx => k_extra "my ev4"); (case h1a33cy => k_extra "my ev4")) | ((with_reducible refine' Mine.ev_eq ?h1a33cx ?h1a33cy ?h1a33cz); (case h1a33cx => k_extra "my ev4"); (case h1a33cy => k_extra "my ev4"); (case h1a33cz => with_unfolding_all rfl)) | ((with_reducible refine' Mine.ev_ne ?h1a33cx ?h1a33cy ?h1a33cz); (case h1a33cx => k_extra "my ev4"); (case h1a33cy => k_extra "my ev4"); (case h1a33cz => with_unfolding_all rfl)) | ((with_reducible refine' Mine.ev_lt ?h1a33cx ?h1a33cy ?h1a33cz); (case h1a33cx => k_extra "my ev4"); (case h1a33cy => k_extra "my ev4"); (case h1a33cz => with_unfolding_all rfl)) | ((with_reducible refine' Mine.ev_le ?h1a33cx ?h1a33cy ?h1a33cz); (case h1a33cx => k_extra "my ev4"); (case h1a33cy => k_extra "my ev4"); (case h1a33cz => with_unfolding_all rfl)) | ((with_reducible refine' Mine.ev_gt ?h1a33cx ?h1a33cy ?h1a33cz); (case h1a33cx => k_extra "my ev4"); (case h1a33cy => k_extra "my ev4"); (case h1a33cz => with_unfolding_all rfl)) | ((with_reducible refine' Mine.ev_ge ?h1a33cx ?h1a33cy ?h1a33cz); (case h1a33cx => k_extra "my ev4"); (case h1a33cy => k_extra "my ev4"); (case h1a33cz => with_unfolding_all rfl)) | ((with_reducible refine' Mine.ev_C ?h1a33cN ?h1a33ck ?h1a33cx ?h1a33cc ?h1a33cm ?h1a33co ?h1a33cd); (case h1a33cx => rfl); (case h1a33ck => first | exact rfl | assumption); (case h1a33cN => k_asm); (case h1a33cc => rfl); (case h1a33cm => k_mem); (case h1a33co => k_asm); (case h1a33cd => decide)) | (with_reducible exact Mine.ev_str) | (with_reducible exact Mine.ev_bool) | (with_reducible exact Mine.ev_none)
  k_with "my ev4" => first | (with_reducible exact Mine.ev_int) | ((with_reducible refine' Mine.ev_L ?hb89ebF ?hb89ebk ?hb89ebx ?hb89ebv ?hb89ebd); (case hb89ebx => rfl); (case hb89ebF => k_asm); (case hb89ebk => first | exact rfl | assumption); (case hb89ebv => exact Eq.refl (some _)); (case hb89ebd => decide)) | ((with_reducible refine' Mine.ev_attr ?hb89ebF ?hb89ebX ?hb89ebH ?hb89ebI ?hb89ebg ?hb89ebh ?hb89eba ?hb89ebn ?hb89ebl ?hb89ebv); (case hb89ebF => k_asm); (case hb89ebX => k_asm); (case hb89ebH => k_extra "my ev name"); (case hb89ebI => k_inst); (case hb89ebg => k_is); (case hb89ebh => k_is); (case hb89eba => k_is); (case hb89ebn => k_is); (case hb89ebl => k_get); (case hb89ebv => k_handed)) | ((with_reducible refine' Mine.ev_item ?hb89ebN ?hb89ebH ?hb89ebm ?hb89ebz ?hb89ebx); (case hb89ebN => k_asm); (case hb89ebH => k_extra "my ev name"); (case hb89ebm => k_mem); (case hb89ebz => exact rfl); (case hb89ebx => exact rfl)) | ((with_reducible refine' Mine.ev_add ?hb89ebx ?hb89eby); (case hb89ebx => k_extra "my ev5"); (case hb89eby => k_extra "my ev5")) | ((with_reducible refine' Mine.ev_sub ?hb89ebx ?hb89eby); (case hb89ebx => k_extra "my ev5"); (case hb89eby => k_extra "my ev5")) | ((with_reducible refine' Mine.ev_eq ?hb89ebx ?hb89eby ?hb89ebz); (case hb89ebx => k_extra "my ev5"); (case hb89eby => k_extra "my ev5"); (case hb89ebz => with_unfolding_all rfl)) | ((with_reducible refine' Mine.ev_ne ?hb89ebx ?hb89eby ?hb89ebz); (case hb89ebx => k_extra "my ev5"); (case hb89eby => k_extra "my ev5"); (case hb89ebz => with_unfolding_all rfl)) | ((with_reducible refine' Mine.ev_lt ?hb89ebx ?hb89eby ?hb89ebz); (case hb89ebx => k_extra "my ev5"); (case hb89eby => k_extra "my ev5"); (case hb89ebz => with_unfolding_all rfl)) | ((with_reducible refine' Mine.ev_le ?hb89ebx ?hb89eby ?hb89ebz); (case hb89ebx => k_extra "my ev5"); (case hb89eby => k_extra "my ev5"); (case hb89ebz => with_unfolding_all rfl)) | ((with_reducible refine' Mine.ev_gt ?hb89ebx ?hb89eby ?hb89ebz); (case hb89ebx => k_extra "my ev5"); (case hb89eby => k_extra "my ev5"); (case hb89ebz => with_unfolding_all rfl)) | ((with_reducible refine' Mine.ev_ge ?hb89ebx ?hb89eby ?hb89ebz); (case hb89ebx => k_extra "my ev5"); (case hb89eby => k_extra "my ev5"); (case hb89ebz => with_unfolding_all rfl)) | ((with_reducible refine' Mine.ev_C ?hb89ebN ?hb89ebk ?hb89ebx ?hb89ebc ?hb89ebm ?hb89ebo ?hb89ebd); (case hb89ebx => rfl); (case hb89ebk => first | exact rfl | assumption); (case hb89ebN => k_asm); (case hb89ebc => rfl); (case hb89ebm => k_mem); (case hb89ebo => k_asm); (case hb89ebd => decide)) | (with_reducible exact Mine.ev_str) | (with_reducible exact Mine.ev_bool) | (with_reducible exact Mine.ev_none)
  k_with "my evs" => first | (with_reducible exact Mine.evs_nil) | ((with_reducible refine' Mine.evs_cons ?h3ebe4x ?h3ebe4y ?h3ebe4z); (case h3ebe4x => k_extra "my ev0"); (case h3ebe4y => k_extra "my evs"); (case h3ebe4z => rfl))
  k_with "my execs cons" => (k_here; (try ((first | (with_reducible show wpAny _ _ _ (Mine.MwPost _ _ _ _ _ _ _ _ _) _ _) | (with_reducible show wpAny _ _ _ (Mine.MrPost _ _ _ _ _ _ _ _ _) _ _) | (with_reducible show wpAny _ _ _ (InvPostN _ _ _ _ _ _ _) _ _) | (with_reducible show wpAny _ _ _ (KswPost _ _ _ _ _ _ _ _ _ _ _ _) _ _)); refine Mine.nameQ ?_; intro Qn hQn)); (with_reducible refine Mine.execs_seqE ?_); intro Qk hQk)
  k_with "my eval Name" => (k_here; k_dflt (first | (refine' nameX_L ?hfde63F ?hfde63v ?_ ?hfde63a ?hfde63b; (case hfde63b => rfl); (case hfde63F => k_asm); (case hfde63a => rfl); (case hfde63v => exact Eq.refl (some _)); k_whole) | (refine' nameX_K ?hfde63F ?hfde63X ?hfde63T ?hfde63e ?_ ?hfde63a ?hfde63b; (case hfde63b => rfl); (case hfde63F => k_asm); (case hfde63X => k_asm); (case hfde63T => k_asm); (case hfde63a => rfl); (case hfde63e => k_is); k_whole) | (refine' nameX_B ?hfde63F ?hfde63X ?hfde63T ?hfde63e ?hfde63v ?hfde63n ?_ ?hfde63a ?hfde63b; (case hfde63b => rfl); (case hfde63F => k_asm); (case hfde63X => k_asm); (case hfde63T => k_asm); (case hfde63a => rfl); (case hfde63e => k_is); (case hfde63v => boot_fast); (case hfde63n => decide); k_whole)))
  k_with "my eval BinOp" => (k_here; k_dflt (refine' Mine.ev_use ?hcbeddu ?_; (case hcbeddu => k_extra "my ev0"); k_whole); (try dsimp only))
  k_with "my eval Compare" => (k_here; k_dflt (refine' Mine.ev_use ?h28b78u ?_; (case h28b78u => k_extra "my ev0"); k_whole); (try dsimp only))
  k_with "my eval Subscript" => (k_here; k_dflt (refine' Mine.ev_use ?h772c3u ?_; (case h772c3u => k_extra "my ev0"); k_whole); (try dsimp only))
  k_with "my eval Attribute Name" => (k_here; k_dflt (refine' Mine.ev_use ?he290du ?_; (case he290du => k_extra "my ev0"); k_whole); (try dsimp only))
  k_with "my spliced" => (k_here; (with_reducible show wpAny _ _ (spliced (backTo _ (starEach (_ :: _) _))) _ _ _); k_dflt (refine' Mine.evs_use ?hf8b0eu ?_; (case hf8b0eu => k_extra "my evs"); k_whole); (try dsimp only))
  k_with "my isTrue Compare" => (k_here; k_dflt (first | ((with_reducible refine' Mine.ist_eq ?hdb5ccx ?hdb5ccy ?hdb5ccz ?_); (case hdb5ccx => k_extra "my ev0"); (case hdb5ccy => k_extra "my ev0"); (case hdb5ccz => with_unfolding_all rfl); k_whole) | ((with_reducible refine' Mine.ist_ne ?hdb5ccx ?hdb5ccy ?hdb5ccz ?_); (case hdb5ccx => k_extra "my ev0"); (case hdb5ccy => k_extra "my ev0"); (case hdb5ccz => with_unfolding_all rfl); k_whole) | ((with_reducible refine' Mine.ist_lt ?hdb5ccx ?hdb5ccy ?hdb5ccz ?_); (case hdb5ccx => k_extra "my ev0"); (case hdb5ccy => k_extra "my ev0"); (case hdb5ccz => with_unfolding_all rfl); k_whole) | ((with_reducible refine' Mine.ist_le ?hdb5ccx ?hdb5ccy ?hdb5ccz ?_); (case hdb5ccx => k_extra "my ev0"); (case hdb5ccy => k_extra "my ev0"); (case hdb5ccz => with_unfolding_all rfl); k_whole) | ((with_reducible refine' Mine.ist_gt ?hdb5ccx ?hdb5ccy ?hdb5ccz ?_); (case hdb5ccx => k_extra "my ev0"); (case hdb5ccy => k_extra "my ev0"); (case hdb5ccz => with_unfolding_all rfl); k_whole) | ((with_reducible refine' Mine.ist_ge ?hdb5ccx ?hdb5ccy ?hdb5ccz ?_); (case hdb5ccx => k_extra "my ev0"); (case hdb5ccy => k_extra "my ev0"); (case hdb5ccz => with_unfolding_all rfl); k_whole)); (try dsimp only))
  k_with "my call type:list" => (k_here; (with_reducible show wpAny _ _ (call (Value.type _) [Value.str _ _]) _ _ _); k_dflt (refine' Mine.listStr_K ?h1c1ddzh ?h1c1ddzF ?h1c1ddzN ?h1c1ddzs ?_; (case h1c1ddzh => exact rfl); (case h1c1ddzF => k_asm); (case h1c1ddzN => k_asm); (case h1c1ddzs => (rw [sizeLine_eq]; omega)); k_whole); intro h' tk' vs' n' F' N' l1 hS'; (have hltm := l1); (try k_lt l1); (try k_sweep))
  k_with "my call builtin:len" => (k_here; (with_reducible show wpAny _ _ (call (Value.builtin "len") [Value.ref _]) _ _ _); k_dflt (refine' Mine.lenStrs_K ?h9c18czN ?h9c18czm ?h9c18czi ?h9c18czf ?_; (case h9c18czN => k_asm); (case h9c18czm => k_mem); (case h9c18czi => with_reducible assumption); (case h9c18czf => omega); k_whole))
  k_with "my subscriptTail" => (k_here; (with_reducible show wpAny _ _ (subscriptTail _ _ (Value.ref _) (Value.int _ _)) _ _ _); k_dflt (refine' Mine.itemStrs_K ?hda686zN ?hda686zm ?hda686zi ?hda686z0 ?hda686z1 ?hda686zf ?_ ?hda686zs ?hda686zg; (case hda686zN => k_asm); (case hda686zm => k_mem); (case hda686zi => with_reducible assumption); (case hda686z0 => omega); (case hda686z1 => omega); (case hda686zf => omega); (case hda686zs => with_unfolding_all rfl); (case hda686zg => (intro _; with_unfolding_all rfl)); k_whole); intro _)
  k_with "my subscriptTail Name Slice ref ref" => (k_here; (with_reducible show wpAny _ _ (subscriptTail _ (PySem.Expr.Slice none none (some _) _) (Value.ref _) (Value.ref _)) _ _ _); k_dflt (refine' Mine.revStrs_K ?hab3ffF ?hab3ffN ?hab3ffm ?hab3ffk ?hab3ffi ?hab3ffy ?_ ?hab3ffs ?hab3fft; (case hab3ffF => k_asm); (case hab3ffN => k_asm); (case hab3ffm => k_mem); (case hab3ffk => exact IsPart.int _ _); (case hab3ffi => first | with_reducible assumption | exact StrsAre.nil); (case hab3ffy => first | omega | (simp only [PyProof.Rows.signs_length, List.length_nil] at *; omega)); (case hab3ffs => with_unfolding_all rfl); (case hab3fft => kmk_pure)); intro D' ws' h' F' N' l1 hS'; (have hltm := l1); (try k_lt l1); (try k_sweep))
  trivial
def RunIs (ys : List Str) (g : Str) (ins once : Bool) (run : Int) (due : Bool) : Prop :=
  if once then (due = true ∧ run = 1 ∧ 0 < ys.length ∧ Txt.contains g (ys.getD 0 Str.empty) = ins) ∨ (due = false ∧ run = 0 ∧ (ys.length = 0 ∨ Txt.contains g (ys.getD 0 Str.empty) = !ins))
  else 0 ≤ run ∧ run ≤ ys.length ∧ (∀ i : Int, 0 ≤ i → i < run → Txt.contains g (ys.getD i.toNat Str.empty) = ins) ∧ due = decide (run < ys.length) ∧ (run < ys.length → Txt.contains g (ys.getD run.toNat Str.empty) = !ins)
theorem run1 {ys : List Str} {g : Str} {ins once : Bool} (ho : once = true) (h : (0 : Int) < ys.length) :
    RunIs ys g ins once (if ((!(Builtin.Str.occurrences g (ys.getD (Int.toNat 0) Str.empty) 0 g.length 1).isEmpty) == ins) = true then 1 else 0) ((!(Builtin.Str.occurrences g (ys.getD (Int.toNat 0) Str.empty) 0 g.length 1).isEmpty) == ins) := by
  subst ho
  show RunIs ys g ins true (if (Txt.contains g (ys.getD 0 Str.empty) == ins) = true then 1 else 0) (Txt.contains g (ys.getD 0 Str.empty) == ins)
  unfold RunIs
  cases Txt.contains g (ys.getD 0 Str.empty) <;> cases ins <;> simp <;> omega
theorem run2 {ys : List Str} {g : Str} {ins once : Bool} (ho : once = true) (h : ¬ (0 : Int) < ys.length) : RunIs ys g ins once (if decide ((0 : Int) < ys.length) = true then 1 else 0) (decide ((0 : Int) < ys.length)) := by
 exact Mine.quiet _ (type_of% (Mine.aside (by
  subst ho
  unfold RunIs
  have : ys.length = 0 := by k_extra "my num"
  simp [this]
 ) (by exact Nat) _))
theorem eqb_to {g y : Str} {ins : Bool} (h : ((!(Builtin.Str.occurrences g y 0 g.length 1).isEmpty) == ins) = true) : Txt.contains g y = ins := by
  have : (Txt.contains g y == ins) = true := h
  simpa using this
theorem neb_to {g y : Str} {ins : Bool} (h : ((!(Builtin.Str.occurrences g y 0 g.length 1).isEmpty) == ins) = false) : Txt.contains g y = !ins := by
  have : (Txt.contains g y == ins) = false := h
  cases ins <;> simpa using this
theorem run3 {ys : List Str} {g : Str} {ins once : Bool} {a : Int} (ho : once = false) (h0 : 0 ≤ a) (h1 : a ≤ ys.length) (hi : ∀ i : Int, 0 ≤ i → i < a → Txt.contains g (ys.getD i.toNat Str.empty) = ins)
    (h : a < ys.length → Txt.contains g (ys.getD a.toNat Str.empty) = !ins) : RunIs ys g ins once a (decide (a < ys.length)) := by
  subst ho
  unfold RunIs
  exact ⟨h0, h1, hi, rfl, h⟩
theorem run_spec {prog : Program} {w : World} {p : Program} {loose : List Str} {mean : ExcName → Option Value} {mg mb : Str → Option Value}
  {dp un : Nat} {gd : Option (List Code)} {cn : Str} {cs : Scope} {a : Addr} {ccd : Value} {cl : List (Str × Addr)} {outer : List Env} {A₀ : Around} {base h₀ : Heap} {L : Addr} {m : Str → Option Value} {s : Shared} {Q E : Value → Shared → Prop}
  {pa : Nat} {vs : List Value} {ys : List Str} {g : Str} {ins once : Bool} {tg : Tok} {n : Nat} {news : List (Addr × Obj)}
  (B : Below A₀ base outer h₀) (F : Fr h₀ L s.heap m) (X : (hd0.heap_1_1 w.params).In h₀) (N : News h₀ L s.heap (news)) (T : Top p loose mean mg mb h₀) (hk : cs.kind = .function) (hm : (pa, PySem.W.listOf vs.toArray n) ∈ news) (hi : StrsAre vs ys) (hy : ys.length ≤ 1000)
  (hdp : dp + 1 < recursionLimit) (hun : un + 8 < cLine)
  (hret : ∀ (r : Nat) (run : Int) (due : Bool) (t0 : Tok) (n' : Nat) (h' : Heap) (tk' : Nat), Fr h₀ L h' m → News h₀ L h' ((r, PySem.W.listOf [.int run t0, .bool due].toArray n') :: news) → (∀ p ∈ news, p.1 < r) → RunIs ys g ins once run due → Q (.ref r) { s with heap := h', toks := tk' }) :
  wpAny (model prog w) (ktrTop dp un gd cn cs L a ccd cl outer) (call (.ref 252) [.ref pa, .str g tg, .bool ins, .bool once]) Q E s := by
 exact Mine.quiet _ (type_of% (Mine.aside (by
  refine wpAny_call ?_
  k_dflt ktr_enter
  (k_with "my exec While BoolOp cons nil" => (
    refine' ksw_while (σ := Int × Tok) (fun _ => news) (fun st => [(Str.ofString "run", .int st.1 st.2)]) (fun _ => True) [] (fun st => 0 ≤ st.1 ∧ st.1 ≤ ys.length ∧ (∀ i : Int, 0 ≤ i → i < st.1 → Txt.contains g (ys.getD i.toNat Str.empty) = ins)) (fun st => (ys.length - st.1).toNat) (0, _) ?kF ?kN ?kf ?kk ?kp ?_
    (case kF => k_asm); (case kN => k_asm); (case kf => exact trivial); (case kk => (k_extra "my kall")); (case kp => exact ⟨Int.le_refl _, by k_extra "my num", fun i h1 h2 => absurd h2 (by k_extra "my num")⟩)
    rintro ⟨a, ta⟩ u h tk - ⟨hca, hcb, hia⟩ F9 N9
    dsimp only at hca hcb hia N9; dsimp only [kstB] at F9
    dsimp only))
  k_extra "my steps"
  · exact hret _ _ _ _ _ _ _ (by k_asm) (by k_asm) (by assumption) (run1 (by assumption) (by assumption))
  · exact hret _ _ _ _ _ _ _ (by k_asm) (by k_asm) (by assumption) (run2 (by assumption) (by assumption))
  · refine ksw_end (_, _) (by k_asm) (by k_asm) (fun _ h => h) trivial (by (k_extra "my kall")) (by ksw_same) ⟨?_, ?_, all_to hia (eqb_to (by assumption))⟩ ?_ <;> (dsimp only; omega)
  · exact hret _ _ _ _ _ _ _ (by k_asm) (by k_asm) (by assumption) (run3 (by assumption) hca hcb hia fun _ => neb_to (by assumption))
  · exact hret _ _ _ _ _ _ _ (by k_asm) (by k_asm) (by assumption) (run3 (by assumption) hca hcb hia fun h => absurd h (by assumption))
 ) (by exact Nat) _))
theorem bool_ne_not {b i : Bool} (h : b = i) (h' : b = !i) : False := by cases i <;> simp_all
theorem runT {ys : List Str} {g : Str} {ins B O : Bool} {run : Int} {due : Bool} (hB : B = ins) (hO : O = true) (h : RunIs ys g B O run due) :
    (due = true ∧ run = 1 ∧ 0 < ys.length ∧ Txt.contains g (ys.getD 0 Str.empty) = ins) ∨ (due = false ∧ run = 0 ∧ (ys.length = 0 ∨ Txt.contains g (ys.getD 0 Str.empty) = !ins)) := by
  subst hB hO; simpa [RunIs] using h
theorem runF {ys : List Str} {g : Str} {ins B O : Bool} {run : Int} {due : Bool} (hB : B = ins) (hO : O = false) (h : RunIs ys g B O run due) :
    0 ≤ run ∧ run ≤ ys.length ∧ (∀ i : Int, 0 ≤ i → i < run → Txt.contains g (ys.getD i.toNat Str.empty) = ins) ∧ due = decide (run < ys.length) ∧ (run < ys.length → Txt.contains g (ys.getD run.toNat Str.empty) = !ins) := by
  subst hB hO; simpa [RunIs] using h
theorem signs_cut0 {x : Str} {c l : Int} (h0 : 0 ≤ c) (h1 : c < l) (h2 : l ≤ x.length) : (signs (Txt.slice x (some c) (some l))).getD 0 Str.empty = Txt.item x c := by
  have := signs_cut (i := 0) h0 (Int.le_of_lt h1) h2 (Int.le_refl _) (by omega)
  simpa using this
theorem fin_LF {ins B O : Bool} {x g : Str} {c l c1 run : Int} {v due : Bool} (h0 : 0 ≤ c) (h1 : c ≤ l) (h2 : l ≤ x.length) (hB : B = ins) (hO : O = true) (hL : LookF ins x g c l c1 v) (hR : RunIs (signs (Txt.slice x (some c) (some l))) g B O run due) :
    v = due ∧ c1 = c + run ∧ 0 ≤ c1 ∧ c1 ≤ l := by
  have hn := signs_cut_len h0 h1 h2
  rcases runT hB hO hR with ⟨rfl, rfl, a, b⟩ | ⟨rfl, rfl, a⟩
  · rw [signs_cut0 h0 (by omega) h2] at b
    rcases hL with ⟨rfl, q1, q2, rfl⟩ | ⟨rfl, q, rfl⟩
    · exact ⟨rfl, rfl, by omega, by omega⟩
    · rcases q with q | q
      · omega
      · exact (bool_ne_not b q).elim
  · rcases hL with ⟨rfl, q1, q2, rfl⟩ | ⟨rfl, q, rfl⟩
    · rcases a with a | a
      · omega
      · rw [signs_cut0 h0 (by omega) h2] at a
        exact (bool_ne_not q2 a).elim
    · exact ⟨rfl, by omega, h0, h1⟩
theorem fin_GF {ins B O : Bool} {x g : Str} {c l c1 run : Int} {v due : Bool} (h0 : 0 ≤ c) (h1 : c ≤ l) (h2 : l ≤ x.length) (hB : B = ins) (hO : O = false) (hL : GoF ins x g c l c1 v) (hR : RunIs (signs (Txt.slice x (some c) (some l))) g B O run due) :
    v = due ∧ c1 = c + run ∧ 0 ≤ c1 ∧ c1 ≤ l := by
  have hn := signs_cut_len h0 h1 h2
  obtain ⟨r0, r1, r2, r3, r4⟩ := runF hB hO hR
  obtain ⟨g0, g1, g2, g3⟩ := hL
  have e : c1 = c + run := by
    by_cases q : c1 < c + run
    · exfalso
      rcases g3 with ⟨_, k1, k2⟩ | ⟨_, k1⟩
      · have := r2 (c1 - c) (by omega) (by omega)
        rw [signs_cut h0 h1 h2 (by omega) (by omega), show c + (c1 - c) = c1 by omega] at this
        exact bool_ne_not this k2
      · omega
    · by_cases q' : c + run < c1
      · exfalso
        have := r4 (by omega)
        rw [signs_cut h0 h1 h2 (by omega) (by omega)] at this
        exact bool_ne_not (g2 (c + run) (by omega) q') this
      · omega
  subst e
  refine ⟨?_, rfl, by omega, g1⟩
  rw [r3]
  rcases g3 with ⟨rfl, k1, k2⟩ | ⟨rfl, k1⟩
  · exact (decide_eq_true (by omega)).symm
  · exact (decide_eq_false (by omega)).symm
theorem signs_rev {x : Str} {c lb i : Int} (h0 : 0 ≤ lb) (h1 : lb ≤ c) (h2 : c ≤ x.length) (hi : 0 ≤ i) (hl : i < c - lb) :
    (signs (Txt.slice x (some lb) (some c))).reverse.getD i.toNat Str.empty = Txt.item x (c - 1 - i) := by
  have hn := signs_cut_len h0 h1 h2
  have hlt : i.toNat < (signs (Txt.slice x (some lb) (some c))).length := by omega
  rw [List.getD_eq_getElem?_getD, List.getElem?_reverse hlt, ← List.getD_eq_getElem?_getD]
  have e : (signs (Txt.slice x (some lb) (some c))).length - 1 - i.toNat = (c - lb - 1 - i).toNat := rv_toNat hi hn hl
  rw [e, signs_cut h0 h1 h2 (by omega) (by omega), show lb + (c - lb - 1 - i) = c - 1 - i by omega]
theorem signs_rev0 {x : Str} {c lb : Int} (h0 : 0 ≤ lb) (h1 : lb < c) (h2 : c ≤ x.length) : (signs (Txt.slice x (some lb) (some c))).reverse.getD 0 Str.empty = Txt.item x (c - 1) := by
  have := signs_rev (i := 0) h0 (Int.le_of_lt h1) h2 (Int.le_refl _) (by omega)
  simpa using this
theorem fin_LB {ins B O : Bool} {x g : Str} {c l lb c1 run : Int} {v due : Bool} (h0 : 0 ≤ lb) (h1 : lb < c) (h3 : c ≤ l) (h2 : l ≤ x.length) (hB : B = ins) (hO : O = true) (hL : LookB ins x g c lb c1 v) (hR : RunIs (signs (Txt.slice x (some lb) (some c))).reverse g B O run due) :
    v = due ∧ c1 = c - run ∧ 0 ≤ c1 ∧ c1 ≤ l := by
  have hn := signs_cut_len (x := x) h0 (Int.le_of_lt h1) (by omega)
  have e0 := signs_rev0 (x := x) h0 h1 (by omega)
  rcases runT hB hO hR with ⟨rfl, rfl, a, b⟩ | ⟨rfl, rfl, a⟩
  · rw [e0] at b
    rcases hL with ⟨rfl, q1, q2, rfl⟩ | ⟨rfl, q, rfl⟩
    · exact ⟨rfl, rfl, by omega, by omega⟩
    · rcases q with q | q
      · omega
      · exact (bool_ne_not b q).elim
  · rcases hL with ⟨rfl, q1, q2, rfl⟩ | ⟨rfl, q, rfl⟩
    · rw [List.length_reverse] at a
      rcases a with a | a
      · omega
      · rw [e0] at a
        exact (bool_ne_not q2 a).elim
    · exact ⟨rfl, by omega, by omega, h3⟩
theorem fin_GB {ins B O : Bool} {x g : Str} {c l lb c1 run : Int} {v due : Bool} (h0 : 0 ≤ lb) (h1 : lb < c) (h3 : c ≤ l) (h2 : l ≤ x.length) (hB : B = ins) (hO : O = false) (hL : GoB ins x g c lb c1 v) (hR : RunIs (signs (Txt.slice x (some lb) (some c))).reverse g B O run due) :
    v = due ∧ c1 = c - run ∧ 0 ≤ c1 ∧ c1 ≤ l := by
  have hn := signs_cut_len (x := x) h0 (Int.le_of_lt h1) (by omega)
  obtain ⟨r0, r1, r2, r3, r4⟩ := runF hB hO hR
  obtain ⟨g0, g1, g2, g3⟩ := hL
  rw [List.length_reverse] at r1 r3 r4
  have e : c1 = c - run := by
    by_cases q : c - run < c1
    · exfalso
      rcases g3 with ⟨_, k1, k2⟩ | ⟨_, k1⟩
      · have := r2 (c - c1) (by omega) (by omega)
        rw [signs_rev h0 (by omega) (by omega) (by omega) (by omega), show c - 1 - (c - c1) = c1 - 1 by omega] at this
        exact bool_ne_not this k2
      · omega
    · by_cases q' : c1 < c - run
      · exfalso
        have := r4 (by omega)
        rw [signs_rev h0 (by omega) (by omega) (by omega) (by omega)] at this
        exact bool_ne_not (g2 (c - 1 - run) (by omega) (by omega)) this
      · omega
  subst e
  refine ⟨?_, rfl, by omega, by omega⟩
  rw [r3]
  rcases g3 with ⟨rfl, k1, k2⟩ | ⟨rfl, k1⟩
  · exact (decide_eq_true (by omega)).symm
  · exact (decide_eq_false (by omega)).symm
theorem fin_L0 {ins B O : Bool} {x g : Str} {c l lb c1 run : Int} {v due : Bool} (h0 : 0 ≤ c) (h1 : ¬ lb < c) (h3 : c ≤ l) (hO : O = true) (hL : LookB ins x g c lb c1 v) (hR : RunIs (List.reverse []) g B O run due) :
    v = due ∧ c1 = c - run ∧ 0 ≤ c1 ∧ c1 ≤ l := by
  rcases runT rfl hO hR with ⟨rfl, rfl, a, b⟩ | ⟨rfl, rfl, a⟩
  · simp at a
  · rcases hL with ⟨rfl, q1, q2, rfl⟩ | ⟨rfl, q, rfl⟩
    · omega
    · exact ⟨rfl, by omega, h0, h3⟩
theorem fin_G0 {ins B O : Bool} {x g : Str} {c l lb c1 run : Int} {v due : Bool} (h0 : 0 ≤ c) (h1 : ¬ lb < c) (h3 : c ≤ l) (hO : O = false) (hL : GoB ins x g c lb c1 v) (hR : RunIs (List.reverse []) g B O run due) :
    v = due ∧ c1 = c - run ∧ 0 ≤ c1 ∧ c1 ≤ l := by
  obtain ⟨r0, r1, r2, r3, r4⟩ := runF rfl hO hR
  obtain ⟨g0, g1, g2, g3⟩ := hL
  simp only [List.reverse_nil, List.length_nil] at r1 r3
  have : run = 0 := by omega
  subst this
  rcases g3 with ⟨rfl, k1, k2⟩ | ⟨rfl, k1⟩
  · omega
  · refine ⟨by rw [r3]; rfl, by omega, by omega, by omega⟩

/-- texts as lists of signs: the order -/
def llt : List Nat → List Nat → Prop
  | _, [] => False
  | [], _ :: _ => True
  | a :: as, b :: bs => a < b ∨ (a = b ∧ llt as bs)
theorem llt_nil (a : List Nat) : ¬ llt a [] := by cases a <;> exact id
theorem llt_irrefl : ∀ a, ¬ llt a a
  | [] => fun h => h
  | a :: as => fun h => by
    rcases h with h | ⟨_, h⟩
    · exact Nat.lt_irrefl _ h
    · exact llt_irrefl as h
theorem llt_trans : ∀ {a b c : List Nat}, llt a b → llt b c → llt a c
  | _, [], _, h, _ => absurd h (llt_nil _)
  | _, _ :: _, [], _, h => absurd h (llt_nil _)
  | [], _ :: _, _ :: _, _, _ => trivial
  | x :: a, y :: b, z :: c, h, h' => by
    rcases h with h | ⟨rfl, h⟩ <;> rcases h' with h' | ⟨rfl, h'⟩
    · exact .inl (Nat.lt_trans h h')
    · exact .inl h
    · exact .inl h'
    · exact .inr ⟨rfl, llt_trans h h'⟩
theorem llt_total : ∀ (a b : List Nat), llt a b ∨ a = b ∨ llt b a
  | [], [] => .inr (.inl rfl)
  | [], _ :: _ => .inl trivial
  | _ :: _, [] => .inr (.inr trivial)
  | x :: a, y :: b => by
    rcases Nat.lt_trichotomy x y with h | rfl | h
    · exact .inl (.inl h)
    · rcases llt_total a b with h | rfl | h
      · exact .inl (.inr ⟨rfl, h⟩)
      · exact .inr (.inl rfl)
      · exact .inr (.inr (.inr ⟨rfl, h⟩))
    · exact .inr (.inr (.inl h))
/-- the two agree in their first m signs -/
def Sh (a b : List Nat) (m : Nat) : Prop := m ≤ a.length ∧ m ≤ b.length ∧ a.take m = b.take m
theorem Sh.zero (a b : List Nat) : Sh a b 0 := ⟨Nat.zero_le _, Nat.zero_le _, by simp⟩
theorem Sh.symm {a b : List Nat} {m : Nat} (h : Sh a b m) : Sh b a m := ⟨h.2.1, h.1, h.2.2.symm⟩
theorem Sh.trans {a b c : List Nat} {m : Nat} (h : Sh a b m) (h' : Sh b c m) : Sh a c m := ⟨h.1, h'.2.1, h.2.2.trans h'.2.2⟩
theorem Sh.le {a b : List Nat} {m n : Nat} (h : Sh a b m) (hn : n ≤ m) : Sh a b n := by
  refine ⟨Nat.le_trans hn h.1, Nat.le_trans hn h.2.1, ?_⟩
  have := congrArg (List.take n) h.2.2
  rw [List.take_take, List.take_take, Nat.min_eq_left hn] at this
  exact this
theorem Sh.cons {a b : List Nat} {m x y : Nat} : Sh (x :: a) (y :: b) (m + 1) ↔ x = y ∧ Sh a b m := by
  unfold Sh
  simp only [List.length_cons, Nat.add_le_add_iff_right, List.take_succ_cons, List.cons.injEq]
  constructor
  · rintro ⟨a, b, c, d⟩; exact ⟨c, a, b, d⟩
  · rintro ⟨c, a, b, d⟩; exact ⟨a, b, c, d⟩
theorem Sh.succ : ∀ {a b : List Nat} {m : Nat}, Sh a b m → m < a.length → m < b.length → a.getD m 0 = b.getD m 0 → Sh a b (m + 1)
  | [], _, _, _, h, _, _ => absurd h (Nat.not_lt_zero _)
  | _ :: _, [], _, _, _, h, _ => absurd h (Nat.not_lt_zero _)
  | x :: a, y :: b, 0, _, _, _, e => Sh.cons.mpr ⟨by simpa using e, Sh.zero _ _⟩
  | x :: a, y :: b, m + 1, h, h1, h2, e => by
    obtain ⟨q, h'⟩ := Sh.cons.mp h
    exact Sh.cons.mpr ⟨q, Sh.succ h' (by simpa using h1) (by simpa using h2) (by simpa using e)⟩
/-- between two that agree with one in m signs -/
theorem sh_mid : ∀ {m : Nat} {a b c : List Nat}, Sh a c m → ¬ llt b a → ¬ llt c b → Sh a b m
  | 0, _, _, _, _, _, _ => Sh.zero _ _
  | m + 1, [], _, _, h, _, _ => absurd h.1 (Nat.not_succ_le_zero _)
  | m + 1, _ :: _, _, [], h, _, _ => absurd h.2.1 (Nat.not_succ_le_zero _)
  | m + 1, _ :: _, [], _ :: _, _, h, _ => absurd trivial h
  | m + 1, x :: a, y :: b, z :: c, h, h1, h2 => by
    obtain ⟨q, h'⟩ := Sh.cons.mp h
    subst q
    have e : x = y := by
      rcases Nat.lt_trichotomy x y with q | q | q
      · exact absurd (.inl q) h2
      · exact q
      · exact absurd (.inl q) h1
    subst e
    exact Sh.cons.mpr ⟨rfl, sh_mid h' (fun q => h1 (.inr ⟨rfl, q⟩)) fun q => h2 (.inr ⟨rfl, q⟩)⟩
/-- where they part -/
theorem llt_end : ∀ {m : Nat} {a b : List Nat}, Sh a b m → m = a.length → m < b.length → llt a b
  | 0, [], _ :: _, _, _, _ => trivial
  | 0, _, [], _, _, h => absurd h (Nat.not_lt_zero _)
  | 0, _ :: _, _, _, h, _ => by simp at h
  | m + 1, [], _, h, _, _ => absurd h.1 (Nat.not_succ_le_zero _)
  | m + 1, _ :: _, [], h, _, _ => absurd h.2.1 (Nat.not_succ_le_zero _)
  | m + 1, x :: a, y :: b, h, h1, h2 => by
    obtain ⟨q, h'⟩ := Sh.cons.mp h
    exact .inr ⟨q, llt_end h' (by simpa using h1) (by simpa using h2)⟩
theorem llt_full : ∀ {m : Nat} {a b : List Nat}, Sh a b m → m = b.length → ¬ llt a b
  | _, _, [], _, _ => llt_nil _
  | 0, _, _ :: _, _, h => by simp at h
  | m + 1, [], _, h, _ => absurd h.1 (Nat.not_succ_le_zero _)
  | m + 1, x :: a, y :: b, h, h1 => by
    obtain ⟨e, h'⟩ := Sh.cons.mp h
    rintro (q | ⟨_, q⟩)
    · exact Nat.lt_irrefl _ (e ▸ q)
    · exact llt_full h' (by simpa using h1) q
theorem llt_part : ∀ {m : Nat} {a b : List Nat}, Sh a b m → m < a.length → m < b.length → a.getD m 0 ≠ b.getD m 0 → (llt a b ↔ a.getD m 0 < b.getD m 0)
  | _, [], _, _, h, _, _ => absurd h (Nat.not_lt_zero _)
  | _, _ :: _, [], _, _, h, _ => absurd h (Nat.not_lt_zero _)
  | 0, x :: a, y :: b, _, _, _, e => by
    simp only [List.getD_cons_zero] at e ⊢
    exact ⟨fun h => h.elim id fun h => absurd h.1 e, .inl⟩
  | m + 1, x :: a, y :: b, h, h1, h2, e => by
    obtain ⟨q, h'⟩ := Sh.cons.mp h
    subst q
    have ih := llt_part h' (by simpa using h1) (by simpa using h2) (by simpa using e)
    simp only [List.getD_cons_succ]
    rw [← ih]
    exact ⟨fun q => q.elim (fun q => absurd q (Nat.lt_irrefl _)) (·.2), fun q => .inr ⟨rfl, q⟩⟩
theorem llt_le {a b : List Nat} (h : llt a b) : ¬ llt b a := fun h' => llt_irrefl _ (llt_trans h h')
/-- the number of signs in which the two agree -/
def Lcp (a b : List Nat) (m : Nat) : Prop := Sh a b m ∧ (m = a.length ∨ m = b.length ∨ a.getD m 0 ≠ b.getD m 0)
/-- b stands at the front of a -/
def Fits (a b : List Nat) : Prop := Sh a b b.length
theorem fits_iff {a b : List Nat} {m : Nat} (h : Lcp a b m) : Fits a b ↔ b.length ≤ m := by
  constructor
  · intro q
    rcases Nat.lt_or_ge m b.length with r | r
    · exfalso
      rcases h.2 with e | e | e
      · have := q.1; omega
      · omega
      · apply e
        have := (q.le (Nat.succ_le_of_lt r)).2.2
        have h1 : a[m]? = b[m]? := by
          have := congrArg (·[m]?) this
          simpa [List.getElem?_take] using this
        simp [List.getD_eq_getElem?_getD, h1]
    · exact r
  · intro q
    exact h.1.le q
theorem fits_le {a b : List Nat} (h : Fits a b) : ¬ llt a b := llt_full h rfl
/-- the entries rise -/
def Rise (E : Nat → List Nat) (n : Nat) : Prop := ∀ a b, a < b → b < n → llt (E a) (E b)
theorem Rise.le {E : Nat → List Nat} {n a b : Nat} (h : Rise E n) (hab : a ≤ b) (hb : b < n) : ¬ llt (E b) (E a) := by
  rcases Nat.lt_or_eq_of_le hab with q | rfl
  · exact llt_le (h a b q hb)
  · exact llt_irrefl _
def InvA (E : Nat → List Nat) (n : Nat) (P : List Nat) (i j ci cj : Int) (fk : Bool) : Prop :=
  0 ≤ i ∧ i < j ∧ j ≤ n ∧ (j - i ≤ 1 → i = 0) ∧ (fk = true → i = 0 ∧ j = 1) ∧ 0 ≤ ci ∧ 0 ≤ cj ∧
  ((i = 0 ∧ ci = 0) ∨ (¬ llt P (E i.toNat) ∧ Lcp P (E i.toNat) ci.toNat)) ∧
  ((j = n ∧ cj = 0) ∨ (j < n ∧ llt P (E j.toNat) ∧ Lcp P (E j.toNat) cj.toNat))
def ExitA (E : Nat → List Nat) (n : Nat) (P : List Nat) (i ci : Int) : Prop :=
  0 ≤ i ∧ i < n ∧ 0 ≤ ci ∧ ((i = 0 ∧ ci = 0 ∧ llt P (E 0)) ∨ (¬ llt P (E i.toNat) ∧ Lcp P (E i.toNat) ci.toNat ∧ (i + 1 = n ∨ llt P (E (i + 1).toNat))))
def InnA (E : Nat → List Nat) (P : List Nat) (k cm df : Int) : Prop := 0 ≤ cm ∧ Lcp P (E k.toNat) cm.toNat ∧ (df < 0 ↔ llt P (E k.toNat))
theorem invA_start {E : Nat → List Nat} {n : Nat} {P : List Nat} (hn : 0 < n) : InvA E n P 0 n 0 0 false :=
  ⟨Int.le_refl _, by omega, Int.le_refl _, fun _ => rfl, (fun h => nomatch h), Int.le_refl _, Int.le_refl _, .inl ⟨rfl, rfl⟩, .inl ⟨rfl, rfl⟩⟩
theorem invA_sh {E : Nat → List Nat} {n : Nat} {P : List Nat} {i j ci cj k : Int} {fk : Bool} (hE : Rise E n) (h : InvA E n P i j ci cj fk) (h1 : i ≤ k) (h2 : k < j) : Sh P (E k.toNat) (if cj < ci then cj else ci).toNat := by
  obtain ⟨a0, a1, a2, _, _, c0, c1, x, y⟩ := h
  rcases x with ⟨_, rfl⟩ | ⟨x1, x2⟩
  · have : (if cj < 0 then cj else 0).toNat = 0 := by split <;> omega
    rw [this]; exact Sh.zero _ _
  · rcases y with ⟨_, rfl⟩ | ⟨y0, y1, y2⟩
    · have : (if 0 < ci then 0 else ci).toNat = 0 := by split <;> omega
      rw [this]; exact Sh.zero _ _
    · have q1 : Sh P (E i.toNat) (if cj < ci then cj else ci).toNat := x2.1.le (by split <;> omega)
      have q2 : Sh P (E j.toNat) (if cj < ci then cj else ci).toNat := y2.1.le (by split <;> omega)
      exact q1.trans (sh_mid (q1.symm.trans q2) (hE.le (by omega) (by omega)) (hE.le (by omega) (by omega)))
section
variable {E : Nat → List Nat} {n : Nat} {P : List Nat} {i j ci cj k cm df : Int} {fk : Bool}
theorem turn_lt_cont (h : InvA E n P i j ci cj fk) (h1 : i ≤ k) (h2 : k < j) (r : InnA E P k cm df) (hd : df < 0) (q : ¬ k - i ≤ 1) : InvA E n P i k ci cm fk := by
  obtain ⟨a0, a1, a2, a3, a4, c0, c1, x, y⟩ := h
  obtain ⟨r0, r1, r2⟩ := r
  exact ⟨a0, by omega, by omega, fun _ => by omega, fun e => by have := a4 e; omega, c0, r0, x, .inr ⟨by omega, r2.mp hd, r1⟩⟩
theorem turn_lt_fk (h : InvA E n P i j ci cj fk) (h1 : i ≤ k) (h2 : k < j) (r : InnA E P k cm df) (hd : df < 0) (q : k - i ≤ 1) (q1 : ¬ 0 < i) (q2 : k ≠ i) : InvA E n P i k ci cm true := by
  obtain ⟨a0, a1, a2, a3, a4, c0, c1, x, y⟩ := h
  obtain ⟨r0, r1, r2⟩ := r
  exact ⟨a0, by omega, by omega, fun _ => by omega, fun e => by omega, c0, r0, x, .inr ⟨by omega, r2.mp hd, r1⟩⟩
theorem turn_lt_exit (h : InvA E n P i j ci cj fk) (h1 : i ≤ k) (h2 : k < j) (h3 : 2 ≤ j - i → i < k) (r : InnA E P k cm df) (hd : df < 0) (q : k - i ≤ 1) (q1 : 0 < i ∨ k = i ∨ fk = true) : ExitA E n P i ci := by
  obtain ⟨a0, a1, a2, a3, a4, c0, c1, x, y⟩ := h
  obtain ⟨r0, r1, r2⟩ := r
  refine ⟨a0, by omega, c0, ?_⟩
  by_cases hi : 0 < i
  · rcases x with x | ⟨x1, x2⟩
    · omega
    · have e : k = i + 1 := by
        by_cases e : 2 ≤ j - i
        · have := h3 e; omega
        · have := a3 (by omega); omega
      exact .inr ⟨x1, x2, .inr (by rw [← e]; exact r2.mp hd)⟩
  · have hi0 : i = 0 := by omega
    have e : k = 0 := by
      rcases q1 with q1 | q1 | q1
      · exact absurd q1 hi
      · omega
      · have := a4 q1; omega
    have hl := r2.mp hd
    rw [e] at hl
    rcases x with x | ⟨x1, x2⟩
    · exact .inl ⟨hi0, x.2, hl⟩
    · rw [hi0] at x1
      exact absurd hl x1
theorem turn_ge_cont (h : InvA E n P i j ci cj fk) (h1 : i ≤ k) (h2 : k < j) (r : InnA E P k cm df) (hd : ¬ df < 0) (q : ¬ j - k ≤ 1) : InvA E n P k j cm cj fk := by
  obtain ⟨a0, a1, a2, a3, a4, c0, c1, x, y⟩ := h
  obtain ⟨r0, r1, r2⟩ := r
  exact ⟨by omega, h2, a2, fun _ => by omega, fun e => by have := a4 e; omega, r0, c1, .inr ⟨fun e => hd (r2.mpr e), r1⟩, y⟩
theorem turn_ge_fk (h : InvA E n P i j ci cj fk) (h1 : i ≤ k) (h2 : k < j) (r : InnA E P k cm df) (hd : ¬ df < 0) (q : j - k ≤ 1) (q1 : ¬ 0 < k) : InvA E n P k j cm cj true := by
  obtain ⟨a0, a1, a2, a3, a4, c0, c1, x, y⟩ := h
  obtain ⟨r0, r1, r2⟩ := r
  exact ⟨by omega, h2, a2, fun _ => by omega, fun e => by omega, r0, c1, .inr ⟨fun e => hd (r2.mpr e), r1⟩, y⟩
theorem turn_ge_exit (h : InvA E n P i j ci cj fk) (h1 : i ≤ k) (h2 : k < j) (r : InnA E P k cm df) (hd : ¬ df < 0) (q : j - k ≤ 1) : ExitA E n P k cm := by
  obtain ⟨a0, a1, a2, a3, a4, c0, c1, x, y⟩ := h
  obtain ⟨r0, r1, r2⟩ := r
  refine ⟨by omega, by omega, r0, .inr ⟨fun e => hd (r2.mpr e), r1, ?_⟩⟩
  have e : k + 1 = j := by omega
  rcases y with y | y
  · exact .inl (by omega)
  · exact .inr (by rw [e]; exact y.2.1)
end
/-- the links from an entry to the longest other that stands at its front -/
def Links (E : Nat → List Nat) (n : Nat) (sub : Nat → Int) : Prop :=
  ∀ k, k < n → sub k < k ∧ (0 ≤ sub k → Fits (E k) (E (sub k).toNat)) ∧ ∀ t, t < k → Fits (E k) (E t) → (t : Int) ≤ sub k
theorem fits_trans {a b c : List Nat} (h : Fits a b) (h' : Fits b c) : Fits a c := (h.le h'.1).trans h'
theorem fits_fits {a b c : List Nat} (h : Fits a b) (h' : Fits a c) (hl : ¬ llt b c) : Fits b c := by
  have hlen : c.length ≤ b.length := by
    rcases Nat.lt_or_ge b.length c.length with q | q
    · exact absurd (llt_end (h.symm.trans (h'.le (Nat.le_of_lt q))) rfl q) hl
    · exact q
  exact (h.symm.le hlen).trans h'
/-- the second loop: what matches stands at or below i -/
def InvB (E : Nat → List Nat) (n : Nat) (P : List Nat) (i ci : Int) : Prop :=
  0 ≤ i ∧ i < n ∧ (∀ t, t < n → Fits P (E t) → (t : Int) ≤ i) ∧ ((E i.toNat).length ≤ ci ↔ Fits P (E i.toNat)) ∧
    (∀ t : Nat, (t : Int) < i → Fits P (E t) → Fits (E i.toNat) (E t)) ∧ (∀ t : Nat, (t : Int) < i → Fits (E i.toNat) (E t) → ((E t).length ≤ ci ↔ Fits P (E t)))
theorem invB_start {E : Nat → List Nat} {n : Nat} {P : List Nat} {i ci : Int} (hE : Rise E n) (h : ExitA E n P i ci) : InvB E n P i ci := by
  obtain ⟨a0, a1, c0, x⟩ := h
  rcases x with ⟨rfl, rfl, x⟩ | ⟨x1, x2, x3⟩
  · have none : ∀ t, t < n → ¬ Fits P (E t) := fun t ht q => fits_le q (by
      rcases Nat.eq_zero_or_pos t with rfl | p
      · exact x
      · exact llt_trans x (hE 0 t p ht))
    refine ⟨Int.le_refl _, a1, fun t ht q => absurd q (none t ht), ⟨fun q => ?_, fun q => absurd q (none 0 (by omega))⟩, fun t ht => by omega, fun t ht => by omega⟩
    exfalso
    have : E 0 = [] := List.eq_nil_of_length_eq_zero (by simpa using q)
    rw [this] at x
    exact llt_nil _ x
  · have up : ∀ t, t < n → Fits P (E t) → (t : Int) ≤ i := fun t ht q => by
      by_cases r : (t : Int) ≤ i
      · exact r
      · exfalso
        have h1 : (i + 1).toNat < n := by omega
        rcases x3 with x3 | x3
        · omega
        · refine fits_le q ?_
          rcases Nat.lt_or_ge (i + 1).toNat t with p | p
          · exact llt_trans x3 (hE _ _ p ht)
          · rw [show t = (i + 1).toNat by omega]; exact x3
    have key : ∀ t : Nat, (t : Int) < i → Fits P (E t) → Fits (E i.toNat) (E t) := fun t ht q => by
      have : Sh (E t) (E i.toNat) (E t).length := sh_mid (Sh.symm q) (hE.le (by omega) (by omega)) x1
      exact this.symm
    refine ⟨a0, a1, up, ?_, key, fun t ht q => ?_⟩
    · rw [fits_iff x2]; omega
    · constructor
      · intro r
        exact (x2.1.le (by omega)).trans q
      · intro r
        have h3 : Sh P (E i.toNat) (E t).length := r.trans q.symm
        rcases Nat.lt_or_ge ci.toNat (E t).length with p | p
        · exfalso
          rcases x2.2 with e | e | e
          · have := h3.1; omega
          · have := h3.2.1; omega
          · apply e
            have h1 : P[ci.toNat]? = (E i.toNat)[ci.toNat]? := by
              have := congrArg (·[ci.toNat]?) h3.2.2
              simpa [List.getElem?_take, p] using this
            simp [List.getD_eq_getElem?_getD, h1]
        · omega
theorem invB_hit {E : Nat → List Nat} {n : Nat} {P : List Nat} {i ci : Int} (hE : Rise E n) (h : InvB E n P i ci) (q : (E i.toNat).length ≤ ci) : Fits P (E i.toNat) ∧ ∀ t, t < n → Fits P (E t) → (E t).length ≤ (E i.toNat).length := by
  obtain ⟨a0, a1, up, tst, key, mid⟩ := h
  refine ⟨tst.mp q, fun t ht r => ?_⟩
  have := up t ht r
  by_cases e : (t : Int) = i
  · rw [← e]; exact Nat.le_refl _
  · exact (key t (by omega) r).1
theorem invB_step {E : Nat → List Nat} {n : Nat} {P : List Nat} {i ci : Int} {sub : Nat → Int} (hE : Rise E n) (hL : Links E n sub) (h : InvB E n P i ci) (q : ¬ ((E i.toNat).length : Int) ≤ ci) (r : ¬ sub i.toNat < 0) : InvB E n P (sub i.toNat) ci ∧ sub i.toNat < i := by
  obtain ⟨a0, a1, up, tst, key, mid⟩ := h
  obtain ⟨l1, l2, l3⟩ := hL i.toNat (by omega)
  have lf := l2 (by omega)
  have lt : sub i.toNat < i := by omega
  have up' : ∀ t, t < n → Fits P (E t) → (t : Int) ≤ sub i.toNat := fun t ht f => by
    have h1 := up t ht f
    have h2 : (t : Int) ≠ i := fun e => q (tst.mpr (by rw [← e]; exact f))
    exact l3 t (by omega) (key t (by omega) f)
  refine ⟨⟨by omega, by omega, up', ?_, fun t ht f => ?_, fun t ht f => ?_⟩, lt⟩
  · have := mid (sub i.toNat).toNat (by omega) lf
    exact this
  · exact fits_fits lf (key t (by omega) f) (hE.le (by omega) (by omega))
  · exact mid t (by omega) (fits_trans lf f)
theorem invB_none {E : Nat → List Nat} {n : Nat} {P : List Nat} {i ci : Int} {sub : Nat → Int} (hL : Links E n sub) (h : InvB E n P i ci) (q : ¬ ((E i.toNat).length : Int) ≤ ci) (r : sub i.toNat < 0) : ∀ t, t < n → ¬ Fits P (E t) := fun t ht f => by
  obtain ⟨a0, a1, up, tst, key, mid⟩ := h
  obtain ⟨l1, l2, l3⟩ := hL i.toNat (by omega)
  have h1 := up t ht f
  have h2 : (t : Int) ≠ i := fun e => q (tst.mpr (by rw [← e]; exact f))
  have := l3 t (by omega) (key t (by omega) f)
  omega
/-- what the look in the table is to say -/
def FoundA (E : Nat → List Nat) (n : Nat) (P : List Nat) (r size : Int) : Prop :=
  (∃ t, t < n ∧ Fits P (E t) ∧ (∀ t', t' < n → Fits P (E t') → (E t').length ≤ (E t).length) ∧ r = t + 1 ∧ size = (E t).length) ∨ ((∀ t, t < n → ¬ Fits P (E t)) ∧ r = 0 ∧ size = 0)
theorem found_hit {E : Nat → List Nat} {n : Nat} {P : List Nat} {i ci c z : Int} (hE : Rise E n) (h : InvB E n P i ci) (q : ((E i.toNat).length : Int) ≤ ci) (hz : z = (E i.toNat).length := by omega) : FoundA E n P (i.toNat + 1) (c + z - c) := by
  obtain ⟨a, b⟩ := invB_hit hE h q
  exact .inl ⟨i.toNat, by have := h.2.1; have := h.1; omega, a, b, rfl, by omega⟩
theorem found_none {E : Nat → List Nat} {n : Nat} {P : List Nat} {i ci c : Int} {sub : Nat → Int} (hL : Links E n sub) (h : InvB E n P i ci) (q : ¬ ((E i.toNat).length : Int) ≤ ci) (r : sub i.toNat < 0) : FoundA E n P 0 (c - c) :=
  .inr ⟨invB_none hL h q r, rfl, by omega⟩
theorem ms_lt {i j k : Int} {f : Bool} (h1 : i ≤ k) (h2 : k < j) : (2 * (k - i) + if f = true then (0 : Int) else 1).toNat < (2 * (j - i) + if f = true then (0 : Int) else 1).toNat := by split <;> omega
theorem ms_ge {i j k : Int} {f : Bool} (h1 : i ≤ k) (h2 : k < j) (h3 : 2 ≤ j - i → i < k) (h4 : ¬ j - k ≤ 1) : (2 * (j - k) + if f = true then (0 : Int) else 1).toNat < (2 * (j - i) + if f = true then (0 : Int) else 1).toNat := by split <;> omega
theorem ms_ltf {i j k : Int} (h1 : i ≤ k) (h2 : k < j) : (2 * (k - i) + if true = true then (0 : Int) else 1).toNat < (2 * (j - i) + if false = true then (0 : Int) else 1).toNat := by simp only [if_true, Bool.false_eq_true, if_false]; omega
theorem ms_gef {i j k : Int} (h1 : i ≤ k) (h2 : k < j) : (2 * (j - k) + if true = true then (0 : Int) else 1).toNat < (2 * (j - i) + if false = true then (0 : Int) else 1).toNat := by simp only [if_true, Bool.false_eq_true, if_false]; omega

abbrev amongD (H : Nat → Int) (KT : Nat → Tok) (e : Str) (t0 : Tok) (sub : Int) (t1 : Tok) (res : Int) (t2 : Tok) : Obj :=
  dictOf [⟨H 0, .str "s" (KT 0), .str e t0⟩, ⟨H 1, .str "substring_i" (KT 1), .int sub t1⟩, ⟨H 2, .str "result" (KT 2), .int res t2⟩] 3
/-- a table of entries in the ledger -/
structure Tab (rest : List (Addr × Obj)) (va nv : Nat) (xa da : Nat → Nat) (es : List Str) (sub res : Nat → Int) : Prop where
  lst : (va, PySem.W.listOf ((List.range es.length).map fun i => Value.ref (xa i)).toArray nv) ∈ rest
  inst : ∀ i, i < es.length → (xa i, instObj 220 (da i)) ∈ rest
  dic : ∀ i, i < es.length → ∃ H KT t0 t1 t2, (da i, amongD H KT (es.getD i Str.empty) t0 (sub i) t1 (res i) t2) ∈ rest
section
variable {prog : Program} {w : World} {A : Around} {E : Value → Shared → Prop} {s : Shared} {h₀ : Heap} {L : Addr} {m : Str → Option Value} {Q : Value → Shared → Prop} {news rest : List (Addr × Obj)}
theorem itemTab_K {value slice : PySem.Expr} {va nv : Nat} {xa da : Nat → Nat} {es : List Str} {sub res : Nat → Int} {k : Int} {u : Tok} (N : News h₀ L s.heap news) (hT : Tab rest va nv xa da es sub res) (hm : ∀ p ∈ rest, p ∈ news)
    (h0 : 0 ≤ k) (hk : k < es.length) (hfit : k < 2 ^ 63)
    (h : ∀ H KT t0 t1 t2, (xa k.toNat, instObj 220 (da k.toNat)) ∈ rest → (da k.toNat, amongD H KT (es.getD k.toNat Str.empty) t0 (sub k.toNat) t1 (res k.toNat) t2) ∈ rest → Q (.ref (xa k.toNat)) s)
    (hs : subscripted slice false (.ref va) (.int k u) = operate [.ref va, .int k u] (getItem (.ref va) (.int k u)) := by with_unfolding_all rfl) (hg : ∀ r, letTemporaryGo value (.ref va) r = pure () := by intro _; with_unfolding_all rfl) :
    wpAny (model prog w) A (subscriptTail value slice (.ref va) (.int k u)) Q E s := by
 exact Mine.quiet _ (type_of% (Mine.aside (by
  have hlt : k.toNat < es.length := by k_extra "my num"
  obtain ⟨H, KT, t0, t1, t2, hd⟩ := hT.dic _ hlt
  exact item_listL (News.isList N (hm _ hT.lst)) h0 hfit (by simp [hlt]) (h H KT t0 t1 t2 (hT.inst _ hlt) hd) hs hg
 ) (by exact Nat) _))
theorem lenTab_K {va nv : Nat} {xa da : Nat → Nat} {es : List Str} {sub res : Nat → Int} (N : News h₀ L s.heap news) (hT : Tab rest va nv xa da es sub res) (hm : ∀ p ∈ rest, p ∈ news) (hf : es.length ≤ 1000)
    (h : Q (.int es.length (s.toks + 1)) { s with toks := s.toks + 1 + 1 }) : wpAny (model prog w) A (call (.builtin "len") [.ref va]) Q E s := by
  have e : ((List.range es.length).map fun i => Value.ref (xa i)).toArray.size = es.length := by simp
  refine len_list (News.isList N (hm _ hT.lst)) (by rw [e]; omega) ?_
  rw [e]
  exact h
end

theorem fdiv_mid {d : Int} (h : 0 < d) : 0 ≤ d.fdiv (2 ^ Int.toNat 1) ∧ d.fdiv (2 ^ Int.toNat 1) < d ∧ (2 ≤ d → 1 ≤ d.fdiv (2 ^ Int.toNat 1)) := by
  have e : (2 ^ Int.toNat 1 : Int) = 2 := by decide
  rw [e, Int.fdiv_eq_ediv_of_nonneg _ (by decide)]
  omega


theorem words_jAmg_5 : True := by
  k_with "my call builtin:len" => (k_here; (with_reducible show wpAny _ _ (call (Value.builtin "len") [Value.ref _]) _ _ _); k_dflt (refine' Mine.lenTab_K ?hb154azN ?hb154azT ?hb154azm ?hb154azf ?_; (case hb154azN => k_asm); (case hb154azT => with_reducible assumption); (case hb154azm => k_extra "my sub"); (case hb154azf => omega); k_whole))
  k_with "my subscriptTail" => (k_here; (with_reducible show wpAny _ _ (subscriptTail _ _ (Value.ref _) (Value.int _ _)) _ _ _); k_dflt (refine' Mine.itemTab_K ?h76a1bzN ?h76a1bzT ?h76a1bzm ?h76a1bz0 ?h76a1bz1 ?h76a1bzf ?_ ?h76a1bzs ?h76a1bzg; (case h76a1bzN => k_asm); (case h76a1bzT => with_reducible assumption); (case h76a1bzm => k_extra "my sub"); (case h76a1bz0 => omega); (case h76a1bz1 => omega); (case h76a1bzf => omega); (case h76a1bzs => with_unfolding_all rfl); (case h76a1bzg => (intro _; with_unfolding_all rfl)); k_whole); intro H' KT' t0' t1' t2' hI' hD')
  trivial
theorem among_fold {h₀ h : Heap} {L x d : Addr} {e : Str} {sub res a0 a1 a2 : Int} {k0 k1 k2 t0 t1 t2 : Tok} {news : List (Addr × Obj)}
    (N : News h₀ L h ((x, instObj 220 d) :: (d, dictOf [⟨a0, .str (Str.ofString "s") k0, .str e t0⟩, ⟨a1, .str (Str.ofString "substring_i") k1, .int sub t1⟩, ⟨a2, .str (Str.ofString "result") k2, .int res t2⟩] 3) :: news)) :
    ∃ H KT, News h₀ L h ((x, instObj 220 d) :: (d, amongD H KT e t0 sub t1 res t2) :: news) :=
  ⟨fun i => if i = 0 then a0 else if i = 1 then a1 else a2, fun i => if i = 0 then k0 else if i = 1 then k1 else k2, N⟩
theorem among_spec {prog : Program} {w : World} {p : Program} {loose : List Str} {mean : ExcName → Option Value} {mg mb : Str → Option Value}
  {dp un : Nat} {gd : Option (List Code)} {cn : Str} {cs : Scope} {a : Addr} {ccd : Value} {cl : List (Str × Addr)} {outer : List Env} {A₀ : Around} {base h₀ : Heap} {L : Addr} {m : Str → Option Value} {s : Shared} {Q E : Value → Shared → Prop}
  {e : Str} {te ts tr : Tok} {sub res : Int} {news : List (Addr × Obj)}
  (B : Below A₀ base outer h₀) (F : Fr h₀ L s.heap m) (X : (hd0.heap_1_1 w.params).In h₀) (N : News h₀ L s.heap (news)) (T : Top p loose mean mg mb h₀) (hk : cs.kind = .function)
  (hdp : dp + 1 < recursionLimit)
  (hret : ∀ (x d : Nat) (H : Nat → Int) (KT : Nat → Tok) (t0 t1 t2 : Tok) (h' : Heap) (tk' : Nat), Fr h₀ L h' m → News h₀ L h' ((x, instObj 220 d) :: (d, amongD H KT e t0 sub t1 res t2) :: news) → (∀ p ∈ news, p.1 < d) → d < x → Q (.ref x) { s with heap := h', toks := tk' }) :
  wpAny (model prog w) (ktrTop dp un gd cn cs L a ccd cl outer) (call (.ref 220) [.str e te, .int sub ts, .int res tr]) Q E s := by
 exact Mine.quiet _ (type_of% (Mine.aside (by
  k_dflt (refine' call_cls ?k1 ?k2 ?k3 ?k4 ?k5 ?k6 ?_; (case k1 => k_asm); (case k2 => k_asm); (case k3 => k_asm); (case k4 => k_is); (case k5 => k_is); (case k6 => k_is); k_whole)
  intro x d h' F' N' l1 l2
  have hxd : x ≠ d := Nat.ne_of_gt l2
  have hnd : ∀ p ∈ news, p.1 ≠ d := fun p hp => Nat.ne_of_lt (l1 p hp)
  have hnx : ∀ p ∈ news, p.1 ≠ x := fun p hp => Nat.ne_of_lt (Nat.lt_trans (l1 p hp) l2)
  k_dflt ktr_enter
  k_extra "my steps"
  with_reducible rename News h₀ L _ _ => kN
  with_reducible rename Fr h₀ L _ _ => kF
  obtain ⟨H, KT, kN2⟩ := among_fold kN
  exact hret _ _ _ _ _ _ _ _ _ kF kN2 l1 l2
 ) (by exact Nat) _))
def entL (es : List Str) (t : Nat) : List Nat := (es.getD t Str.empty).cps.toList
def cutL (x : Str) (c l : Int) : List Nat := (x.cps.toList.drop c.toNat).take (l - c).toNat
theorem cutL_len {x : Str} {c l : Int} (h0 : 0 ≤ c) (h1 : c ≤ l) (h2 : l ≤ x.length) : ((cutL x c l).length : Int) = l - c := by
  unfold cutL
  rw [List.length_take, List.length_drop, len_toList]; omega
theorem item_ord {x : Str} {i : Int} (h0 : 0 ≤ i) (h1 : i < x.length) : (Txt.item x i).cps.getD 0 0 = x.cps.toList.getD i.toNat 0 := by
  rw [item_nn h0 h1]; rfl
theorem cutL_getD {x : Str} {c l q : Int} (h0 : 0 ≤ c) (h1 : q < l - c) (hq : 0 ≤ q) : (cutL x c l).getD q.toNat 0 = x.cps.toList.getD (c + q).toNat 0 := by
 exact Mine.quiet _ (type_of% (Mine.aside (by
  unfold cutL
  rw [List.getD_eq_getElem?_getD, List.getD_eq_getElem?_getD, List.getElem?_take, if_pos (by k_extra "my num"), List.getElem?_drop, ← Int.toNat_add h0 hq]
 ) (by exact Nat) _))
theorem inn1 {x : Str} {c l q K : Int} {es : List Str} (h0 : 0 ≤ c) (h1 : c ≤ l) (h2 : l ≤ x.length) (hq : 0 ≤ q) (hs : Sh (cutL x c l) (entL es K.toNat) q.toNat) (hK : q < ((es.getD K.toNat Str.empty).length : Int)) (hl : c + q = l) : InnA (entL es) (cutL x c l) K q (-1) := by
 exact Mine.quiet _ (type_of% (Mine.aside (by
  have hc := cutL_len h0 h1 h2
  have he : (entL es K.toNat).length = (es.getD K.toNat Str.empty).length := len_toList _
  have e : q.toNat = (cutL x c l).length := by k_extra "my num"
  exact ⟨hq, ⟨hs, .inl e⟩, fun _ => llt_end hs e (by k_extra "my num"), fun _ => by decide⟩
 ) (by exact Nat) _))
theorem inn2 {x : Str} {c l q K : Int} {es : List Str} (h0 : 0 ≤ c) (h1 : c ≤ l) (h2 : l ≤ x.length) (hq : 0 ≤ q) (hs : Sh (cutL x c l) (entL es K.toNat) q.toNat) (hK : q < ((es.getD K.toNat Str.empty).length : Int)) (hl : c + q ≠ l)
    (hd : (((Txt.item x (c + q)).cps.getD 0 0 : Nat) : Int) - ((Txt.item (es.getD K.toNat Str.empty) q).cps.getD 0 0 : Nat) ≠ 0) :
    InnA (entL es) (cutL x c l) K q ((((Txt.item x (c + q)).cps.getD 0 0 : Nat) : Int) - ((Txt.item (es.getD K.toNat Str.empty) q).cps.getD 0 0 : Nat)) := by
 exact Mine.quiet _ (type_of% (Mine.aside (by
  have hc := cutL_len h0 h1 h2
  have hb := hs.1
  have he : (entL es K.toNat).length = (es.getD K.toNat Str.empty).length := len_toList _
  rw [item_ord (by k_extra "my num") (by k_extra "my num"), item_ord hq hK, ← cutL_getD h0 (l := l) (by k_extra "my num") hq] at hd ⊢
  have e2 : (es.getD K.toNat Str.empty).cps.toList.getD q.toNat 0 = (entL es K.toNat).getD q.toNat 0 := rfl
  rw [e2] at hd ⊢
  have hp := llt_part hs (by k_extra "my num") (by k_extra "my num") (by k_extra "my num")
  exact ⟨hq, ⟨hs, .inr (.inr (by k_extra "my num"))⟩, fun r => hp.mpr (by k_extra "my num"), fun r => by have := hp.mp r; omega⟩
 ) (by exact Nat) _))
theorem inn3 {x : Str} {c l q K : Int} {es : List Str} (h0 : 0 ≤ c) (h1 : c ≤ l) (h2 : l ≤ x.length) (hq : 0 ≤ q) (hs : Sh (cutL x c l) (entL es K.toNat) q.toNat) (hK : q < ((es.getD K.toNat Str.empty).length : Int)) (hl : c + q ≠ l)
    (hd : (((Txt.item x (c + q)).cps.getD 0 0 : Nat) : Int) - ((Txt.item (es.getD K.toNat Str.empty) q).cps.getD 0 0 : Nat) = 0) : Sh (cutL x c l) (entL es K.toNat) (q + 1).toNat := by
 exact Mine.quiet _ (type_of% (Mine.aside (by
  have hc := cutL_len h0 h1 h2
  have hb := hs.1
  have he : (entL es K.toNat).length = (es.getD K.toNat Str.empty).length := len_toList _
  rw [item_ord (by k_extra "my num") (by k_extra "my num"), item_ord hq hK, ← cutL_getD h0 (l := l) (by k_extra "my num") hq] at hd
  have e2 : (es.getD K.toNat Str.empty).cps.toList.getD q.toNat 0 = (entL es K.toNat).getD q.toNat 0 := rfl
  rw [e2] at hd
  rw [show (q + 1).toNat = q.toNat + 1 by k_extra "my num"]
  exact hs.succ (by k_extra "my num") (by k_extra "my num") (by k_extra "my num")
 ) (by exact Nat) _))
theorem inn4 {x : Str} {c l q K : Int} {es : List Str} (hq : 0 ≤ q) (hs : Sh (cutL x c l) (entL es K.toNat) q.toNat) (hK : q = ((es.getD K.toNat Str.empty).length : Int)) : InnA (entL es) (cutL x c l) K q 0 := by
 exact Mine.quiet _ (type_of% (Mine.aside (by
  have he : (entL es K.toNat).length = (es.getD K.toNat Str.empty).length := len_toList _
  have e : q.toNat = (entL es K.toNat).length := by k_extra "my num"
  exact ⟨hq, ⟨hs, .inr (.inl e)⟩, fun r => absurd r (by decide), fun r => absurd r (llt_full hs e)⟩
 ) (by exact Nat) _))
theorem find_among_spec {prog : Program} {w : World} {p : Program} {loose : List Str} {mean : ExcName → Option Value} {mg mb : Str → Option Value}
  {dp un : Nat} {gd : Option (List Code)} {cn : Str} {cs : Scope} {a : Addr} {ccd : Value} {cl : List (Str × Addr)} {outer : List Env} {A₀ : Around} {base h₀ : Heap} {L : Addr} {m : Str → Option Value} {s : Shared} {Q E : Value → Shared → Prop}
  {mx dx va nv : Nat} {H : Nat → Int} {KT : Nat → Tok} {x : Str} {c l lb b k : Int} {τ0 τ1 τ2 τ3 τ4 τ5 : Tok} {rest : List (Addr × Obj)} {xa da : Nat → Nat} {es : List Str} {sub : Nat → Int}
  (B : Below A₀ base outer h₀) (F : Fr h₀ L s.heap m) (X : (hd0.heap_1_1 w.params).In h₀) (N : News h₀ L s.heap ((mx, instObj 199 dx) :: (dx, machD H KT x τ0 c τ1 l τ2 lb τ3 b τ4 k τ5) :: rest)) (T : Top p loose mean mg mb h₀) (hk : cs.kind = .function)
  (hmd : mx ≠ dx) (hr : ∀ p ∈ rest, p.1 ≠ dx) (hx : x.length ≤ 1000) (hc0 : 0 ≤ c) (hcl : c ≤ l) (hl1 : l ≤ x.length) (hT : Tab rest va nv xa da es sub (fun t => (t : Int) + 1)) (hn0 : 0 < es.length) (hn1 : es.length ≤ 100) (hel : ∀ i, (es.getD i Str.empty).length ≤ 100)
  (hE : Rise (entL es) es.length) (hL : Links (entL es) es.length sub)
  (hdp : dp + 1 < recursionLimit) (hun : un + 8 < cLine)
  (hret : ∀ (v c' : Int) (tv τ0 τ1 τ2 τ3 τ4 τ5 : Tok) (h' : Heap) (tk' : Nat), Fr h₀ L h' m → News h₀ L h' ((mx, instObj 199 dx) :: (dx, machD H KT x τ0 c' τ1 l τ2 lb τ3 b τ4 k τ5) :: rest) → FoundA (entL es) es.length (cutL x c l) v (c' - c) → Q (.int v tv) { s with heap := h', toks := tk' }) :
  wpAny (model prog w) (ktrTop dp un gd cn cs L a ccd cl outer) (call (.ref 133) [.ref mx, .ref va]) Q E s := by
 exact Mine.quiet _ (type_of% (Mine.aside (by
  refine wpAny_call ?_
  k_dflt ktr_enter
  k_extra "my upto While"
  refine' cut_stmt (σ := (Int × Tok) × (Int × Tok)) (fun _ => (mx, instObj 199 dx) :: (dx, machD H KT x τ0 c τ1 l τ2 lb τ3 b τ4 k τ5) :: rest) (fun st => [(Str.ofString "i", .int st.1.1 st.1.2), (Str.ofString "common_i", .int st.2.1 st.2.2), (Str.ofString "self", .ref mx), (Str.ofString "v", .ref va), (Str.ofString "c", .int c τ1)])
      (fun st => ExitA (entL es) es.length (cutL x c l) st.1.1 st.2.1) ?cF ?cmain ?ccont
  case cF => k_asm
  case cmain =>
    refine' mw_while (σ := ((Int × Tok) × (Int × Tok)) × ((Int × Tok) × (Int × Tok)) × Bool) (fun _ => (mx, instObj 199 dx) :: (dx, machD H KT x τ0 c τ1 l τ2 lb τ3 b τ4 k τ5) :: rest) (fun st => [(Str.ofString "i", .int st.1.1.1 st.1.1.2), (Str.ofString "j", .int st.1.2.1 st.1.2.2), (Str.ofString "common_i", .int st.2.1.1.1 st.2.1.1.2), (Str.ofString "common_j", .int st.2.1.2.1 st.2.1.2.2), (Str.ofString "first_key_inspected", .bool st.2.2), (Str.ofString "self", .ref mx), (Str.ofString "v", .ref va), (Str.ofString "c", .int c τ1), (Str.ofString "l", .int l τ2)])
        (fun st => InvA (entL es) es.length (cutL x c l) st.1.1.1 st.1.2.1 st.2.1.1.1 st.2.1.2.1 st.2.2) (fun st => (2 * (st.1.2.1 - st.1.1.1) + if st.2.2 then 0 else 1).toNat) (((0, _), (_, _)), ((0, _), (0, _)), false) ?kF ?kN ?kk ?kp ?_
    case kF => k_asm
    case kN => k_asm
    case kk => (k_extra "my kall")
    case kp => exact invA_start hn0
    rintro ⟨⟨⟨i, ti⟩, ⟨j, tj⟩⟩, ⟨⟨ci, tci⟩, ⟨cj, tcj⟩⟩, fk⟩ u h tk hA F9 N9
    dsimp only at hA N9; dsimp only [kstB] at F9
    have hA0 := hA
    obtain ⟨hi0, hij, hj, -, -, hci, hcj, -⟩ := hA0
    dsimp only
    have hmid := fdiv_mid (d := j - i) (by k_extra "my num")
    have hK1 : i ≤ i + (j - i).fdiv (2 ^ Int.toNat 1) := by k_extra "my num"
    have hK2 : i + (j - i).fdiv (2 ^ Int.toNat 1) < j := by k_extra "my num"
    have hK3 : 2 ≤ j - i → i < i + (j - i).fdiv (2 ^ Int.toNat 1) := by k_extra "my num"
    have hck := hel (i + (j - i).fdiv (2 ^ Int.toNat 1)).toNat
    have hsh := invA_sh (k := i + (j - i).fdiv (2 ^ Int.toNat 1)) hE hA (by k_extra "my num") (by k_extra "my num")
    have hshl := hsh.2.1
    rw [show (entL es (i + (j - i).fdiv (2 ^ Int.toNat 1)).toNat).length = (es.getD (i + (j - i).fdiv (2 ^ Int.toNat 1)).toNat Str.empty).length from len_toList _] at hshl
    k_extra "my onestep"
    k_extra "my onestep"
    k_extra "my onestep"
    k_extra "my onestep"
    k_extra "my onestep"
    k_extra "my upto For"
    with_reducible rename (_, dictOf _ _) ∈ rest => hD'
    with_reducible rename (_, instObj _ _) ∈ rest => hI'
    with_reducible rename Fr _ _ _ _ => F7
    clear hmid
    (try dsimp only)
    generalize i + (j - i).fdiv (2 ^ Int.toNat 1) = kk at F7 hck hsh hshl hK1 hK2 hK3 hD' hI' ⊢
    refine' cut_stmt (σ := (Int × Tok) × (Int × Tok) × Tok) (fun _ => (mx, instObj 199 dx) :: (dx, machD H KT x τ0 c τ1 l τ2 lb τ3 b τ4 k τ5) :: rest) (fun st => [(Str.ofString "common", .int st.1.1 st.1.2), (Str.ofString "diff", .int st.2.1.1 st.2.1.2), (Str.ofString "k", .int kk st.2.2),
        (Str.ofString "i", .int i ti), (Str.ofString "j", .int j tj), (Str.ofString "common_i", .int ci tci), (Str.ofString "common_j", .int cj tcj), (Str.ofString "first_key_inspected", .bool fk), (Str.ofString "self", .ref mx), (Str.ofString "v", .ref va), (Str.ofString "c", .int c τ1), (Str.ofString "l", .int l τ2)])
           (fun st => InnA (entL es) (cutL x c l) kk st.1.1 st.2.1.1) ?cF2 ?cmain2 ?ccont2
    case cF2 => k_asm
    case cmain2 =>
      k_extra "my upto iter"
      refine' kst_range (σ := (Int × Tok) × (Int × Tok)) (fun _ => (mx, instObj 199 dx) :: (dx, machD H KT x τ0 c τ1 l τ2 lb τ3 b τ4 k τ5) :: rest) (fun st => [(Str.ofString "common", .int st.1.1 st.1.2), (Str.ofString "diff", .int st.2.1 st.2.2)]) (fun _ => True) []
        (fun pre st => st.1.1 = (if cj < ci then cj else ci) + pre.length ∧ st.2.1 = 0 ∧ Sh (cutL x c l) (entL es kk.toNat) st.1.1.toNat) ((_, _), (0, _)) ?rh ?rr ?rs ?rn ?rF ?rN ?rf ?rk ?rp ?turn ?done
      case rh => exact rfl
      case rr => with_reducible assumption
      case rs => exact small_one (by split <;> omega) (by split <;> omega) (by k_extra "my num") (by k_extra "my num")
      case rn => exact rangeSize_nat _ _
      case rF => k_asm
      case rN => k_asm
      case rf => exact trivial
      case rk => (k_extra "my kall")
      case rp => exact ⟨by simp, rfl, hsh⟩
      case turn =>
        rintro ⟨⟨cm, tcm⟩, ⟨df, tdf⟩⟩ pre q tq u1 h1 tk1 own hq hlt hoff - ⟨hp1, hp2, hp3⟩ F8 N8
        dsimp only at hp1 hp2 hp3 N8; dsimp only [kstB] at F8
        simp only [List.cons_append] at N8
        dsimp only
        have hb := hp3.1
        have hcl3 := cutL_len hc0 hcl hl1
        have hce : 0 ≤ (if cj < ci then cj else ci) := by split <;> omega
        have hcm0 : 0 ≤ cm := by k_extra "my num"
        have hqc : q = cm := by k_extra "my num"
        subst hqc
        have hqL : q < ((es.getD kk.toNat Str.empty).length : Int) := by k_extra "my num"
        have hI9 := List.mem_append_left own hI'
        have hD9 := List.mem_append_left own hD'
        k_extra "my steps"
        · exact cut_end ((_, _), (_, _), _) (by k_asm) (by k_asm) (by k_extra "my sub") (by (k_extra "my kall")) (inn1 hc0 hcl hl1 hcm0 hp3 hqL (by with_reducible assumption))
        · exact cut_end ((_, _), (_, _), _) (by k_asm) (by k_asm) (by k_extra "my sub") (by (k_extra "my kall")) (inn2 hc0 hcl hl1 hcm0 hp3 hqL (by with_reducible assumption) (by with_reducible assumption))
        · exact kst_end ((_, _), (_, _)) (by k_asm) (by k_asm) (by k_extra "my sub") (by k_extra "my sub") rfl trivial (by (k_extra "my kall")) (by kst_same) ⟨by simp; omega, by with_reducible assumption, inn3 hc0 hcl hl1 hcm0 hp3 hqL (by with_reducible assumption) (by with_reducible assumption)⟩
      case done =>
        rintro ⟨⟨cm, tcm⟩, ⟨df, tdf⟩⟩ u1 h1 tk1 - ⟨hp1, hp2, hp3⟩ F8 N8
        dsimp only at hp1 hp2 hp3 N8; dsimp only [kstB] at F8
        have hce : 0 ≤ (if cj < ci then cj else ci) := by split <;> omega
        rw [rangeKs_length] at hp1
        subst hp2
        have hcv : 0 ≤ cm ∧ cm = ((es.getD kk.toNat Str.empty).length : Int) := by
          generalize (if cj < ci then cj else ci) = C0 at hp1 hce hshl
          omega
        exact cut_end ((_, _), (_, _), _) (by k_asm) (by k_asm) (by k_extra "my sub") (by (k_extra "my kall")) (inn4 hcv.1 hp3 hcv.2)
    case ccont2 =>
      rintro ⟨⟨cm, tcm⟩, ⟨df, tdf⟩, tkk⟩ u1 h1 tk1 hI F8 N8
      dsimp only at hI N8; dsimp only [kstB] at F8
      dsimp only
      clear hsh hshl hck hD' hI'
      k_extra "my steps"
      all_goals first
        | exact cut_end ((_, _), (_, _)) (by k_asm) (by k_asm) (fun _ h => h) (by (k_extra "my kall")) (turn_lt_exit hA hK1 hK2 hK3 hI (by with_reducible assumption) (by with_reducible assumption) (by first | exact .inl (by with_reducible assumption) | exact .inr (.inl (by with_reducible assumption)) | exact .inr (.inr (by with_reducible assumption))))
        | exact cut_end ((_, _), (_, _)) (by k_asm) (by k_asm) (fun _ h => h) (by (k_extra "my kall")) (turn_ge_exit hA hK1 hK2 hI (by with_reducible assumption) (by with_reducible assumption))
        | (refine mw_end (((_, _), (_, _)), ((_, _), (_, _)), _) (by k_asm) (by k_asm) (fun _ h => h) (by (k_extra "my kall")) (turn_lt_cont hA hK1 hK2 hI (by with_reducible assumption) (by with_reducible assumption)) ?_; exact ms_lt hK1 hK2)
        | (refine mw_end (((_, _), (_, _)), ((_, _), (_, _)), _) (by k_asm) (by k_asm) (fun _ h => h) (by (k_extra "my kall")) (turn_lt_fk hA hK1 hK2 hI (by with_reducible assumption) (by with_reducible assumption) (by with_reducible assumption) (by with_reducible assumption)) ?_; (with_reducible rename fk = false => hfk); subst hfk; exact ms_ltf hK1 hK2)
        | (refine mw_end (((_, _), (_, _)), ((_, _), (_, _)), _) (by k_asm) (by k_asm) (fun _ h => h) (by (k_extra "my kall")) (turn_ge_cont hA hK1 hK2 hI (by with_reducible assumption) (by with_reducible assumption)) ?_; exact ms_ge hK1 hK2 hK3 (by with_reducible assumption))
        | (refine mw_end (((_, _), (_, _)), ((_, _), (_, _)), _) (by k_asm) (by k_asm) (fun _ h => h) (by (k_extra "my kall")) (turn_ge_fk hA hK1 hK2 hI (by with_reducible assumption) (by with_reducible assumption) (by with_reducible assumption)) ?_; (with_reducible rename fk = false => hfk); subst hfk; exact ms_gef hK1 hK2)
  case ccont =>
    rintro ⟨⟨i, ti⟩, ⟨ci, tci⟩⟩ u1 h1 tk1 hX F8 N8
    dsimp only at hX N8; dsimp only [kstB] at F8
    dsimp only
    have hci0 := hX.2.2.1
    have hB := invB_start hE hX
    clear hX
    k_extra "my upto While"
    refine' mw_while (σ := Int × Tok) (fun _ => (mx, instObj 199 dx) :: (dx, machD H KT x τ0 c τ1 l τ2 lb τ3 b τ4 k τ5) :: rest) (fun st => [(Str.ofString "i", .int st.1 st.2), (Str.ofString "common_i", .int ci tci), (Str.ofString "self", .ref mx), (Str.ofString "v", .ref va), (Str.ofString "c", .int c τ1)])
        (fun st => InvB (entL es) es.length (cutL x c l) st.1 ci) (fun st => st.1.toNat) (_, _) ?kF ?kN ?kk ?kp ?_
    case kF => k_asm
    case kN => k_asm
    case kk => (k_extra "my kall")
    case kp => exact hB
    clear hB
    rintro ⟨i, ti⟩ u h tk hB F9 N9
    dsimp only at hB N9; dsimp only [kstB] at F9
    dsimp only
    have hb0 := hB.1
    have hb1 := hB.2.1
    have hck := hel i.toNat
    have hen : ((entL es i.toNat).length : Int) = (es.getD i.toNat Str.empty).length := by rw [show (entL es i.toNat).length = (es.getD i.toNat Str.empty).length from len_toList _]
    k_extra "my steps"
    · exact hret _ _ _ _ _ _ _ _ _ _ _ (by k_asm) (by k_asm) (found_hit hE hB (by k_extra "my num"))
    · exact hret _ _ _ _ _ _ _ _ _ _ _ (by k_asm) (by k_asm) (found_none hL hB (by k_extra "my num") (by with_reducible assumption))
    · refine mw_end (_, _) (by k_asm) (by k_asm) (fun _ h => h) (by (k_extra "my kall")) (invB_step hE hL hB (by k_extra "my num") (by with_reducible assumption)).1 ?_
      have := (invB_step hE hL hB (by k_extra "my num") (by with_reducible assumption)).2
      dsimp only; omega
 ) (by exact Nat) _))
def rentL (es : List Str) (t : Nat) : List Nat := (es.getD t Str.empty).cps.toList.reverse
def rcutL (x : Str) (lb c : Int) : List Nat := (cutL x lb c).reverse
theorem rent_len (es : List Str) (t : Nat) : (rentL es t).length = (es.getD t Str.empty).length := by
  unfold rentL
  rw [List.length_reverse, len_toList]
theorem rcutL_len {x : Str} {c l : Int} (h0 : 0 ≤ c) (h1 : c ≤ l) (h2 : l ≤ x.length) : ((rcutL x c l).length : Int) = l - c := by
  unfold rcutL
  rw [List.length_reverse, cutL_len h0 h1 h2]
theorem rev_getD {l : List Nat} {q : Nat} (h : q < l.length) : l.reverse.getD q 0 = l.getD (l.length - 1 - q) 0 := by
  rw [List.getD_eq_getElem?_getD, List.getElem?_reverse h, ← List.getD_eq_getElem?_getD]
theorem rcutL_getD {x : Str} {lb c q : Int} (h0 : 0 ≤ lb) (h2 : c ≤ x.length) (h1 : q < c - lb) (hq : 0 ≤ q) : (rcutL x lb c).getD q.toNat 0 = x.cps.toList.getD (c - 1 - q).toNat 0 := by
 exact Mine.quiet _ (type_of% (Mine.aside (by
  have hl := cutL_len (x := x) h0 (l := c) (by k_extra "my num") h2
  unfold rcutL
  rw [rev_getD (by k_extra "my num"), rv_toNat hq hl h1, cutL_getD h0 (by k_extra "my num") (by k_extra "my num"), show lb + (c - lb - 1 - q) = c - 1 - q by k_extra "my num"]
 ) (by exact Nat) _))
theorem rent_getD {es : List Str} {t : Nat} {q : Int} (h1 : q < ((es.getD t Str.empty).length : Int)) (hq : 0 ≤ q) : (rentL es t).getD q.toNat 0 = (es.getD t Str.empty).cps.toList.getD (((es.getD t Str.empty).length : Int) - 1 - q).toNat 0 := by
 exact Mine.quiet _ (type_of% (Mine.aside (by
  have hl := len_toList (es.getD t Str.empty)
  unfold rentL
  rw [rev_getD (by k_extra "my num"), hl, rv_toNat hq rfl h1]
 ) (by exact Nat) _))
theorem inb1 {x : Str} {c lb q K : Int} {es : List Str} (h0 : 0 ≤ lb) (h1 : lb ≤ c) (h2 : c ≤ x.length) (hq : 0 ≤ q) (hs : Sh (rcutL x lb c) (rentL es K.toNat) q.toNat) (hK : q < ((es.getD K.toNat Str.empty).length : Int)) (hl : c - q = lb) : InnA (rentL es) (rcutL x lb c) K q (-1) := by
 exact Mine.quiet _ (type_of% (Mine.aside (by
  have hc := rcutL_len h0 h1 h2
  have he := rent_len es K.toNat
  have e : q.toNat = (rcutL x lb c).length := by k_extra "my num"
  exact ⟨hq, ⟨hs, .inl e⟩, fun _ => llt_end hs e (by k_extra "my num"), fun _ => by decide⟩
 ) (by exact Nat) _))
theorem inb2 {x : Str} {c lb q z K : Int} {es : List Str} (h0 : 0 ≤ lb) (h1 : lb ≤ c) (h2 : c ≤ x.length) (hq : 0 ≤ q) (hs : Sh (rcutL x lb c) (rentL es K.toNat) q.toNat) (hK : q < ((es.getD K.toNat Str.empty).length : Int)) (hz : z = ((es.getD K.toNat Str.empty).length : Int) - 1 - q) (hl : c - q ≠ lb)
    (hd : (((Txt.item x (c - 1 - q)).cps.getD 0 0 : Nat) : Int) - ((Txt.item (es.getD K.toNat Str.empty) z).cps.getD 0 0 : Nat) ≠ 0) :
    InnA (rentL es) (rcutL x lb c) K q ((((Txt.item x (c - 1 - q)).cps.getD 0 0 : Nat) : Int) - ((Txt.item (es.getD K.toNat Str.empty) z).cps.getD 0 0 : Nat)) := by
 exact Mine.quiet _ (type_of% (Mine.aside (by
  subst hz
  have hc := rcutL_len h0 h1 h2
  have hb := hs.1
  have he := rent_len es K.toNat
  rw [item_ord (by k_extra "my num") (by k_extra "my num"), item_ord (by k_extra "my num") (by k_extra "my num"), ← rcutL_getD h0 h2 (by k_extra "my num") hq, ← rent_getD hK hq] at hd ⊢
  have hp := llt_part hs (by k_extra "my num") (by k_extra "my num") (by k_extra "my num")
  exact ⟨hq, ⟨hs, .inr (.inr (by k_extra "my num"))⟩, fun r => hp.mpr (by k_extra "my num"), fun r => by have := hp.mp r; omega⟩
 ) (by exact Nat) _))
theorem inb3 {x : Str} {c lb q z K : Int} {es : List Str} (h0 : 0 ≤ lb) (h1 : lb ≤ c) (h2 : c ≤ x.length) (hq : 0 ≤ q) (hs : Sh (rcutL x lb c) (rentL es K.toNat) q.toNat) (hK : q < ((es.getD K.toNat Str.empty).length : Int)) (hz : z = ((es.getD K.toNat Str.empty).length : Int) - 1 - q) (hl : c - q ≠ lb)
    (hd : (((Txt.item x (c - 1 - q)).cps.getD 0 0 : Nat) : Int) - ((Txt.item (es.getD K.toNat Str.empty) z).cps.getD 0 0 : Nat) = 0) : Sh (rcutL x lb c) (rentL es K.toNat) (q + 1).toNat := by
 exact Mine.quiet _ (type_of% (Mine.aside (by
  subst hz
  have hc := rcutL_len h0 h1 h2
  have hb := hs.1
  have he := rent_len es K.toNat
  rw [item_ord (by k_extra "my num") (by k_extra "my num"), item_ord (by k_extra "my num") (by k_extra "my num"), ← rcutL_getD h0 h2 (by k_extra "my num") hq, ← rent_getD hK hq] at hd
  rw [show (q + 1).toNat = q.toNat + 1 by k_extra "my num"]
  exact hs.succ (by k_extra "my num") (by k_extra "my num") (by k_extra "my num")
 ) (by exact Nat) _))
theorem inb4 {x : Str} {c lb q K : Int} {es : List Str} (hq : 0 ≤ q) (hs : Sh (rcutL x lb c) (rentL es K.toNat) q.toNat) (hK : q = ((es.getD K.toNat Str.empty).length : Int)) : InnA (rentL es) (rcutL x lb c) K q 0 := by
 exact Mine.quiet _ (type_of% (Mine.aside (by
  have he := rent_len es K.toNat
  have e : q.toNat = (rentL es K.toNat).length := by k_extra "my num"
  exact ⟨hq, ⟨hs, .inr (.inl e)⟩, fun r => absurd r (by decide), fun r => absurd r (llt_full hs e)⟩
 ) (by exact Nat) _))
theorem foundb_hit {E : Nat → List Nat} {n : Nat} {P : List Nat} {i ci c z : Int} (hE : Rise E n) (h : InvB E n P i ci) (q : ((E i.toNat).length : Int) ≤ ci) (hz : z = (E i.toNat).length := by k_extra "my num") : FoundA E n P (i.toNat + 1) (c - (c - z)) := by
 exact Mine.quiet _ (type_of% (Mine.aside (by
  obtain ⟨a, b⟩ := invB_hit hE h q
  exact .inl ⟨i.toNat, by have := h.2.1; have := h.1; omega, a, b, rfl, by k_extra "my num"⟩
 ) (by exact Nat) _))
theorem find_among_b_spec {prog : Program} {w : World} {p : Program} {loose : List Str} {mean : ExcName → Option Value} {mg mb : Str → Option Value}
  {dp un : Nat} {gd : Option (List Code)} {cn : Str} {cs : Scope} {a : Addr} {ccd : Value} {cl : List (Str × Addr)} {outer : List Env} {A₀ : Around} {base h₀ : Heap} {L : Addr} {m : Str → Option Value} {s : Shared} {Q E : Value → Shared → Prop}
  {mx dx va nv : Nat} {H : Nat → Int} {KT : Nat → Tok} {x : Str} {c l lb b k : Int} {τ0 τ1 τ2 τ3 τ4 τ5 : Tok} {rest : List (Addr × Obj)} {xa da : Nat → Nat} {es : List Str} {sub : Nat → Int}
  (B : Below A₀ base outer h₀) (F : Fr h₀ L s.heap m) (X : (hd0.heap_1_1 w.params).In h₀) (N : News h₀ L s.heap ((mx, instObj 199 dx) :: (dx, machD H KT x τ0 c τ1 l τ2 lb τ3 b τ4 k τ5) :: rest)) (T : Top p loose mean mg mb h₀) (hk : cs.kind = .function)
  (hmd : mx ≠ dx) (hr : ∀ p ∈ rest, p.1 ≠ dx) (hx : x.length ≤ 1000) (hc0 : 0 ≤ c) (hcl : c ≤ l) (hl1 : l ≤ x.length) (hlb : 0 ≤ lb) (hlc : lb ≤ c) (hT : Tab rest va nv xa da es sub (fun t => (t : Int) + 1)) (hn0 : 0 < es.length) (hn1 : es.length ≤ 100) (hel : ∀ i, (es.getD i Str.empty).length ≤ 100)
  (hE : Rise (rentL es) es.length) (hL : Links (rentL es) es.length sub)
  (hdp : dp + 1 < recursionLimit) (hun : un + 8 < cLine)
  (hret : ∀ (v c' : Int) (tv τ0 τ1 τ2 τ3 τ4 τ5 : Tok) (h' : Heap) (tk' : Nat), Fr h₀ L h' m → News h₀ L h' ((mx, instObj 199 dx) :: (dx, machD H KT x τ0 c' τ1 l τ2 lb τ3 b τ4 k τ5) :: rest) → FoundA (rentL es) es.length (rcutL x lb c) v (c - c') → Q (.int v tv) { s with heap := h', toks := tk' }) :
  wpAny (model prog w) (ktrTop dp un gd cn cs L a ccd cl outer) (call (.ref 140) [.ref mx, .ref va]) Q E s := by
 exact Mine.quiet _ (type_of% (Mine.aside (by
  refine wpAny_call ?_
  k_dflt ktr_enter
  k_extra "my upto While"
  refine' cut_stmt (σ := (Int × Tok) × (Int × Tok)) (fun _ => (mx, instObj 199 dx) :: (dx, machD H KT x τ0 c τ1 l τ2 lb τ3 b τ4 k τ5) :: rest) (fun st => [(Str.ofString "i", .int st.1.1 st.1.2), (Str.ofString "common_i", .int st.2.1 st.2.2), (Str.ofString "self", .ref mx), (Str.ofString "v", .ref va), (Str.ofString "c", .int c τ1)])
      (fun st => ExitA (rentL es) es.length (rcutL x lb c) st.1.1 st.2.1) ?cF ?cmain ?ccont
  case cF => k_asm
  case cmain =>
    refine' mw_while (σ := ((Int × Tok) × (Int × Tok)) × ((Int × Tok) × (Int × Tok)) × Bool) (fun _ => (mx, instObj 199 dx) :: (dx, machD H KT x τ0 c τ1 l τ2 lb τ3 b τ4 k τ5) :: rest) (fun st => [(Str.ofString "i", .int st.1.1.1 st.1.1.2), (Str.ofString "j", .int st.1.2.1 st.1.2.2), (Str.ofString "common_i", .int st.2.1.1.1 st.2.1.1.2), (Str.ofString "common_j", .int st.2.1.2.1 st.2.1.2.2), (Str.ofString "first_key_inspected", .bool st.2.2), (Str.ofString "self", .ref mx), (Str.ofString "v", .ref va), (Str.ofString "c", .int c τ1), (Str.ofString "lb", .int lb τ3)])
        (fun st => InvA (rentL es) es.length (rcutL x lb c) st.1.1.1 st.1.2.1 st.2.1.1.1 st.2.1.2.1 st.2.2) (fun st => (2 * (st.1.2.1 - st.1.1.1) + if st.2.2 then 0 else 1).toNat) (((0, _), (_, _)), ((0, _), (0, _)), false) ?kF ?kN ?kk ?kp ?_
    case kF => k_asm
    case kN => k_asm
    case kk => (k_extra "my kall")
    case kp => exact invA_start hn0
    rintro ⟨⟨⟨i, ti⟩, ⟨j, tj⟩⟩, ⟨⟨ci, tci⟩, ⟨cj, tcj⟩⟩, fk⟩ u h tk hA F9 N9
    dsimp only at hA N9; dsimp only [kstB] at F9
    have hA0 := hA
    obtain ⟨hi0, hij, hj, -, -, hci, hcj, -⟩ := hA0
    dsimp only
    have hmid := fdiv_mid (d := j - i) (by k_extra "my num")
    have hK1 : i ≤ i + (j - i).fdiv (2 ^ Int.toNat 1) := by k_extra "my num"
    have hK2 : i + (j - i).fdiv (2 ^ Int.toNat 1) < j := by k_extra "my num"
    have hK3 : 2 ≤ j - i → i < i + (j - i).fdiv (2 ^ Int.toNat 1) := by k_extra "my num"
    have hck := hel (i + (j - i).fdiv (2 ^ Int.toNat 1)).toNat
    have hsh := invA_sh (k := i + (j - i).fdiv (2 ^ Int.toNat 1)) hE hA (by k_extra "my num") (by k_extra "my num")
    have hshl := hsh.2.1
    rw [show (rentL es (i + (j - i).fdiv (2 ^ Int.toNat 1)).toNat).length = (es.getD (i + (j - i).fdiv (2 ^ Int.toNat 1)).toNat Str.empty).length from rent_len es _] at hshl
    k_extra "my onestep"
    k_extra "my onestep"
    k_extra "my onestep"
    k_extra "my onestep"
    k_extra "my onestep"
    k_extra "my upto For"
    with_reducible rename (_, dictOf _ _) ∈ rest => hD'
    with_reducible rename (_, instObj _ _) ∈ rest => hI'
    with_reducible rename Fr _ _ _ _ => F7
    clear hmid
    (try dsimp only)
    generalize i + (j - i).fdiv (2 ^ Int.toNat 1) = kk at F7 hck hsh hshl hK1 hK2 hK3 hD' hI' ⊢
    refine' cut_stmt (σ := (Int × Tok) × (Int × Tok) × Tok) (fun _ => (mx, instObj 199 dx) :: (dx, machD H KT x τ0 c τ1 l τ2 lb τ3 b τ4 k τ5) :: rest) (fun st => [(Str.ofString "common", .int st.1.1 st.1.2), (Str.ofString "diff", .int st.2.1.1 st.2.1.2), (Str.ofString "k", .int kk st.2.2),
        (Str.ofString "i", .int i ti), (Str.ofString "j", .int j tj), (Str.ofString "common_i", .int ci tci), (Str.ofString "common_j", .int cj tcj), (Str.ofString "first_key_inspected", .bool fk), (Str.ofString "self", .ref mx), (Str.ofString "v", .ref va), (Str.ofString "c", .int c τ1), (Str.ofString "lb", .int lb τ3)])
           (fun st => InnA (rentL es) (rcutL x lb c) kk st.1.1 st.2.1.1) ?cF2 ?cmain2 ?ccont2
    case cF2 => k_asm
    case cmain2 =>
      k_extra "my upto iter"
      refine' kst_rangeD (σ := (Int × Tok) × (Int × Tok)) (fun _ => (mx, instObj 199 dx) :: (dx, machD H KT x τ0 c τ1 l τ2 lb τ3 b τ4 k τ5) :: rest) (fun st => [(Str.ofString "common", .int st.1.1 st.1.2), (Str.ofString "diff", .int st.2.1 st.2.2)]) (fun _ => True) []
        (fun pre st => st.1.1 = (if cj < ci then cj else ci) + pre.length ∧ st.2.1 = 0 ∧ Sh (rcutL x lb c) (rentL es kk.toNat) st.1.1.toNat) ((_, _), (0, _)) ?rh ?rr ?rs ?rn ?rF ?rN ?rf ?rk ?rp ?turn ?done
      case rh => exact rfl
      case rr => with_reducible assumption
      case rs => exact small_down (by split <;> omega) (by split <;> omega) (by k_extra "my num") (by k_extra "my num")
      case rn => exact rangeSize_downNat _ _
      case rF => k_asm
      case rN => k_asm
      case rf => exact trivial
      case rk => (k_extra "my kall")
      case rp => exact ⟨by simp, rfl, hsh⟩
      case turn =>
        rintro ⟨⟨cm, tcm⟩, ⟨df, tdf⟩⟩ pre q tq u1 h1 tk1 own hq hlt hoff - ⟨hp1, hp2, hp3⟩ F8 N8
        dsimp only at hp1 hp2 hp3 N8; dsimp only [kstB] at F8
        simp only [List.cons_append] at N8
        dsimp only
        have hb := hp3.1
        have hcl3 := rcutL_len hlb hlc (Int.le_trans hcl hl1)
        have hce : 0 ≤ (if cj < ci then cj else ci) := by split <;> omega
        have hcm0 : 0 ≤ cm := by k_extra "my num"
        have hqc : q = ((es.getD kk.toNat Str.empty).length : Int) - 1 - cm := by k_extra "my num"
        have hqL : cm < ((es.getD kk.toNat Str.empty).length : Int) := by k_extra "my num"
        have hI9 := List.mem_append_left own hI'
        have hD9 := List.mem_append_left own hD'
        k_extra "my steps"
        · exact cut_end ((_, _), (_, _), _) (by k_asm) (by k_asm) (by k_extra "my sub") (by (k_extra "my kall")) (inb1 hlb hlc (Int.le_trans hcl hl1) hcm0 hp3 hqL (by with_reducible assumption))
        · exact cut_end ((_, _), (_, _), _) (by k_asm) (by k_asm) (by k_extra "my sub") (by (k_extra "my kall")) (inb2 hlb hlc (Int.le_trans hcl hl1) hcm0 hp3 hqL hqc (by with_reducible assumption) (by with_reducible assumption))
        · exact kst_end ((_, _), (_, _)) (by k_asm) (by k_asm) (by k_extra "my sub") (by k_extra "my sub") rfl trivial (by (k_extra "my kall")) (by kst_same) ⟨by simp; omega, by with_reducible assumption, inb3 hlb hlc (Int.le_trans hcl hl1) hcm0 hp3 hqL hqc (by with_reducible assumption) (by with_reducible assumption)⟩
      case done =>
        rintro ⟨⟨cm, tcm⟩, ⟨df, tdf⟩⟩ u1 h1 tk1 - ⟨hp1, hp2, hp3⟩ F8 N8
        dsimp only at hp1 hp2 hp3 N8; dsimp only [kstB] at F8
        have hce : 0 ≤ (if cj < ci then cj else ci) := by split <;> omega
        rw [downKs_length] at hp1
        subst hp2
        have hcv : 0 ≤ cm ∧ cm = ((es.getD kk.toNat Str.empty).length : Int) := by
          generalize (if cj < ci then cj else ci) = C0 at hp1 hce hshl
          omega
        exact cut_end ((_, _), (_, _), _) (by k_asm) (by k_asm) (by k_extra "my sub") (by (k_extra "my kall")) (inb4 hcv.1 hp3 hcv.2)
    case ccont2 =>
      rintro ⟨⟨cm, tcm⟩, ⟨df, tdf⟩, tkk⟩ u1 h1 tk1 hI F8 N8
      dsimp only at hI N8; dsimp only [kstB] at F8
      dsimp only
      clear hsh hshl hck hD' hI'
      k_extra "my steps"
      all_goals first
        | exact cut_end ((_, _), (_, _)) (by k_asm) (by k_asm) (fun _ h => h) (by (k_extra "my kall")) (turn_lt_exit hA hK1 hK2 hK3 hI (by with_reducible assumption) (by with_reducible assumption) (by first | exact .inl (by with_reducible assumption) | exact .inr (.inl (by with_reducible assumption)) | exact .inr (.inr (by with_reducible assumption))))
        | exact cut_end ((_, _), (_, _)) (by k_asm) (by k_asm) (fun _ h => h) (by (k_extra "my kall")) (turn_ge_exit hA hK1 hK2 hI (by with_reducible assumption) (by with_reducible assumption))
        | (refine mw_end (((_, _), (_, _)), ((_, _), (_, _)), _) (by k_asm) (by k_asm) (fun _ h => h) (by (k_extra "my kall")) (turn_lt_cont hA hK1 hK2 hI (by with_reducible assumption) (by with_reducible assumption)) ?_; exact ms_lt hK1 hK2)
        | (refine mw_end (((_, _), (_, _)), ((_, _), (_, _)), _) (by k_asm) (by k_asm) (fun _ h => h) (by (k_extra "my kall")) (turn_lt_fk hA hK1 hK2 hI (by with_reducible assumption) (by with_reducible assumption) (by with_reducible assumption) (by with_reducible assumption)) ?_; (with_reducible rename fk = false => hfk); subst hfk; exact ms_ltf hK1 hK2)
        | (refine mw_end (((_, _), (_, _)), ((_, _), (_, _)), _) (by k_asm) (by k_asm) (fun _ h => h) (by (k_extra "my kall")) (turn_ge_cont hA hK1 hK2 hI (by with_reducible assumption) (by with_reducible assumption)) ?_; exact ms_ge hK1 hK2 hK3 (by with_reducible assumption))
        | (refine mw_end (((_, _), (_, _)), ((_, _), (_, _)), _) (by k_asm) (by k_asm) (fun _ h => h) (by (k_extra "my kall")) (turn_ge_fk hA hK1 hK2 hI (by with_reducible assumption) (by with_reducible assumption) (by with_reducible assumption)) ?_; (with_reducible rename fk = false => hfk); subst hfk; exact ms_gef hK1 hK2)
  case ccont =>
    rintro ⟨⟨i, ti⟩, ⟨ci, tci⟩⟩ u1 h1 tk1 hX F8 N8
    dsimp only at hX N8; dsimp only [kstB] at F8
    dsimp only
    have hci0 := hX.2.2.1
    have hB := invB_start hE hX
    clear hX
    k_extra "my upto While"
    refine' mw_while (σ := Int × Tok) (fun _ => (mx, instObj 199 dx) :: (dx, machD H KT x τ0 c τ1 l τ2 lb τ3 b τ4 k τ5) :: rest) (fun st => [(Str.ofString "i", .int st.1 st.2), (Str.ofString "common_i", .int ci tci), (Str.ofString "self", .ref mx), (Str.ofString "v", .ref va), (Str.ofString "c", .int c τ1)])
        (fun st => InvB (rentL es) es.length (rcutL x lb c) st.1 ci) (fun st => st.1.toNat) (_, _) ?kF ?kN ?kk ?kp ?_
    case kF => k_asm
    case kN => k_asm
    case kk => (k_extra "my kall")
    case kp => exact hB
    clear hB
    rintro ⟨i, ti⟩ u h tk hB F9 N9
    dsimp only at hB N9; dsimp only [kstB] at F9
    dsimp only
    have hb0 := hB.1
    have hb1 := hB.2.1
    have hck := hel i.toNat
    have hen : ((rentL es i.toNat).length : Int) = (es.getD i.toNat Str.empty).length := by rw [show (rentL es i.toNat).length = (es.getD i.toNat Str.empty).length from rent_len es _]
    k_extra "my steps"
    · exact hret _ _ _ _ _ _ _ _ _ _ _ (by k_asm) (by k_asm) (foundb_hit hE hB (by k_extra "my num"))
    · exact hret _ _ _ _ _ _ _ _ _ _ _ (by k_asm) (by k_asm) (found_none hL hB (by k_extra "my num") (by with_reducible assumption))
    · refine mw_end (_, _) (by k_asm) (by k_asm) (fun _ h => h) (by (k_extra "my kall")) (invB_step hE hL hB (by k_extra "my num") (by with_reducible assumption)).1 ?_
      have := (invB_step hE hL hB (by k_extra "my num") (by with_reducible assumption)).2
      dsimp only; omega
 ) (by exact Nat) _))
section
variable {prog : Program} {w : World} {A : Around} {h₀ : Heap} {L : Addr} {m : Str → Option Value} {env : Env} {elt ct : PySem.Expr} {x : Str} {scope : Scope} {cl : List (Str × Addr)} {s : Shared} {S : List (Addr × Obj) → Prop} {P : Nat → Value → Prop} {Fin : List Value → List (Addr × Obj) → Prop} {news : List (Addr × Obj)}
/-- a comprehension by what holds between its turns -/
theorem comp_inv {n : Nat} (J : Nat → List Value → List (Addr × Obj) → Prop) (h0 : J 0 [] news)
    (turn : ∀ i v ys nw I oI C oC D m₂ h tk (E' : Value → Shared → Prop), i < n → P i v → J i ys nw → LCg.NsObj oC m₂ → m₂ x = some v → Fr h₀ L h m → News h₀ L h ((I, oI) :: (C, oC) :: (D, LCg.lst ys) :: nw) → LCg.Off3 I C D nw → ((@Ne Nat I C) ∧ (@Ne Nat I D) ∧ (@Ne Nat C D)) →
      wpAny (model prog w) A (eval elt (compEnvC scope cl C env)) (LCg.CompEnd h₀ L m { s with heap := h, toks := tk } I oI C oC D (LCg.lst ys) S (fun y nw' => J (i + 1) (ys ++ [y]) nw')) E' { s with heap := h, toks := tk })
    (fin : ∀ ys nw, J n ys nw → Fin ys nw) : LCg.CompRest prog w A h₀ L m env elt x scope cl s S P Fin n 0 [] news := by
  have key : ∀ (j i : Nat) (ys : List Value) (nw : List (Addr × Obj)), i + j = n → J i ys nw → LCg.CompRest prog w A h₀ L m env elt x scope cl s S P Fin j i ys nw := by
    intro j
    induction j with
    | zero =>
      intro i ys nw hi hJ
      have e : i = n := by omega
      subst e
      exact LCg.CompRest.zero (fin ys nw hJ)
    | succ j ih =>
      intro i ys nw hi hJ
      refine LCg.CompRest.succ ?_
      intro v I oI C oC D m₂ h tk E' hv hC hx F N off ne
      refine wpAny_mono (turn i v ys nw I oI C oC D m₂ h tk E' (by omega) hv hJ hC hx F N off ne) (fun y s₂ hq => ?_) fun _ _ e => e
      obtain ⟨h', tk', nw', e, F', N', off', hS, hJ'⟩ := hq
      exact ⟨h', tk', nw', e, F', N', off', hS, ih (i + 1) _ _ (by omega) hJ'⟩
  exact key n 0 [] news (by omega) h0
theorem comp_invT {n : Nat} (J : Nat → List Value → List (Addr × Obj) → Prop) (h0 : J 0 [] news)
    (turn : ∀ i v ys nw I oI C oC D m₂ h tk (E' : Value → Shared → Prop), i < n → P i v → J i ys nw → LCg.NsObj oC m₂ → m₂ x = some v → Fr h₀ L h m → News h₀ L h ((I, oI) :: (C, oC) :: (D, LCg.lst ys) :: nw) → LCg.Off3 I C D nw → ((@Ne Nat I C) ∧ (@Ne Nat I D) ∧ (@Ne Nat C D)) →
      wpAny (model prog w) A (isTrue ct (compEnvC scope cl C env) (eval ct (compEnvC scope cl C env))) (fun ok s' => if ok = true then
        wpAny (model prog w) A (eval elt (compEnvC scope cl C env)) (LCg.CompEnd h₀ L m { s with heap := h, toks := tk } I oI C oC D (LCg.lst ys) S (fun y nw' => J (i + 1) (ys ++ [y]) nw')) E' s'
        else LCg.CompEnd h₀ L m { s with heap := h, toks := tk } I oI C oC D (LCg.lst ys) S (fun _ nw' => J (i + 1) ys nw') Value.none s') E' { s with heap := h, toks := tk })
    (fin : ∀ ys nw, J n ys nw → Fin ys nw) : LCt.CompRestT prog w A h₀ L m env ct elt x scope cl s S P Fin n 0 [] news := by
  have key : ∀ (j i : Nat) (ys : List Value) (nw : List (Addr × Obj)), i + j = n → J i ys nw → LCt.CompRestT prog w A h₀ L m env ct elt x scope cl s S P Fin j i ys nw := by
    intro j
    induction j with
    | zero =>
      intro i ys nw hi hJ
      have e : i = n := by omega
      subst e
      exact LCt.CompRestT.zero (fin ys nw hJ)
    | succ j ih =>
      intro i ys nw hi hJ
      refine LCt.CompRestT.succ ?_
      intro v I oI C oC D m₂ h tk E' hv hC hx F N off ne
      refine wpAny_mono (turn i v ys nw I oI C oC D m₂ h tk E' (by omega) hv hJ hC hx F N off ne) (fun ok s' hq => ?_) fun _ _ e => e
      cases ok with
      | true =>
        simp only [if_true] at hq ⊢
        refine wpAny_mono hq (fun y s₂ hq => ?_) fun _ _ e => e
        obtain ⟨h', tk', nw', e, F', N', off', hS, hJ'⟩ := hq
        exact ⟨h', tk', nw', e, F', N', off', hS, ih (i + 1) _ _ (by omega) hJ'⟩
      | false =>
        simp only [Bool.false_eq_true, if_false] at hq ⊢
        obtain ⟨h', tk', nw', e, F', N', off', hS, hJ'⟩ := hq
        exact ⟨h', tk', nw', e, F', N', off', hS, ih (i + 1) _ _ (by omega) hJ'⟩
  exact key n 0 [] news (by omega) h0
end

/-- a for over a range, whatever its target: by what holds between its turns -/
def MrEnd {σ : Type} (h₀ : Heap) (L : Addr) (s : Shared) (Led : σ → List (Addr × Obj)) (ps : σ → List (Str × Value)) (P : σ → Prop) (I : Addr) (oI : Obj) (s₂ : Shared) : Prop :=
  ∃ (c' : σ) (h' : Heap) (tk : Nat) (m' : Str → Option Value) (news' : List (Addr × Obj)), s₂ = { s with heap := h', toks := tk } ∧ Fr h₀ L h' m' ∧ News h₀ L h' news' ∧ (I, oI) ∈ news' ∧ (∀ p ∈ Led c', p ∈ news') ∧ (∀ p ∈ Led c', @Ne Nat p.1 I) ∧ (∀ p ∈ ps c', m' p.1 = some p.2) ∧ P c'
def MrPost {σ : Type} (h₀ : Heap) (L : Addr) (s : Shared) (Led : σ → List (Addr × Obj)) (ps : σ → List (Str × Value)) (P : σ → Prop) (I : Addr) (oI : Obj) (Q : Flow → Shared → Prop) (f : Flow) (s₂ : Shared) : Prop :=
  match f with
  | .ret v => Q (.ret v) s₂
  | .brk => Q .next s₂
  | _ => MrEnd h₀ L s Led ps P I oI s₂
theorem mr_end {σ : Type} {h₀ : Heap} {L : Addr} {s : Shared} {Led : σ → List (Addr × Obj)} {ps : σ → List (Str × Value)} {m' : Str → Option Value} {P : σ → Prop} {I : Addr} {oI : Obj} {h' : Heap} {tk : Nat} {news' : List (Addr × Obj)} (c' : σ)
    (F : Fr h₀ L h' m') (N : News h₀ L h' news') (hI : (I, oI) ∈ news') (hn : ∀ p ∈ Led c', p ∈ news') (ho : ∀ p ∈ Led c', @Ne Nat p.1 I) (hk : ∀ p ∈ ps c', m' p.1 = some p.2) (hp : P c') :
    MrEnd h₀ L s Led ps P I oI { s with heap := h', toks := tk } := ⟨c', h', tk, m', news', rfl, F, N, hI, hn, ho, hk, hp⟩
theorem mr_range {prog : Program} {w : World} {A : Around} {E : Value → Shared → Prop} {Q : Flow → Shared → Prop} {s : Shared} {env : Env} {h₀ : Heap} {L : Addr} {σ : Type} {target : PySem.Expr} {body : List Stmt} {m₀ : Str → Option Value} {r : Addr} {a b : Int} {t₀ u₀ v₀ : Tok} {n : Nat}
    (Led : σ → List (Addr × Obj)) (ps : σ → List (Str × Value)) (P : Nat → σ → Prop) (c₀ : σ)
    (hh : A.handled = none) (hr : IsRange s.heap r a b 1 t₀ u₀ v₀) (hsmall : Builtin.Range.small a b 1 = true) (hn : Builtin.Range.rangeSize a b 1 = (n : Int))
    (F : Fr h₀ L s.heap m₀) (N : News h₀ L s.heap (Led c₀)) (hk : ∀ p ∈ ps c₀, m₀ p.1 = some p.2) (hp : P 0 c₀)
    (turn : ∀ (i : Nat) (c : σ) (u : Str → Option Value) (h : Heap) (tk : Nat) (t : Tok) (I : Addr) (oI : Obj), i < n → P i c → Fr h₀ L h (kstB u (ps c)) → News h₀ L h ((I, oI) :: Led c) → (∀ p ∈ Led c, @Ne Nat p.1 I) →
      wpAny (model prog w) A (assign target env (.int (a + (i : Int)) t)) (fun _ s₂ => wpAny (model prog w) A (execs body env) (MrPost h₀ L s Led ps (P (i + 1)) I oI Q) E s₂) E { s with heap := h, toks := tk })
    (done : ∀ (c : σ) (u : Str → Option Value) (h : Heap) (tk : Nat), P n c → Fr h₀ L h (kstB u (ps c)) → News h₀ L h (Led c) → Q .next { s with heap := h, toks := tk })
    (ht : ∀ it v, letOwnedTupleGo target it v = pure () := by intro _ _; rfl) (hE : PassesOwn (model prog w) A env E := by passes_own) :
    wpAny (model prog w) A (pyIter (.ref r)) (fun it s₂ => codeAny (model prog w) A (.forLoop target it body [] env) (fun r s' => match r with | .ok f => Q f s' | .error e => cameBackBy (model prog w) A env E e s') s₂) E s := by
  refine wpAny_pyIter_range hr hsmall ?_
  have W := LCg.range_walks (prog := prog) (w := w) (A := A) (I := s.heap.objs.size) hh a n
  have hL : L ≠ s.heap.objs.size := Nat.ne_of_lt F.ns.lt
  have hI₀ : h₀.get? s.heap.objs.size = none := next_is_new F
  refine codeAny_forLoop (ht := fun v => ht _ v) (fun k s' => ∃ (i : Nat) (c : σ) (h : Heap) (tk : Nat) (m : Str → Option Value), i ≤ n ∧ k = n - i ∧ s' = { s with heap := h, toks := tk } ∧ IsRangeIter h s.heap.objs.size (a + (i : Nat) * 1) ((n : Int) - (i : Nat)) 1 ∧ Fr h₀ L h m ∧ News h₀ L h (Led c) ∧ (∀ p ∈ Led c, @Ne Nat p.1 s.heap.objs.size) ∧ (∀ p ∈ ps c, m p.1 = some p.2) ∧ P i c)
    ?_ n ⟨0, c₀, _, _, m₀, Nat.zero_le _, rfl, rfl, by show IsRangeIter _ _ _ _ _; rw [hn]; simpa using Heap.get?_push_size _ rfl, F.push _, fun p hp => ⟨Heap.get?_push_of_some _ (N p hp).1, (N p hp).2⟩, fun p hp => Nat.ne_of_lt (Heap.lt_size (N p hp).1), hk, hp⟩
  rintro k s' ⟨i, c, h, tk, m, hi, rfl, rfl, st, F', N', off, hk', hP⟩
  by_cases hlt : i < n
  · refine W.item i _ _ _ hlt st fun v h' tk' hv st' keep => ?_
    obtain ⟨t, rfl⟩ := hv
    have F2 := LCg.fr_but F' keep hL hI₀
    have N2 := LCg.news_but N' keep off
    obtain ⟨oI, heI⟩ : ∃ oI, h'.get? s.heap.objs.size = some oI := ⟨_, st'⟩
    refine wpAny_mono (turn i c m h' tk' t s.heap.objs.size oI hlt hP (fr_kstB F2 hk') (fun p hp => ?_) off) (fun _ s₂ h₂ => ?_) hE
    · rcases List.mem_cons.mp hp with rfl | hp
      · exact ⟨heI, Ne.symm hL, hI₀⟩
      · exact N2 p hp
    · refine wpAny_mono h₂ (fun f s₃ q => ?_) hE
      have go : MrEnd h₀ L s Led ps (P (i + 1)) s.heap.objs.size oI s₃ → ∃ m_1, m_1 < n - i ∧ ∃ (i : Nat) (c : σ) (h : Heap) (tk : Nat) (m : Str → Option Value), i ≤ n ∧ m_1 = n - i ∧ s₃ = { s with heap := h, toks := tk } ∧ IsRangeIter h s.heap.objs.size (a + (i : Nat) * 1) ((n : Int) - (i : Nat)) 1 ∧ Fr h₀ L h m ∧ News h₀ L h (Led c) ∧ (∀ p ∈ Led c, @Ne Nat p.1 s.heap.objs.size) ∧ (∀ p ∈ ps c, m p.1 = some p.2) ∧ P i c := by
        rintro ⟨c', h3, tk3, m3, news3, rfl, F3, N3, hI3, hn3, ho3, hk3, hp3⟩
        refine ⟨n - (i + 1), by omega, i + 1, c', h3, tk3, m3, hlt, rfl, rfl, ?_, F3, fun p hp => N3 p (hn3 p hp), ho3, hk3, hp3⟩
        have e3 : h3.get? s.heap.objs.size = some oI := (N3 _ hI3).1
        have st2 : h'.get? s.heap.objs.size = some _ := st'
        rw [heI] at st2
        show h3.get? s.heap.objs.size = some _
        rw [e3, st2]
      cases f with
      | ret v => exact q
      | brk => exact q
      | next => exact go q
      | cont => exact go q
  · obtain rfl : i = n := Nat.le_antisymm hi (Nat.not_lt.mp hlt)
    refine W.done _ _ _ st fun h' tk' keep => ?_
    refine wpAny_execs_nil ?_
    exact done c m h' tk' hP (fr_kstB (LCg.fr_but F' keep hL hI₀) hk') (LCg.news_but N' keep off)
section
variable {prog : Program} {w : World} {A : Around} {E : Value → Shared → Prop} {s : Shared} {h₀ : Heap} {L : Addr} {m : Str → Option Value} {Q : Value → Shared → Prop} {news : List (Addr × Obj)} {K : Frag}
/-- an item of a list of texts that stands at the top, at a place in it: its length is known -/
theorem topText_K {value slice : PySem.Expr} {a : Addr} {l : List Value} {n : Nat} {ys : List Str} {k : Int} {u : Tok} {B : Nat} (X : K.In s.heap) (e : K.lookup a = some (PySem.W.listOf l.toArray n)) (hi : StrsAre l ys) (hB : (ys.all fun y => decide (y.length ≤ B)) = true)
    (h0 : 0 ≤ k) (hk : k < ys.length) (hfit : k < 2 ^ 63) (h : ∀ z t', z.length ≤ B → Q (.str z t') s)
    (hs : subscripted slice false (.ref a) (.int k u) = operate [.ref a, .int k u] (getItem (.ref a) (.int k u)) := by with_unfolding_all rfl) (hg : ∀ r, letTemporaryGo value (.ref a) r = pure () := by intro _; with_unfolding_all rfl) :
    wpAny (model prog w) A (subscriptTail value slice (.ref a) (.int k u)) Q E s := by
  have hlt : k.toNat < ys.length := by omega
  refine item_strsA (l := l) ⟨_, X _ _ e, rfl, n, rfl⟩ hi h0 hk hfit (fun t' => h _ t' ?_) hs hg
  have hm : ys.getD k.toNat Str.empty ∈ ys := by
    rw [List.getD_eq_getElem?_getD, List.getElem?_eq_getElem hlt]
    exact List.getElem_mem hlt
  exact of_decide_eq_true (List.all_eq_true.mp hB _ hm)
theorem rev_list (x : Str) (u : Tok) : (Txt.sliceBy x none none (-1, u)).cps.toList = x.cps.toList.reverse := by
  rw [← fold_front_eq_rev x ⟨#[]⟩ rfl u]
  exact fold_front_list x ⟨#[]⟩ rfl
end


theorem words_jGrp_6 : True := by
  k_with_none
  k_with "my own k_all" => first | with_reducible assumption | exact Mine.ne_nil9 | exact Mine.off1_D (by with_reducible assumption) | (refine' Mine.ne_cons9 ?h39209a ?h39209b; (case h39209a => k_ne); (case h39209b => k_all)) | exact Mine.ne_allLt (by with_reducible assumption) | assumption | exact Mine.ne_allLt (by assumption) | exact List.forall_mem_nil _ | (refine' List.forall_mem_cons.mpr ⟨?h39209a, ?h39209b⟩; (case h39209a => k_ne); (case h39209b => k_all))
  k_with "my exec If" => refine wpAny_If ?_
  k_with "my subscriptTail" => (k_here; (with_reducible show wpAny _ _ (subscriptTail _ _ (Value.str _ _) (Value.int _ _)) _ _ _); (refine item_str (fitsSsize_of (N := 9223372036854775808) (by omega) (by omega) (Int.le_refl _)) (by omega) (by omega) ?_); intro _)
  k_with "my subscriptTail" => (k_here; (with_reducible show wpAny _ _ (subscriptTail _ (Expr.Slice none none none _) (Value.str _ _) (Value.ref _)) _ _ _); (with_reducible rename Fr _ _ _ _ => F'); (with_reducible rename News _ _ _ _ => N'); (refine slice_strN_nn_len (hsz := ?he93dfhsz) (s := ⟨_, _, _, _, _⟩) F' N' ?_); (case he93dfhsz => (rw [sizeLine_eq]; omega)); intro _ _ _ _ _ _)
  k_with "my subscriptTail" => (k_here; (with_reducible show wpAny _ _ (subscriptTail _ (Expr.Slice none (some _) none _) (Value.str _ _) (Value.ref _)) _ _ _); (with_reducible rename Fr _ _ _ _ => F'); (with_reducible rename News _ _ _ _ => N'); (refine slice_strN_ns_len (hsz := ?h5ee70hsz) (s := ⟨_, _, _, _, _⟩) F' N' ?_); (case h5ee70hsz => (rw [sizeLine_eq]; omega)); intro _ _ _ _ _ _)
  k_with "my subscriptTail" => (k_here; (with_reducible show wpAny _ _ (subscriptTail _ (Expr.Slice (some _) none none _) (Value.str _ _) (Value.ref _)) _ _ _); (with_reducible rename Fr _ _ _ _ => F'); (with_reducible rename News _ _ _ _ => N'); (refine slice_strN_sn_len (hsz := ?habc6bhsz) (s := ⟨_, _, _, _, _⟩) F' N' ?_); (case habc6bhsz => (rw [sizeLine_eq]; omega)); intro _ _ _ _ _ _)
  k_with "my subscriptTail" => (k_here; (with_reducible show wpAny _ _ (subscriptTail _ (Expr.Slice (some _) (some _) none _) (Value.str _ _) (Value.ref _)) _ _ _); (with_reducible rename Fr _ _ _ _ => F'); (with_reducible rename News _ _ _ _ => N'); (refine slice_strN_ss_len (hsz := ?h78793hsz) (s := ⟨_, _, _, _, _⟩) F' N' ?_); (case h78793hsz => (rw [sizeLine_eq]; omega)); intro _ _ _ _ _ _)
  k_with "my subscriptTail Name Constant ref int" => (k_here; k_dflt (refine' Mine.itemLit_K ?h4db2bzN ?h4db2bzm ?h4db2bz0 ?h4db2bzf ?h4db2bzx ?_ ?h4db2bzs ?h4db2bzg; (case h4db2bzN => k_asm); (case h4db2bzm => k_mem); (case h4db2bz0 => decide); (case h4db2bzf => decide); (case h4db2bzx => exact rfl); (case h4db2bzs => with_unfolding_all rfl); (case h4db2bzg => (intro _; with_unfolding_all rfl)); k_whole))
  k_with "my tail" => first | assumption | exact List.mem_append_left _ (by assumption) | exact List.mem_append_right _ (by assumption) | (refine List.mem_cons_of_mem _ ?_; k_extra "my tail")
  k_with "my sub" => first | exact Mine.all_nil | (refine Mine.all_cons ?h63e88zm ?h63e88zr; (case h63e88zm => k_mem); (case h63e88zr => k_extra "my sub")) | (intro p hp; k_extra "my tail")
  k_with "my own k_in" => first | k_in_fast | (refine' Frag.In.keeps ?hc3b53zX ?hc3b53zF; (case hc3b53zF => (refine' Fr.keep ?hc3b53zG; (case hc3b53zG => with_reducible assumption))); (case hc3b53zX => with_reducible assumption)) | assumption
  k_with "my own k_mem" => ((with_reducible show List.Mem _ _); refine Mine.memL ?_; with_reducible assumption)
  k_with "my onestep" => first | ((with_reducible show wpAny _ _ _ _ _ _); walk1) | (k_unfold; (try dsimp only)) | (with_reducible refine' Mine.seqE_last (by with_reducible assumption) ?_) | (with_reducible refine' Mine.seqE_next (by with_reducible assumption) ?_) | (with_reducible refine' Mine.seqE_ret (by with_reducible assumption) ?_) | (with_reducible refine' Mine.seqE_brk (by with_reducible assumption) ?_) | (with_reducible refine' Mine.seqE_cont (by with_reducible assumption) ?_) | (with_reducible refine Mine.nameQ_end (f := (_ : Flow)) (by with_reducible assumption) ?_) | (k_end; wrow_close) | walk1 | (dsimp only; walk1) | (leave1; walk_say "STEP leave1"; try dsimp only)
  k_with "my upto While" => repeat ((fail_if_success (with_reducible show wpAny _ _ (exec (Stmt.While _ _ _ _) _) _ _ _)); k_extra "my onestep")
  k_with "my upto For" => repeat ((fail_if_success (with_reducible show wpAny _ _ (exec (Stmt.For _ _ _ _ _) _) _ _ _)); k_extra "my onestep")
  k_with "my upto iter" => repeat ((fail_if_success (with_reducible show wpAny _ _ (pyIter _) _ _ _)); k_extra "my onestep")
  k_with "my MwPost" => (dsimp only [Mine.MwPost])
  k_with "my noend" => ((fail_if_success (with_reducible show InvEndN _ _ _ _ _ _ _)); (fail_if_success (with_reducible show Mine.CutPost _ _ _ _ _ _ _ _)); (fail_if_success (with_reducible show Mine.MwEnd _ _ _ _ _ _ _ _ _)); (fail_if_success (with_reducible show LCg.CompEnd _ _ _ _ _ _ _ _ _ _ _ _ _ _)); (fail_if_success (with_reducible show KswEnd _ _ _ _ _ _ _ _ _ _ _ _)))
  k_with "my steps" => repeat' (first | ((with_reducible show wpAny _ _ _ _ _ _); walk1) | (k_extra "my noend"; k_extra "my onestep"))
  k_with "my upto CompSrc" => repeat ((fail_if_success (with_reducible show LCg.CompSrc _ _ _ _ _ _ _ _ _ _ _ _ _ _)); (fail_if_success (with_reducible show LCt.CompSrcT _ _ _ _ _ _ _ _ _ _ _ _ _ _ _)); k_extra "my onestep")
  k_with "my own k_ne" => first | with_reducible (first | assumption | exact Mine.cjg4 (by with_reducible assumption) | exact Mine.cjg3 (by with_reducible assumption) | exact Ne.symm (by assumption) | exact Mine.gt_ne0 (by assumption) | exact Mine.s_ne1 | exact Mine.r_ne1 | exact Mine.lt_ne1 (by assumption) | exact Mine.gt_ne1 (by assumption) | exact Mine.s_ne2 | exact Mine.r_ne2 | exact Mine.lt_ne2 (by assumption) | exact Mine.gt_ne2 (by assumption) | exact Mine.r_ne3 | exact Mine.lt_ne3 (by assumption) | exact Mine.gt_ne3 (by assumption) | exact Mine.lt_ne4 (by assumption) | exact Mine.gt_ne4 (by assumption)) | exact Mine.off3_i1 (by with_reducible assumption) (by k_mem) | exact Mine.off3_c1 (by with_reducible assumption) (by k_mem) | exact Mine.off3_d1 (by with_reducible assumption) (by k_mem) | exact Mine.off1_d1 (by with_reducible assumption) (by k_mem) | exact Mine.ltm_0 (by with_reducible assumption) (by k_mem) | exact Mine.ltm_1 (by with_reducible assumption) (by k_mem) | exact Mine.nem_1 (by with_reducible assumption) (by k_mem) | with_reducible (first | exact Mine.cjl0 (by with_reducible assumption) | exact Mine.cjl1 (by with_reducible assumption) | exact Mine.cjg1 (by with_reducible assumption) | exact Mine.cjl2e (by with_reducible assumption) | exact Mine.cjg2 (by with_reducible assumption) | exact Mine.cjg3 (by with_reducible assumption) | exact Mine.cjg4 (by with_reducible assumption) | exact Mine.cjg6 (by with_reducible assumption) | exact Mine.cjg7 (by with_reducible assumption)) | (refine neN ?_; (try dsimp only); first | omega (config := { splitDisjunctions := false }) | (walk_say "NECONJ"; (repeat (with_reducible rename _ ∧ _ => hcj; obtain ⟨_, _⟩ := hcj)); first | with_reducible assumption | (refine Ne.symm ?_; with_reducible assumption)))
  k_with "my kall1" => first | exact Mine.all_nil | (refine Mine.all_cons ?h6bfabzm ?h6bfabzr; (case h6bfabzm => with_unfolding_all (first | (k_whole; exact Eq.refl (some _)) | rfl)); (case h6bfabzr => k_extra "my kall1"))
  k_with "my kall" => first | (k_whole; k_extra "my kall1") | ((try dsimp only) <;> (k_extra "my kall1"))
  k_with "my cut" => repeat (obtain ⟨hcA, hcj⟩ : _ ∧ _ := hcj; (try (obtain ⟨_, hcA⟩ : _ ∧ _ := hcA; (try (obtain ⟨_, _⟩ : _ ∧ _ := hcA)))))
  k_with "my room" => first | with_reducible assumption | exact Mine.off2 (by with_reducible assumption) (by exact Eq.refl true) | ktr_room
  k_with "my units" => first | with_reducible assumption | exact Mine.off2 (by with_reducible assumption) (by exact Eq.refl true) | ktr_units
  k_with "my num" => first | (k_whole; with_reducible (first | assumption | (show (_ : Int) < _; first | exact Mine.nm_b (by with_reducible assumption) (by with_unfolding_all exact Eq.refl true) | exact Mine.nm_a (by with_reducible assumption) (by with_unfolding_all exact Eq.refl true) | exact Mine.nc_a (by with_reducible assumption) (by with_unfolding_all exact Eq.refl true) | exact Mine.no_a4 (by with_reducible assumption) (by with_unfolding_all exact Eq.refl true) | exact Mine.no_a3 (by with_reducible assumption) (by with_unfolding_all exact Eq.refl true) | exact Mine.no_a2 (by with_reducible assumption) (by with_unfolding_all exact Eq.refl true) | exact Mine.no_a1 (by with_reducible assumption) (by with_unfolding_all exact Eq.refl true)) | (show (_ : Int) ≤ _; first | exact Mine.no_c2 (by with_reducible assumption) (by with_unfolding_all exact Eq.refl true) | exact Mine.no_e2 (by with_unfolding_all exact Eq.refl true) | exact Mine.nm_e (by with_reducible assumption) (by with_unfolding_all exact Eq.refl true) | exact Mine.nm_c (by with_reducible assumption) (by with_unfolding_all exact Eq.refl true) | exact Mine.nc_c (by with_reducible assumption) (by with_unfolding_all exact Eq.refl true) | exact Mine.nc_e (by with_unfolding_all exact Eq.refl true) | exact Mine.nz_e (by with_unfolding_all exact Eq.refl true) | exact Mine.no_c5 (by with_reducible assumption) (by with_unfolding_all exact Eq.refl true) | exact Mine.no_c4 (by with_reducible assumption) (by with_unfolding_all exact Eq.refl true) | exact Mine.no_c3 (by with_reducible assumption) (by with_unfolding_all exact Eq.refl true) | exact Mine.no_c1 (by with_reducible assumption) (by with_unfolding_all exact Eq.refl true) | exact Mine.no_e5 (by with_unfolding_all exact Eq.refl true) | exact Mine.no_e4 (by with_unfolding_all exact Eq.refl true) | exact Mine.no_e3 (by with_unfolding_all exact Eq.refl true) | exact Mine.no_g3 (by with_reducible assumption) (by with_unfolding_all exact Eq.refl true) | exact Mine.no_g2 (by with_reducible assumption) (by with_unfolding_all exact Eq.refl true) | exact Mine.no_g1 (by with_reducible assumption) (by with_unfolding_all exact Eq.refl true)) | (show (_ : Nat) < _; first | exact Mine.nn_b (by with_reducible assumption) (by with_unfolding_all exact Eq.refl true)) | (show (_ : Nat) ≤ _; first | exact Mine.nn_c (by with_reducible assumption) (by with_unfolding_all exact Eq.refl true) | exact Mine.nle_1 | exact Mine.nle_2 | exact Mine.nle_3 | exact Mine.nle_4))) | (decide +kernel) | omega
  k_with "my ev name" => first | (refine' Mine.ev_L ?h6e1a0F ?h6e1a0k ?h6e1a0x ?h6e1a0v ?h6e1a0d; (case h6e1a0x => rfl); (case h6e1a0F => k_asm); (case h6e1a0k => first | exact rfl | assumption); (case h6e1a0v => exact Eq.refl (some _)); (case h6e1a0d => decide)) | (refine' Mine.ev_C ?h6e1a0N ?h6e1a0k ?h6e1a0x ?h6e1a0c ?h6e1a0m ?h6e1a0o ?h6e1a0d; (case h6e1a0k => first | exact rfl | assumption); (case h6e1a0x => rfl); (case h6e1a0N => k_asm); (case h6e1a0c => rfl); (case h6e1a0m => k_mem); (case h6e1a0o => k_asm); (case h6e1a0d => decide))
  k_with "my ev0" => first | (with_reducible exact Mine.ev_int) | ((with_reducible refine' Mine.ev_L ?h84e4cF ?h84e4ck ?h84e4cx ?h84e4cv ?h84e4cd); (case h84e4cx => rfl); (case h84e4cF => k_asm); (case h84e4ck => first | exact rfl | assumption); (case h84e4cv => exact Eq.refl (some _)); (case h84e4cd => decide)) | ((with_reducible refine' Mine.ev_attr ?h84e4cF ?h84e4cX ?h84e4cH ?h84e4cI ?h84e4cg ?h84e4ch ?h84e4ca ?h84e4cn ?h84e4cl ?h84e4cv); (case h84e4cF => k_asm); (case h84e4cX => k_asm); (case h84e4cH => k_extra "my ev name"); (case h84e4cI => k_inst); (case h84e4cg => k_is); (case h84e4ch => k_is); (case h84e4ca => k_is); (case h84e4cn => k_is); (case h84e4cl => k_get); (case h84e4cv => k_handed)) | ((with_reducible refine' Mine.ev_item ?h84e4cN ?h84e4cH ?h84e4cm ?h84e4cz ?h84e4cx); (case h84e4cN => k_asm); (case h84e4cH => k_extra "my ev name"); (case h84e4cm => k_mem); (case h84e4cz => exact rfl); (case h84e4cx => exact rfl)) | ((with_reducible refine' Mine.ev_add ?h84e4cx ?h84e4cy); (case h84e4cx => k_extra "my ev1"); (case h84e4cy => k_extra "my ev1")) | ((with_reducible refine' Mine.ev_sub ?h84e4cx ?h84e4cy); (case h84e4cx => k_extra "my ev1"); (case h84e4cy => k_extra "my ev1")) | ((with_reducible refine' Mine.ev_eq ?h84e4cx ?h84e4cy ?h84e4cz); (case h84e4cx => k_extra "my ev1"); (case h84e4cy => k_extra "my ev1"); (case h84e4cz => with_unfolding_all rfl)) | ((with_reducible refine' Mine.ev_ne ?h84e4cx ?h84e4cy ?h84e4cz); (case h84e4cx => k_extra "my ev1"); (case h84e4cy => k_extra "my ev1"); (case h84e4cz => with_unfolding_all rfl)) | ((with_reducible refine' Mine.ev_lt ?h84e4cx ?h84e4cy ?h84e4cz); (case h84e4cx => k_extra "my ev1"); (case h84e4cy => k_extra "my ev1"); (case h84e4cz => with_unfolding_all rfl)) | ((with_reducible refine' Mine.ev_le ?h84e4cx ?h84e4cy ?h84e4cz); (case h84e4cx => k_extra "my ev1"); (case h84e4cy => k_extra "my ev1"); (case h84e4cz => with_unfolding_all rfl)) | ((with_reducible refine' Mine.ev_gt ?h84e4cx ?h84e4cy ?h84e4cz); (case h84e4cx => k_extra "my ev1"); (case h84e4cy => k_extra "my ev1"); (case h84e4cz => with_unfolding_all rfl)) | ((with_reducible refine' Mine.ev_ge ?h84e4cx ?h84e4cy ?h84e4cz); (case h84e4cx => k_extra "my ev1"); (case h84e4cy => k_extra "my ev1"); (case h84e4cz => with_unfolding_all rfl)) | ((with_reducible refine' Mine.ev_C ?h84e4cN ?h84e4ck ?h84e4cx ?h84e4cc ?h84e4cm ?h84e4co ?h84e4cd); (case h84e4cx => rfl); (case h84e4ck => first | exact rfl | assumption); (case h84e4cN => k_asm); (case h84e4cc => rfl); (case h84e4cm => k_mem); (case h84e4co => k_asm); (case h84e4cd => decide)) | (with_reducible exact Mine.ev_str) | (with_reducible exact Mine.ev_bool) | (with_reducible exact Mine.ev_none)
  k_with "my ev1" => first | (with_reducible exact Mine.ev_int) | ((with_reducible refine' Mine.ev_L ?h1cd45F ?h1cd45k ?h1cd45x ?h1cd45v ?h1cd45d); (case h1cd45x => rfl); (case h1cd45F => k_asm); (case h1cd45k => first | exact rfl | assumption); (case h1cd45v => exact Eq.refl (some _)); (case h1cd45d => decide)) | ((with_reducible refine' Mine.ev_attr ?h1cd45F ?h1cd45X ?h1cd45H ?h1cd45I ?h1cd45g ?h1cd45h ?h1cd45a ?h1cd45n ?h1cd45l ?h1cd45v); (case h1cd45F => k_asm); (case h1cd45X => k_asm); (case h1cd45H => k_extra "my ev name"); (case h1cd45I => k_inst); (case h1cd45g => k_is); (case h1cd45h => k_is); (case h1cd45a => k_is); (case h1cd45n => k_is); (case h1cd45l => k_get); (case h1cd45v => k_handed)) | ((with_reducible refine' Mine.ev_item ?h1cd45N ?h1cd45H ?h1cd45m ?h1cd45z ?h1cd45x); (case h1cd45N => k_asm); (case h1cd45H => k_extra "my ev name"); (case h1cd45m => k_mem); (case h1cd45z => exact rfl); (case h1cd45x => exact rfl)) | ((with_reducible refine' Mine.ev_add ?h1cd45x ?h1cd45y); (case h1cd45x => k_extra "my ev2"); (case h1cd45y => k_extra "my ev2")) | ((with_reducible refine' Mine.ev_sub ?h1cd45x ?h1cd45y); (case h1cd45x => k_extra "my ev2"); (case h1cd45y => k_extra "my ev2")) | ((with_reducible refine' Mine.ev_eq ?h1cd45x ?h1cd45y ?h1cd45z); (case h1cd45x => k_extra "my ev2"); (case h1cd45y => k_extra "my ev2"); (case h1cd45z => with_unfolding_all rfl)) | ((with_reducible refine' Mine.ev_ne ?h1cd45x ?h1cd45y ?h1cd45z); (case h1cd45x => k_extra "my ev2"); (case h1cd45y => k_extra "my ev2"); (case h1cd45z => with_unfolding_all rfl)) | ((with_reducible refine' Mine.ev_lt ?h1cd45x ?h1cd45y ?h1cd45z); (case h1cd45x => k_extra "my ev2"); (case h1cd45y => k_extra "my ev2"); (case h1cd45z => with_unfolding_all rfl)) | ((with_reducible refine' Mine.ev_le ?h1cd45x ?h1cd45y ?h1cd45z); (case h1cd45x => k_extra "my ev2"); (case h1cd45y => k_extra "my ev2"); (case h1cd45z => with_unfolding_all rfl)) | ((with_reducible refine' Mine.ev_gt ?h1cd45x ?h1cd45y ?h1cd45z); (case h1cd45x => k_extra "my ev2"); (case h1cd45y => k_extra "my ev2"); (case h1cd45z => with_unfolding_all rfl)) | ((with_reducible refine' Mine.ev_ge ?h1cd45x ?h1cd45y ?h1cd45z); (case h1cd45x => k_extra "my ev2"); (case h1cd45y => k_extra "my ev2"); (case h1cd45z => with_unfolding_all rfl)) | ((with_reducible refine' Mine.ev_C ?h1cd45N ?h1cd45k ?h1cd45x ?h1cd45c ?h1cd45m ?h1cd45o ?h1cd45d); (case h1cd45x => rfl); (case h1cd45k => first | exact rfl | assumption); (case h1cd45N => k_asm); (case h1cd45c => rfl); (case h1cd45m => k_mem); (case h1cd45o => k_asm); (case h1cd45d => decide)) | (with_reducible exact Mine.ev_str) | (with_reducible exact Mine.ev_bool) | (with_reducible exact Mine.ev_none)
  k_with "my ev2" => first | (with_reducible exact Mine.ev_int) | ((with_reducible refine' Mine.ev_L ?hdef3bF ?hdef3bk ?hdef3bx ?hdef3bv ?hdef3bd); (case hdef3bx => rfl); (case hdef3bF => k_asm); (case hdef3bk => first | exact rfl | assumption); (case hdef3bv => exact Eq.refl (some _)); (case hdef3bd => decide)) | ((with_reducible refine' Mine.ev_attr ?hdef3bF ?hdef3bX ?hdef3bH ?hdef3bI ?hdef3bg ?hdef3bh ?hdef3ba ?hdef3bn ?hdef3bl ?hdef3bv); (case hdef3bF => k_asm); (case hdef3bX => k_asm); (case hdef3bH => k_extra "my ev name"); (case hdef3bI => k_inst); (case hdef3bg => k_is); (case hdef3bh => k_is); (case hdef3ba => k_is); (case hdef3bn => k_is); (case hdef3bl => k_get); (case hdef3bv => k_handed)) | ((with_reducible refine' Mine.ev_item ?hdef3bN ?hdef3bH ?hdef3bm ?hdef3bz ?hdef3bx); (case hdef3bN => k_asm); (case hdef3bH => k_extra "my ev name"); (case hdef3bm => k_mem); (case hdef3bz => exact rfl); (case hdef3bx => exact rfl)) | ((with_reducible refine' Mine.ev_add ?hdef3bx ?hdef3by); (case hdef3bx => k_extra "my ev3"); (case hdef3by => k_extra "my ev3")) | ((with_reducible refine' Mine.ev_sub ?hdef3bx ?hdef3by); (case hdef3bx => k_extra "my ev3"); (case hdef3by => k_extra "my ev3")) | ((with_reducible refine' Mine.ev_eq ?hdef3bx ?hdef3by ?hdef3bz); (case hdef3bx => k_extra "my ev3"); (case hdef3by => k_extra "my ev3"); (case hdef3bz => with_unfolding_all rfl)) | ((with_reducible refine' Mine.ev_ne ?hdef3bx ?hdef3by ?hdef3bz); (case hdef3bx => k_extra "my ev3"); (case hdef3by => k_extra "my ev3"); (case hdef3bz => with_unfolding_all rfl)) | ((with_reducible refine' Mine.ev_lt ?hdef3bx ?hdef3by ?hdef3bz); (case hdef3bx => k_extra "my ev3"); (case hdef3by => k_extra "my ev3"); (case hdef3bz => with_unfolding_all rfl)) | ((with_reducible refine' Mine.ev_le ?hdef3bx ?hdef3by ?hdef3bz); (case hdef3bx => k_extra "my ev3"); (case hdef3by => k_extra "my ev3"); (case hdef3bz => with_unfolding_all rfl)) | ((with_reducible refine' Mine.ev_gt ?hdef3bx ?hdef3by ?hdef3bz); (case hdef3bx => k_extra "my ev3"); (case hdef3by => k_extra "my ev3"); (case hdef3bz => with_unfolding_all rfl)) | ((with_reducible refine' Mine.ev_ge ?hdef3bx ?hdef3by ?hdef3bz); (case hdef3bx => k_extra "my ev3"); (case hdef3by => k_extra "my ev3"); (case hdef3bz => with_unfolding_all rfl)) | ((with_reducible refine' Mine.ev_C ?hdef3bN ?hdef3bk ?hdef3bx ?hdef3bc ?hdef3bm ?hdef3bo ?hdef3bd); (case hdef3bx => rfl); (case hdef3bk => first | exact rfl | assumption); (case hdef3bN => k_asm); (case hdef3bc => rfl); (case hdef3bm => k_mem); (case hdef3bo => k_asm); (case hdef3bd => decide)) | (with_reducible exact Mine.ev_str) | (with_reducible exact Mine.ev_bool) | (with_reducible exact Mine.ev_none)
  k_with "my ev3" => first | (with_reducible exact Mine.ev_int) | ((with_reducible refine' Mine.ev_L ?h1a33cF ?h1a33ck ?h1a33cx ?h1a33cv ?h1a33cd); (case h1a33cx => rfl); (case h1a33cF => k_asm); (case h1a33ck => first | exact rfl | assumption); (case h1a33cv => exact Eq.refl (some _)); (case h1a33cd => decide)) | ((with_reducible refine' Mine.ev_attr ?h1a33cF ?h1a33cX ?h1a33cH ?h1a33cI ?h1a33cg ?h1a33ch ?h1a33ca ?h1a33cn ?h1a33cl ?h1a33cv); (case h1a33cF => k_asm); (case h1a33cX => k_asm); (case h1a33cH => k_extra "my ev name"); (case h1a33cI => k_inst); (case h1a33cg => k_is); (case h1a33ch => k_is); (case h1a33ca => k_is); (case h1a33cn => k_is); (case h1a33cl => k_get); (case h1a33cv => k_handed)) | ((with_reducible refine' Mine.ev_item ?h1a33cN ?h1a33cH ?h1a33cm ?h1a33cz ?h1a33cx); (case h1a33cN => k_asm); (case h1a33cH => k_extra "my ev name"); (case h1a33cm => k_mem); (case h1a33cz => exact rfl); (case h1a33cx => exact rfl)) | ((with_reducible refine' Mine.ev_add ?h1a33cx ?h1a33cy); (case h1a33cx => k_extra "my ev4"); (case h1a33cy => k_extra "my ev4")) | ((with_reducible refine' Mine.ev_sub ?h1a33cx ?h1a33cy); (case h1a33cx => k_extra "my ev4"); (case h1a33cy => k_extra "my ev4")) | ((with_reducible refine' Mine.ev_eq ?h1a33cx ?h1a33cy ?h1a33cz); (case h1a33cx => k_extra "my ev4"); (case h1a33cy => k_extra "my ev4"); (case h1a33cz => with_unfolding_all rfl)) | ((with_reducible refine' Mine.ev_ne ?h1a33cx ?h1a33cy ?h1a33cz); (case h1a33cx => k_extra "my ev4"); (case h1a33cy => k_extra "my ev4"); (case h1a33cz => with_unfolding_all rfl)) | ((with_reducible refine' Mine.ev_lt ?h1a33cx ?h1a33cy ?h1a33cz); (case h1a33cx => k_extra "my ev4"); (case h1a33cy => k_extra "my ev4"); (case h1a33cz => with_unfolding_all rfl)) | ((with_reducible refine' Mine.ev_le ?h1a33cx ?h1a33cy ?h1a33cz); (case h1a33cx => k_extra "my ev4"); (case h1a33cy => k_extra "my ev4"); (case h1a33cz => with_unfolding_all rfl)) | ((with_reducible refine' Mine.ev_gt ?h1a33cx ?h1a33cy ?h1a33cz); (case h1a33cx => k_extra "my ev4"); (case h1a33cy => k_extra "my ev4"); (case h1a33cz => with_unfolding_all rfl)) | ((with_reducible refine' Mine.ev_ge ?h1a33cx ?h1a33cy ?h1a33cz); (case h1a33cx => k_extra "my ev4"); (case h1a33cy => k_extra "my ev4"); (case h1a33cz => with_unfolding_all rfl)) | ((with_reducible refine' Mine.ev_C ?h1a33cN ?h1a33ck ?h1a33cx ?h1a33cc ?h1a33cm ?h1a33co ?h1a33cd); (case h1a33cx => rfl); (case h1a33ck => first | exact rfl | assumption); (case h1a33cN => k_asm); (case h1a33cc => rfl); (case h1a33cm => k_mem); (case h1a33co => k_asm); (case h1a33cd => decide)) | (with_reducible exact Mine.ev_str) | (with_reducible exact Mine.ev_bool) | (with_reducible exact Mine.ev_none)
  k_with "my ev4" => first | (with_reducible exact Mine.ev_int) | ((with_reducible refine' Mine.ev_L ?hb89ebF ?hb89ebk ?hb89ebx ?hb89ebv ?hb89ebd); (case hb89ebx => rfl); (case hb89ebF => k_asm); (case hb89ebk => first | exact rfl | assumption); (case hb89ebv => exact Eq.refl (some _)); (case hb89ebd => decide)) | ((with_reducible refine' Mine.ev_attr ?hb89ebF ?hb89ebX ?hb89ebH ?hb89ebI ?hb89ebg ?hb89ebh ?hb89eba ?hb89ebn ?hb89ebl ?hb89ebv); (case hb89ebF => k_asm); (case hb89ebX => k_asm); (case hb89ebH => k_extra "my ev name"); (case hb89ebI => k_inst); (case hb89ebg => k_is); (case hb89ebh => k_is); (case hb89eba => k_is); (case hb89ebn => k_is); (case hb89ebl => k_get); (case hb89ebv => k_handed)) | ((with_reducible refine' Mine.ev_item ?hb89ebN ?hb89ebH ?hb89ebm ?hb89ebz ?hb89ebx); (case hb89ebN => k_asm); (case hb89ebH => k_extra "my ev name"); (case hb89ebm => k_mem); (case hb89ebz => exact rfl); (case hb89ebx => exact rfl)) | ((with_reducible refine' Mine.ev_add ?hb89ebx ?hb89eby); (case hb89ebx => k_extra "my ev5"); (case hb89eby => k_extra "my ev5")) | ((with_reducible refine' Mine.ev_sub ?hb89ebx ?hb89eby); (case hb89ebx => k_extra "my ev5"); (case hb89eby => k_extra "my ev5")) | ((with_reducible refine' Mine.ev_eq ?hb89ebx ?hb89eby ?hb89ebz); (case hb89ebx => k_extra "my ev5"); (case hb89eby => k_extra "my ev5"); (case hb89ebz => with_unfolding_all rfl)) | ((with_reducible refine' Mine.ev_ne ?hb89ebx ?hb89eby ?hb89ebz); (case hb89ebx => k_extra "my ev5"); (case hb89eby => k_extra "my ev5"); (case hb89ebz => with_unfolding_all rfl)) | ((with_reducible refine' Mine.ev_lt ?hb89ebx ?hb89eby ?hb89ebz); (case hb89ebx => k_extra "my ev5"); (case hb89eby => k_extra "my ev5"); (case hb89ebz => with_unfolding_all rfl)) | ((with_reducible refine' Mine.ev_le ?hb89ebx ?hb89eby ?hb89ebz); (case hb89ebx => k_extra "my ev5"); (case hb89eby => k_extra "my ev5"); (case hb89ebz => with_unfolding_all rfl)) | ((with_reducible refine' Mine.ev_gt ?hb89ebx ?hb89eby ?hb89ebz); (case hb89ebx => k_extra "my ev5"); (case hb89eby => k_extra "my ev5"); (case hb89ebz => with_unfolding_all rfl)) | ((with_reducible refine' Mine.ev_ge ?hb89ebx ?hb89eby ?hb89ebz); (case hb89ebx => k_extra "my ev5"); (case hb89eby => k_extra "my ev5"); (case hb89ebz => with_unfolding_all rfl)) | ((with_reducible refine' Mine.ev_C ?hb89ebN ?hb89ebk ?hb89ebx ?hb89ebc ?hb89ebm ?hb89ebo ?hb89ebd); (case hb89ebx => rfl); (case hb89ebk => first | exact rfl | assumption); (case hb89ebN => k_asm); (case hb89ebc => rfl); (case hb89ebm => k_mem); (case hb89ebo => k_asm); (case hb89ebd => decide)) | (with_reducible exact Mine.ev_str) | (with_reducible exact Mine.ev_bool) | (with_reducible exact Mine.ev_none)
  k_with "my evs" => first | (with_reducible exact Mine.evs_nil) | ((with_reducible refine' Mine.evs_cons ?h3ebe4x ?h3ebe4y ?h3ebe4z); (case h3ebe4x => k_extra "my ev0"); (case h3ebe4y => k_extra "my evs"); (case h3ebe4z => rfl))
  k_with "my execs cons" => (k_here; (try ((first | (with_reducible show wpAny _ _ _ (Mine.MwPost _ _ _ _ _ _ _ _ _) _ _) | (with_reducible show wpAny _ _ _ (Mine.MrPost _ _ _ _ _ _ _ _ _) _ _) | (with_reducible show wpAny _ _ _ (InvPostN _ _ _ _ _ _ _) _ _) | (with_reducible show wpAny _ _ _ (KswPost _ _ _ _ _ _ _ _ _ _ _ _) _ _)); refine Mine.nameQ ?_; intro Qn hQn)); (with_reducible refine Mine.execs_seqE ?_); intro Qk hQk)
  k_with "my eval Name" => (k_here; k_dflt (first | (refine' nameX_L ?hfde63F ?hfde63v ?_ ?hfde63a ?hfde63b; (case hfde63b => rfl); (case hfde63F => k_asm); (case hfde63a => rfl); (case hfde63v => exact Eq.refl (some _)); k_whole) | (refine' nameX_K ?hfde63F ?hfde63X ?hfde63T ?hfde63e ?_ ?hfde63a ?hfde63b; (case hfde63b => rfl); (case hfde63F => k_asm); (case hfde63X => k_asm); (case hfde63T => k_asm); (case hfde63a => rfl); (case hfde63e => k_is); k_whole) | (refine' nameX_B ?hfde63F ?hfde63X ?hfde63T ?hfde63e ?hfde63v ?hfde63n ?_ ?hfde63a ?hfde63b; (case hfde63b => rfl); (case hfde63F => k_asm); (case hfde63X => k_asm); (case hfde63T => k_asm); (case hfde63a => rfl); (case hfde63e => k_is); (case hfde63v => boot_fast); (case hfde63n => decide); k_whole)))
  k_with "my eval BinOp" => (k_here; k_dflt (refine' Mine.ev_use ?hcbeddu ?_; (case hcbeddu => k_extra "my ev0"); k_whole); (try dsimp only))
  k_with "my eval Compare" => (k_here; k_dflt (refine' Mine.ev_use ?h28b78u ?_; (case h28b78u => k_extra "my ev0"); k_whole); (try dsimp only))
  k_with "my eval Subscript" => (k_here; k_dflt (refine' Mine.ev_use ?h772c3u ?_; (case h772c3u => k_extra "my ev0"); k_whole); (try dsimp only))
  k_with "my eval Attribute Name" => (k_here; k_dflt (refine' Mine.ev_use ?he290du ?_; (case he290du => k_extra "my ev0"); k_whole); (try dsimp only))
  k_with "my spliced" => (k_here; (with_reducible show wpAny _ _ (spliced (backTo _ (starEach (_ :: _) _))) _ _ _); k_dflt (refine' Mine.evs_use ?hf8b0eu ?_; (case hf8b0eu => k_extra "my evs"); k_whole); (try dsimp only))
  k_with "my isTrue Compare" => (k_here; k_dflt (first | ((with_reducible refine' Mine.ist_eq ?hdb5ccx ?hdb5ccy ?hdb5ccz ?_); (case hdb5ccx => k_extra "my ev0"); (case hdb5ccy => k_extra "my ev0"); (case hdb5ccz => with_unfolding_all rfl); k_whole) | ((with_reducible refine' Mine.ist_ne ?hdb5ccx ?hdb5ccy ?hdb5ccz ?_); (case hdb5ccx => k_extra "my ev0"); (case hdb5ccy => k_extra "my ev0"); (case hdb5ccz => with_unfolding_all rfl); k_whole) | ((with_reducible refine' Mine.ist_lt ?hdb5ccx ?hdb5ccy ?hdb5ccz ?_); (case hdb5ccx => k_extra "my ev0"); (case hdb5ccy => k_extra "my ev0"); (case hdb5ccz => with_unfolding_all rfl); k_whole) | ((with_reducible refine' Mine.ist_le ?hdb5ccx ?hdb5ccy ?hdb5ccz ?_); (case hdb5ccx => k_extra "my ev0"); (case hdb5ccy => k_extra "my ev0"); (case hdb5ccz => with_unfolding_all rfl); k_whole) | ((with_reducible refine' Mine.ist_gt ?hdb5ccx ?hdb5ccy ?hdb5ccz ?_); (case hdb5ccx => k_extra "my ev0"); (case hdb5ccy => k_extra "my ev0"); (case hdb5ccz => with_unfolding_all rfl); k_whole) | ((with_reducible refine' Mine.ist_ge ?hdb5ccx ?hdb5ccy ?hdb5ccz ?_); (case hdb5ccx => k_extra "my ev0"); (case hdb5ccy => k_extra "my ev0"); (case hdb5ccz => with_unfolding_all rfl); k_whole)); (try dsimp only))
  k_with "my call type:list" => (k_here; (with_reducible show wpAny _ _ (call (Value.type _) [Value.str _ _]) _ _ _); k_dflt (refine' Mine.listStr_K ?h1c1ddzh ?h1c1ddzF ?h1c1ddzN ?h1c1ddzs ?_; (case h1c1ddzh => exact rfl); (case h1c1ddzF => k_asm); (case h1c1ddzN => k_asm); (case h1c1ddzs => (rw [sizeLine_eq]; omega)); k_whole); intro h' tk' vs' n' F' N' l1 hS'; (have hltm := l1); (try k_lt l1); (try k_sweep))
  k_with "my call builtin:len" => (k_here; (with_reducible show wpAny _ _ (call (Value.builtin "len") [Value.ref _]) _ _ _); k_dflt (refine' Mine.lenStrs_K ?h9c18czN ?h9c18czm ?h9c18czi ?h9c18czf ?_; (case h9c18czN => k_asm); (case h9c18czm => k_mem); (case h9c18czi => with_reducible assumption); (case h9c18czf => omega); k_whole))
  k_with "my subscriptTail" => (k_here; (with_reducible show wpAny _ _ (subscriptTail _ _ (Value.ref _) (Value.int _ _)) _ _ _); k_dflt (refine' Mine.itemStrs_K ?hda686zN ?hda686zm ?hda686zi ?hda686z0 ?hda686z1 ?hda686zf ?_ ?hda686zs ?hda686zg; (case hda686zN => k_asm); (case hda686zm => k_mem); (case hda686zi => with_reducible assumption); (case hda686z0 => omega); (case hda686z1 => omega); (case hda686zf => omega); (case hda686zs => with_unfolding_all rfl); (case hda686zg => (intro _; with_unfolding_all rfl)); k_whole); intro _)
  k_with "my subscriptTail Name Slice ref ref" => (k_here; (with_reducible show wpAny _ _ (subscriptTail _ (PySem.Expr.Slice none none (some _) _) (Value.ref _) (Value.ref _)) _ _ _); k_dflt (refine' Mine.revStrs_K ?hab3ffF ?hab3ffN ?hab3ffm ?hab3ffk ?hab3ffi ?hab3ffy ?_ ?hab3ffs ?hab3fft; (case hab3ffF => k_asm); (case hab3ffN => k_asm); (case hab3ffm => k_mem); (case hab3ffk => exact IsPart.int _ _); (case hab3ffi => first | with_reducible assumption | exact StrsAre.nil); (case hab3ffy => first | omega | (simp only [PyProof.Rows.signs_length, List.length_nil] at *; omega)); (case hab3ffs => with_unfolding_all rfl); (case hab3fft => kmk_pure)); intro D' ws' h' F' N' l1 hS'; (have hltm := l1); (try k_lt l1); (try k_sweep))
  k_with "my subscriptTail" => (k_here; (with_reducible show wpAny _ _ (subscriptTail _ _ (Value.ref _) (Value.int _ _)) _ _ _); k_dflt (refine' Mine.topText_K (B := 3) ?hde6b7zX ?hde6b7ze ?hde6b7zi ?hde6b7zB ?hde6b7z0 ?hde6b7z1 ?hde6b7zf ?_ ?hde6b7zs ?hde6b7zg; (case hde6b7zX => k_in); (case hde6b7ze => k_is); (case hde6b7zi => repeat constructor); (case hde6b7zB => decide); (case hde6b7z0 => omega); (case hde6b7z1 => ((simp only [List.length_cons, List.length_nil]); omega)); (case hde6b7zf => omega); (case hde6b7zs => with_unfolding_all rfl); (case hde6b7zg => (intro _; with_unfolding_all rfl)); k_whole); intro zT tT hzT)
  k_with "my MrPost" => (dsimp only [Mine.MrPost])
  k_with "my subscriptTail" => (k_here; (with_reducible show wpAny _ _ (subscriptTail _ (PySem.Expr.Slice none none (some _) _) (Value.str _ _) (Value.ref _)) _ _ _); (with_reducible rename Fr _ _ _ _ => F'); (with_reducible rename News _ _ _ _ => N'); (refine Mine.revText_K (s := ⟨_, _, _, _, _⟩) F' N' (by omega) ?_); intro zR hR tR cR eR F' N')
  trivial
theorem mem_getD0 {ss : List Str} {i : Nat} (h : i < ss.length) : ss.getD i Str.empty ∈ ss := by
  rw [List.getD_eq_getElem?_getD, List.getElem?_eq_getElem h]
  exact List.getElem_mem h
def grp5 : List Str := [Str.ofString "ab", Str.ofString "yé", Str.ofString "a", Str.ofString "b€é", Str.ofString ""]
theorem getD_all {ys : List Str} {B : Nat} (h : (ys.all fun y => decide (y.length ≤ B)) = true) (i : Nat) : (ys.getD i Str.empty).length ≤ B := by
  rcases Nat.lt_or_ge i ys.length with q | q
  · exact of_decide_eq_true (List.all_eq_true.mp h _ (mem_getD0 q))
  · rw [List.getD_eq_getElem?_getD, List.getElem?_eq_none q]; exact Nat.zero_le _
theorem grp5_len : ∀ i, (grp5.getD i Str.empty).length ≤ 3 := getD_all (by decide +kernel)
theorem groups_spec {prog : Program} {w : World} {p : Program} {loose : List Str} {mean : ExcName → Option Value} {mg mb : Str → Option Value}
  {dp un : Nat} {gd : Option (List Code)} {cn : Str} {cs : Scope} {a : Addr} {ccd : Value} {cl : List (Str × Addr)} {outer : List Env} {A₀ : Around} {base h₀ : Heap} {L : Addr} {m : Str → Option Value} {s : Shared} {Q E : Value → Shared → Prop}
  {news : List (Addr × Obj)}
  (B : Below A₀ base outer h₀) (F : Fr h₀ L s.heap m) (X : (hd0.heap_1_1 w.params).In h₀) (N : News h₀ L s.heap (news)) (T : Top p loose mean mg mb h₀) (hk : cs.kind = .function) (hdp : dp + 1 < recursionLimit)
  (hret : ∀ (r n : Nat) (vs : List Value) (ys : List Str) (h' : Heap) (tk' : Nat), Fr h₀ L h' m → News h₀ L h' ((r, PySem.W.listOf vs.toArray n) :: news) → (∀ p ∈ news, p.1 < r) → StrsAre vs ys → ys.length = 5 → (∀ i, (ys.getD i Str.empty).length ≤ 3) → Q (.ref r) { s with heap := h', toks := tk' }) :
  wpAny (model prog w) (ktrTop dp un gd cn cs L a ccd cl outer) (call (.ref 232) []) Q E s := by
 exact Mine.quiet _ (type_of% (Mine.aside (by
  refine wpAny_call ?_
  k_dflt ktr_enter
  k_extra "my steps"
  with_reducible rename News h₀ L _ _ => kN
  with_reducible rename Fr h₀ L _ _ => kF
  with_reducible rename ∀ p ∈ news, _ => l1
  exact hret _ _ [_, _, _, _, _] grp5 _ _ kF kN l1 (.cons _ _ (.cons _ _ (.cons _ _ (.cons _ _ (.cons _ _ .nil))))) rfl (grp5_len)
 ) (by exact Nat) _))
/-- a for over a list of the ledger that the loop leaves as it is: by what holds between its turns -/
theorem mr_list {prog : Program} {w : World} {A : Around} {E : Value → Shared → Prop} {Q : Flow → Shared → Prop} {s : Shared} {env : Env} {h₀ : Heap} {L : Addr} {σ : Type} {target : PySem.Expr} {body : List Stmt} {m₀ : Str → Option Value} {r : Addr} {vs : List Value} {nl : Nat}
    (Led : σ → List (Addr × Obj)) (ps : σ → List (Str × Value)) (P : Nat → σ → Prop) (c₀ : σ)
    (hh : A.handled = none) (hr : ∀ c, (r, PySem.W.listOf vs.toArray nl) ∈ Led c)
    (F : Fr h₀ L s.heap m₀) (N : News h₀ L s.heap (Led c₀)) (hk : ∀ p ∈ ps c₀, m₀ p.1 = some p.2) (hp : P 0 c₀)
    (turn : ∀ (i : Nat) (v : Value) (c : σ) (u : Str → Option Value) (h : Heap) (tk : Nat) (I : Addr) (oI : Obj), vs[i]? = some v → P i c → Fr h₀ L h (kstB u (ps c)) → News h₀ L h ((I, oI) :: Led c) → (∀ p ∈ Led c, @Ne Nat p.1 I) →
      wpAny (model prog w) A (assign target env v) (fun _ s₂ => wpAny (model prog w) A (execs body env) (MrPost h₀ L s Led ps (P (i + 1)) I oI Q) E s₂) E { s with heap := h, toks := tk })
    (done : ∀ (c : σ) (u : Str → Option Value) (h : Heap) (tk : Nat), P vs.length c → Fr h₀ L h (kstB u (ps c)) → News h₀ L h (Led c) → Q .next { s with heap := h, toks := tk })
    (ht : ∀ it v, letOwnedTupleGo target it v = pure () := by intro _ _; rfl) (hE : PassesOwn (model prog w) A env E := by passes_own) :
    wpAny (model prog w) A (pyIter (.ref r)) (fun it s₂ => codeAny (model prog w) A (.forLoop target it body [] env) (fun r s' => match r with | .ok f => Q f s' | .error e => cameBackBy (model prog w) A env E e s') s₂) E s := by
  have hls : s.heap.IsList r vs.toArray := News.isList N (hr c₀)
  obtain ⟨ol, hol, _⟩ := id hls
  have hrI : r ≠ s.heap.objs.size := Nat.ne_of_lt (Heap.lt_size hol)
  refine wpAny_pyIter_list hls ?_
  have W := Walks.list (prog := prog) (w := w) (A := A) hh s.heap.objs.size r hrI vs.toArray
  have hsz : vs.toArray.size = vs.length := List.size_toArray ..
  have hL : L ≠ s.heap.objs.size := Nat.ne_of_lt F.ns.lt
  have hI₀ : h₀.get? s.heap.objs.size = none := next_is_new F
  refine codeAny_forLoop (ht := fun v => ht _ v) (fun k s' => ∃ (i : Nat) (c : σ) (h : Heap) (tk : Nat) (m : Str → Option Value), i ≤ vs.length ∧ k = vs.length - i ∧ s' = { s with heap := h, toks := tk } ∧ h.IsListIter s.heap.objs.size r i ∧ Fr h₀ L h m ∧ News h₀ L h (Led c) ∧ (∀ p ∈ Led c, @Ne Nat p.1 s.heap.objs.size) ∧ (∀ p ∈ ps c, m p.1 = some p.2) ∧ P i c)
    ?_ vs.length ⟨0, c₀, _, _, m₀, Nat.zero_le _, rfl, rfl, ⟨_, Heap.get?_push_size _ rfl, rfl, rfl⟩, F.push _, fun p hp => ⟨Heap.get?_push_of_some _ (N p hp).1, (N p hp).2⟩, fun p hp => Nat.ne_of_lt (Heap.lt_size (N p hp).1), hk, hp⟩
  rintro k s' ⟨i, c, h, tk, m, hi, rfl, rfl, st, F', N', off, hk', hP⟩
  have hl' : h.IsList r vs.toArray := News.isList N' (hr c)
  by_cases hlt : i < vs.length
  · refine W.item i _ _ _ (by rw [hsz]; exact hlt) ⟨st, hl'⟩ fun v h' tk' hv st' keep => ?_
    have F2 := LCg.fr_but F' keep hL hI₀
    have N2 := LCg.news_but N' keep off
    obtain ⟨oI, heI, hoc, hod⟩ := st'.1
    refine wpAny_mono (turn i v c m h' tk' s.heap.objs.size oI (by simpa using hv) hP (fr_kstB F2 hk') (fun p hp => ?_) off) (fun _ s₂ h₂ => ?_) hE
    · rcases List.mem_cons.mp hp with rfl | hp
      · exact ⟨heI, Ne.symm hL, hI₀⟩
      · exact N2 p hp
    · refine wpAny_mono h₂ (fun f s₃ q => ?_) hE
      have go : MrEnd h₀ L s Led ps (P (i + 1)) s.heap.objs.size oI s₃ → ∃ m_1, m_1 < vs.length - i ∧ ∃ (i : Nat) (c : σ) (h : Heap) (tk : Nat) (m : Str → Option Value), i ≤ vs.length ∧ m_1 = vs.length - i ∧ s₃ = { s with heap := h, toks := tk } ∧ h.IsListIter s.heap.objs.size r i ∧ Fr h₀ L h m ∧ News h₀ L h (Led c) ∧ (∀ p ∈ Led c, @Ne Nat p.1 s.heap.objs.size) ∧ (∀ p ∈ ps c, m p.1 = some p.2) ∧ P i c := by
        rintro ⟨c', h3, tk3, m3, news3, rfl, F3, N3, hI3, hn3, ho3, hk3, hp3⟩
        refine ⟨vs.length - (i + 1), by omega, i + 1, c', h3, tk3, m3, hlt, rfl, rfl, ⟨oI, (N3 _ hI3).1, hoc, hod⟩, F3, fun p hp => N3 p (hn3 p hp), ho3, hk3, hp3⟩
      cases f with
      | ret v => exact q
      | brk => exact q
      | next => exact go q
      | cont => exact go q
  · obtain rfl : i = vs.length := Nat.le_antisymm hi (Nat.not_lt.mp hlt)
    refine W.done _ _ _ ⟨by rw [hsz]; exact st, hl'⟩ fun h' tk' keep => ?_
    refine wpAny_execs_nil ?_
    exact done c m h' tk' hP (fr_kstB (LCg.fr_but F' keep hL hI₀) hk') (LCg.news_but N' keep off)
/-- what an insert does to a mark -/
def mark (i j g z : Int) : Int := if i ≤ z then z + (g - (j - i)) else z
theorem mark_yes {i j g z : Int} (h : i ≤ z) : mark i j g z = z + g - (j - i) := by unfold mark; rw [if_pos h]; omega
theorem mark_no {i j g z : Int} (h : ¬ i ≤ z) : mark i j g z = z := if_neg h
theorem ieq_no {x y : Int} {P Q : Prop} (h : x ≠ y) (q : Q) : if (x == y) = true then P else Q := by
  rw [if_neg (by simpa using h)]; exact q
theorem ieq_yes {x y : Int} {P Q : Prop} (h : x = y) (p : P) : if (x == y) = true then P else Q := by
  rw [if_pos (by simpa using h)]; exact p
theorem pick1 {h₀ h : Heap} {L : Addr} {all : List (Addr × Obj)} {q : Addr × Obj} (N : News h₀ L h all) (hq : q ∈ all) :
    ∃ oth, News h₀ L h (q :: oth) ∧ (∀ p ∈ all, p.1 ≠ q.1 → p ∈ oth) ∧ (∀ p ∈ oth, p.1 ≠ q.1) := by
  refine ⟨all.filter fun p => p.1 != q.1, fun p hp => ?_, fun p hp hn => List.mem_filter.mpr ⟨hp, by simpa using hn⟩, fun p hp => by simpa using (List.mem_filter.mp hp).2⟩
  rcases List.mem_cons.mp hp with rfl | hp
  · exact N _ hq
  · exact N _ (List.mem_filter.mp hp).1
theorem news_rot {h₀ h : Heap} {L : Addr} {q1 q2 q3 q4 q5 : Addr × Obj} {rest : List (Addr × Obj)} (N : News h₀ L h (q1 :: q2 :: q3 :: q4 :: q5 :: rest)) : News h₀ L h (q3 :: q4 :: q5 :: q1 :: q2 :: rest) := fun p hp => N p (by
  simp only [List.mem_cons] at hp ⊢
  rcases hp with h | h | h | h | h | h <;> simp [h])
theorem news_rot2 {h₀ h : Heap} {L : Addr} {q1 q2 q3 q4 q5 : Addr × Obj} {rest : List (Addr × Obj)} (N : News h₀ L h (q3 :: q4 :: q5 :: q1 :: q2 :: rest)) : News h₀ L h (q1 :: q2 :: q3 :: q4 :: q5 :: rest) := fun p hp => N p (by
  simp only [List.mem_cons] at hp ⊢
  rcases hp with h | h | h | h | h | h <;> simp [h])
theorem two_at {v a b : Value} {i : Nat} (h : [a, b][i]? = some v) : (i = 0 ∧ v = a) ∨ (i = 1 ∧ v = b) := by
  match i, h with
  | 0, h => exact .inl ⟨rfl, by simpa using h.symm⟩
  | 1, h => exact .inr ⟨rfl, by simpa using h.symm⟩
  | i + 2, h => simp at h
theorem rep_bounds {x g : Str} {c l i j c' : Int} (h0 : 0 ≤ c) (hcl : c ≤ l) (hl1 : l ≤ x.length) (hi : 0 ≤ i) (hij : i ≤ j) (hj : j ≤ l) (hc : c' = if j ≤ c then c + (g.length - (j - i)) else if i < c then i else c) :
    0 ≤ c' ∧ c' ≤ l + (g.length - (j - i)) ∧ l + (g.length - (j - i)) ≤ ((Txt.slice x (some 0) (some i) ++ g ++ Txt.slice x (some j) none).length : Int) ∧ (Txt.slice x (some 0) (some i) ++ g ++ Txt.slice x (some j) none).length ≤ x.length + g.length := by
  have e := rep_len (x := x) (g := g) hi hij (by omega)
  have : 0 ≤ c' ∧ c' ≤ l + (g.length - (j - i)) := by
    subst hc
    split
    · omega
    · split <;> omega
  omega
theorem mark_bounds {i j g z B : Int} (hi : 0 ≤ i) (hij : i ≤ j) (hj : j ≤ 900) (hg : 0 ≤ g ∧ g ≤ 3) (hz : -B ≤ z ∧ z ≤ B) : -(B + 1000) ≤ mark i j g z ∧ mark i j g z ≤ B + 1000 := by
  unfold mark
  split <;> omega

theorem ltCps_llt : ∀ {a b : List Nat}, ltCps a b = true ↔ llt a b
  | [], [] => by simp [ltCps, llt]
  | [], _ :: _ => by simp [ltCps, llt]
  | _ :: _, [] => by simp [ltCps, llt]
  | x :: a, y :: b => by
    have ih := @ltCps_llt a b
    simp only [ltCps, llt, Bool.or_eq_true, Bool.and_eq_true, decide_eq_true_eq, beq_iff_eq, ih]
theorem rising_at : ∀ {l : List Str} {p : Str}, risingS p l = true → ∀ i, i < l.length → ¬ llt (l.getD i Str.empty).cps.toList ((p :: l).getD i Str.empty).cps.toList
  | [], _, _, i, h => absurd h (Nat.not_lt_zero _)
  | x :: r, p, h, 0, _ => by
    simp only [risingS, Bool.and_eq_true, Bool.not_eq_true'] at h
    intro q
    have := ltCps_llt.mpr q
    simp only [List.getD_cons_zero] at this
    rw [h.1] at this; cases this
  | x :: r, p, h, i + 1, hi => by
    simp only [risingS, Bool.and_eq_true] at h
    have := rising_at h.2 i (by simpa using hi)
    simpa using this
theorem sorted_at {l : List Str} (h : sortedS l = true) (i : Nat) (hi : i + 1 < l.length) : ¬ llt (l.getD (i + 1) Str.empty).cps.toList (l.getD i Str.empty).cps.toList := by
  cases l with
  | nil => cases hi
  | cons x r => simpa using rising_at (show risingS x r = true from h) i (by simpa using hi)
section
variable {prog : Program} {w : World} {A : Around} {E : Value → Shared → Prop} {s : Shared} {h₀ : Heap} {L : Addr} {m : Str → Option Value} {Q : Value → Shared → Prop} {news : List (Addr × Obj)}
theorem sortStrs_K {a : Addr} {vs : List Value} {n : Nat} {ys : List Str} (F : Fr h₀ L s.heap m) (N : News h₀ L s.heap news) (hm : (a, PySem.W.listOf vs.toArray n) ∈ news) (hi : StrsAre vs ys) (h64 : ys.length < 64)
    (h : ∀ (D : Addr) (h' : Heap) (vs' : List Value) (ss : List Str) (e : Nat), Fr h₀ L h' m → News h₀ L h' ((D, PySem.W.listOf vs'.toArray e) :: news) → (∀ p ∈ news, p.1 < D) → StrsAre vs' ss → ss.length = ys.length → (∀ z ∈ ss, z ∈ ys) → sortedS ss = true → Q (.ref D) { s with heap := h' }) :
    wpAny (model prog w) A (call (.builtin "sorted") [.ref a]) Q E s := by
  have hl := hi.len_eq
  refine sorted_N_str F N (News.isList N hm) hi (by omega) fun h' vs' ss e F' N' hS hp hs => ?_
  exact h _ h' vs' ss e F' N' (fun p hp => Nat.lt_succ_of_lt (Heap.lt_size (N p hp).1)) hS hp.length_eq (fun z hz => hp.mem_iff.mp hz) hs
end
theorem sb_len (x : Str) (u : Tok) : (Txt.sliceBy x none none (-1, u)).length = x.length := by
  have := congrArg List.length (rev_list x u)
  rw [List.length_reverse, len_toList, len_toList] at this
  exact this
theorem ne_allLt_le {d e : Addr} : ∀ {l : List (Addr × Obj)}, AllLt d l → (@LE.le Nat _ d e) → ∀ p ∈ l, p.1 ≠ e
  | [], _, _, _, h => nomatch h
  | _ :: _, h, hd, p, hp => by
    rcases List.mem_cons.mp hp with rfl | hp
    · exact Nat.ne_of_lt (Nat.lt_of_lt_of_le h.1 hd)
    · exact ne_allLt_le h.2 hd p hp
/-- what stands after i turns of the taking out of doubles -/
def Ded (ss es : List Str) (i : Nat) : Prop :=
  es.length ≤ i ∧ (∀ z ∈ es, z ∈ ss) ∧ Rise (fun t => (es.getD t Str.empty).cps.toList) es.length ∧ (0 < i → 0 < es.length ∧ es.getD (es.length - 1) Str.empty = ss.getD (i - 1) Str.empty)
theorem ded_zero (ss : List Str) : Ded ss [] 0 := ⟨Nat.le_refl _, List.forall_mem_nil _, fun _ _ _ h => absurd h (Nat.not_lt_zero _), fun h => absurd h (Nat.lt_irrefl _)⟩
theorem ded_skip {ss es : List Str} {i : Nat} (h : Ded ss es i) (hi : 0 < i) (e : ss.getD i Str.empty = ss.getD (i - 1) Str.empty) : Ded ss es (i + 1) := by
  obtain ⟨h1, h2, h3, h4⟩ := h
  refine ⟨by omega, h2, h3, fun _ => ⟨(h4 hi).1, ?_⟩⟩
  rw [(h4 hi).2, Nat.add_sub_cancel, e]
theorem getD_app_l {es : List Str} {z : Str} {t : Nat} (h : t < es.length) : (es ++ [z]).getD t Str.empty = es.getD t Str.empty := by
  rw [List.getD_eq_getElem?_getD, List.getElem?_append_left h, ← List.getD_eq_getElem?_getD]
theorem getD_app_r {es : List Str} {z : Str} : (es ++ [z]).getD es.length Str.empty = z := by
  rw [List.getD_eq_getElem?_getD, List.getElem?_append_right (Nat.le_refl _), Nat.sub_self]; rfl
theorem mem_getD {ss : List Str} {i : Nat} (h : i < ss.length) : ss.getD i Str.empty ∈ ss := by
  rw [List.getD_eq_getElem?_getD, List.getElem?_eq_getElem h]
  exact List.getElem_mem h
theorem ded_take {ss es : List Str} {i : Nat} (h : Ded ss es i) (hs : sortedS ss = true) (hi : i < ss.length) (e : 0 < i → ss.getD i Str.empty ≠ ss.getD (i - 1) Str.empty) : Ded ss (es ++ [ss.getD i Str.empty]) (i + 1) := by
  obtain ⟨h1, h2, h3, h4⟩ := h
  refine ⟨by rw [List.length_append, List.length_singleton]; omega, ?_, ?_, fun _ => ⟨by rw [List.length_append, List.length_singleton]; omega, ?_⟩⟩
  · intro z hz
    rcases List.mem_append.mp hz with q | q
    · exact h2 z q
    · rw [List.mem_singleton.mp q]; exact mem_getD hi
  · intro a b hab hb
    rw [List.length_append, List.length_singleton] at hb
    dsimp only
    rcases Nat.lt_or_ge b es.length with q | q
    · rw [getD_app_l (by omega), getD_app_l q]; exact h3 a b hab q
    · have : b = es.length := by omega
      subst this
      rw [getD_app_l hab, getD_app_r]
      have hi0 : 0 < i := by omega
      have hlast : llt (es.getD (es.length - 1) Str.empty).cps.toList (ss.getD i Str.empty).cps.toList := by
        rw [(h4 hi0).2]
        have q1 := sorted_at hs (i - 1) (by omega)
        rw [show i - 1 + 1 = i by omega] at q1
        rcases llt_total (ss.getD (i - 1) Str.empty).cps.toList (ss.getD i Str.empty).cps.toList with r | r | r
        · exact r
        · exact absurd (Str.ext' (Array.toList_inj.mp r)).symm (e hi0)
        · exact absurd r q1
      rcases Nat.lt_or_ge a (es.length - 1) with r | r
      · exact llt_trans (h3 a (es.length - 1) r (by omega)) hlast
      · rw [show a = es.length - 1 by omega]; exact hlast
  · rw [List.length_append, List.length_singleton, Nat.add_sub_cancel, Nat.add_sub_cancel, getD_app_r]
theorem rangeSize_len (n : Nat) : Builtin.Range.rangeSize 0 (n : Int) 1 = (n : Int) := by
  rw [rangeSize_nat]
  omega
theorem toN0 (i : Nat) : (0 + (i : Int)).toNat = i := by omega
theorem toN1 (i : Nat) : (0 + (i : Int) - 1).toNat = i - 1 := by omega
theorem ded1 {ss es : List Str} {i : Nat} (h : Ded ss es i) (hs : sortedS ss = true) (hi : i < ss.length) (a : 0 + (i : Int) = 0) : Ded ss (es ++ [ss.getD (0 + (i : Int)).toNat Str.empty]) (i + 1) := by
  rw [toN0]
  exact ded_take h hs hi fun q => absurd a (by omega)
theorem ded2 {ss es : List Str} {i : Nat} (h : Ded ss es i) (hs : sortedS ss = true) (hi : i < ss.length) (a : (ss.getD (0 + (i : Int)).toNat Str.empty != ss.getD (0 + (i : Int) - 1).toNat Str.empty) = true) : Ded ss (es ++ [ss.getD (0 + (i : Int)).toNat Str.empty]) (i + 1) := by
  rw [toN0] at a ⊢
  rw [toN1] at a
  exact ded_take h hs hi fun _ => by simpa using a
theorem ded3 {ss es : List Str} {i : Nat} (h : Ded ss es i) (a0 : 0 + (i : Int) ≠ 0) (a : (ss.getD (0 + (i : Int)).toNat Str.empty != ss.getD (0 + (i : Int) - 1).toNat Str.empty) = false) : Ded ss es (i + 1) := by
  rw [toN0, toN1] at a
  exact ded_skip h (by omega) (by simpa using a)
/-- the entries' texts, each from behind where the table looks back -/
def Turned (bk : Bool) (es : List Str) (i : Nat) (tx : List Str) : Prop := tx.length = i ∧ ∀ j, j < i → (tx.getD j Str.empty).cps.toList = if bk then (es.getD j Str.empty).cps.toList.reverse else (es.getD j Str.empty).cps.toList
theorem turned_zero (bk : Bool) (es : List Str) : Turned bk es 0 [] := ⟨rfl, fun _ h => absurd h (Nat.not_lt_zero _)⟩
theorem turned_snoc {bk : Bool} {es tx : List Str} {i : Nat} {z : Str} (h : Turned bk es i tx) (hz : z.cps.toList = if bk then (es.getD i Str.empty).cps.toList.reverse else (es.getD i Str.empty).cps.toList) : Turned bk es (i + 1) (tx ++ [z]) := by
  obtain ⟨h1, h2⟩ := h
  subst h1
  refine ⟨by rw [List.length_append]; rfl, fun j hj => ?_⟩
  rcases Nat.lt_or_ge j tx.length with q | q
  · rw [getD_app_l q]; exact h2 j q
  · have : j = tx.length := by omega
    subst this
    rw [getD_app_r]; exact hz
theorem strs_at {vs : List Value} {ys : List Str} {i : Nat} {v : Value} (h : StrsAre vs ys) (hv : vs.toArray[i]? = some v) : ∃ t, v = .str (ys.getD i Str.empty) t := by
  have hv' : vs[i]? = some v := by simpa using hv
  have hl := h.len_eq
  have hi : i < vs.length := by
    rcases Nat.lt_or_ge i vs.length with q | q
    · exact q
    · rw [List.getElem?_eq_none q] at hv'; cases hv'
  obtain ⟨tz, hz9⟩ := h.at (y := ys.getD i Str.empty) (by rw [List.getD_eq_getElem?_getD, List.getElem?_eq_getElem (by omega)]; rfl)
  rw [hv'] at hz9
  cases hz9
  exact ⟨_, rfl⟩
/-- what the loop of the table has made behind i turns -/
structure Made (tx : List Str) (E : Nat → List Nat) (i TL : Nat) (ts : List Value) (xa da : Nat → Nat) (sub : Nat → Int) (tabs : List (Addr × Obj)) : Prop where
  its : ts = (List.range i).map fun j => Value.ref (xa j)
  inst : ∀ j, j < i → (xa j, instObj 220 (da j)) ∈ tabs
  dic : ∀ j, j < i → ∃ H KT t0 t1 t2, (da j, amongD H KT (tx.getD j Str.empty) t0 (sub j) t1 (j + 1) t2) ∈ tabs
  link : Links E i sub
  new : ∀ p ∈ tabs, TL < p.1
theorem made_zero (tx : List Str) (E : Nat → List Nat) (TL : Nat) : Made tx E 0 TL [] (fun _ => 0) (fun _ => 0) (fun _ => 0) [] :=
  ⟨rfl, fun _ h => absurd h (Nat.not_lt_zero _), fun _ h => absurd h (Nat.not_lt_zero _), fun _ h => absurd h (Nat.not_lt_zero _), List.forall_mem_nil _⟩
/-- what the comprehension of the earlier entries at the front of one has found behind m turns -/
def Inner (E : Nat → List Nat) (k m : Nat) (js : List Int) : Prop :=
  js.length ≤ m ∧ (js.length = 0 → ∀ j, j < m → ¬ Fits (E k) (E j)) ∧ (0 < js.length → ∃ q : Nat, js.getD (js.length - 1) 0 = (q : Int) ∧ q < m ∧ Fits (E k) (E q) ∧ ∀ j, q < j → j < m → ¬ Fits (E k) (E j))
theorem inner_le {E : Nat → List Nat} {k m : Nat} {js : List Int} (h : Inner E k m js) : js.length ≤ m := h.1
theorem inner_zero (E : Nat → List Nat) (k : Nat) : Inner E k 0 [] := ⟨Nat.le_refl _, fun _ _ h => absurd h (Nat.not_lt_zero _), fun h => absurd h (Nat.lt_irrefl _)⟩
theorem inner_skip {E : Nat → List Nat} {k m : Nat} {js : List Int} (h : Inner E k m js) (hf : ¬ Fits (E k) (E m)) : Inner E k (m + 1) js := by
  obtain ⟨h0, h1, h2⟩ := h
  refine ⟨by omega, fun e j hj => ?_, fun e => ?_⟩
  · rcases Nat.lt_or_ge j m with q | q
    · exact h1 e j q
    · rw [show j = m by omega]; exact hf
  · obtain ⟨q, a, b, c, d⟩ := h2 e
    refine ⟨q, a, by omega, c, fun j hq hj => ?_⟩
    rcases Nat.lt_or_ge j m with r | r
    · exact d j hq r
    · rw [show j = m by omega]; exact hf
theorem inner_take {E : Nat → List Nat} {k m : Nat} {js : List Int} (h : Inner E k m js) (hf : Fits (E k) (E m)) : Inner E k (m + 1) (js ++ [0 + (m : Int)]) := by
  obtain ⟨h0, h1, h2⟩ := h
  refine ⟨by rw [List.length_append]; exact Nat.add_le_add_right h0 1, fun e => ?_, fun _ => ⟨m, ?_, by omega, hf, fun j a b => absurd a (by omega)⟩⟩
  · rw [List.length_append] at e; simp at e
  · rw [List.length_append, List.length_singleton, Nat.add_sub_cancel, List.getD_eq_getElem?_getD, List.getElem?_append_right (Nat.le_refl _), Nat.sub_self]
    simp
theorem inner_link0 {E : Nat → List Nat} {k : Nat} {js : List Int} (h : Inner E k k js) (e : js.length = 0) {sub : Nat → Int} (hs : Links E k sub) : Links E (k + 1) (fun t => if t = k then -1 else sub t) := by
  intro j hj
  rcases Nat.lt_or_ge j k with q | q
  · simp only [if_neg (Nat.ne_of_lt q)]; exact hs j q
  · rw [show j = k by omega]
    simp only [if_true]
    refine ⟨by omega, fun h => absurd h (by decide), fun t ht hf => absurd hf (h.2.1 e t ht)⟩
theorem inner_link1 {E : Nat → List Nat} {k : Nat} {js : List Int} (h : Inner E k k js) (e : 0 < js.length) {sub : Nat → Int} (hs : Links E k sub) : Links E (k + 1) (fun t => if t = k then js.getD (js.length - 1) 0 else sub t) := by
  obtain ⟨q, a, b, c, d⟩ := h.2.2 e
  intro j hj
  rcases Nat.lt_or_ge j k with r | r
  · simp only [if_neg (Nat.ne_of_lt r)]; exact hs j r
  · rw [show j = k by omega]
    simp only [if_true]
    rw [a]
    refine ⟨by omega, fun _ => by simpa using c, fun t ht hf => ?_⟩
    rcases Nat.lt_or_ge q t with r | r
    · exact absurd hf (d t r ht)
    · omega
theorem starts_fits {x y : Str} : Txt.startswith x y = true ↔ Fits x.cps.toList y.cps.toList := by
  have h1 := len_toList x
  have h2 := len_toList y
  unfold Txt.startswith Fits Sh
  rw [StrLaws.subAt_eq, h1, h2, List.drop_zero]
  have e : y.cps.toList.take y.length = y.cps.toList := List.take_of_length_le (by omega)
  rw [e]
  simp only [Bool.and_eq_true, decide_eq_true_eq, beq_iff_eq, Nat.zero_add, Nat.le_refl, true_and]
theorem inner_yes {es : List Str} {k m : Nat} {js : List Int} (h : Inner (fun t => (es.getD t Str.empty).cps.toList) k m js) (hs : Txt.startswith (es.getD (0 + (k : Int)).toNat Str.empty) (es.getD (0 + (m : Int)).toNat Str.empty) = true) : Inner (fun t => (es.getD t Str.empty).cps.toList) k (m + 1) (js ++ [0 + (m : Int)]) := by
  rw [toN0, toN0] at hs
  exact inner_take h (starts_fits.mp hs)
theorem inner_no {es : List Str} {k m : Nat} {js : List Int} (h : Inner (fun t => (es.getD t Str.empty).cps.toList) k m js) (hs : Txt.startswith (es.getD (0 + (k : Int)).toNat Str.empty) (es.getD (0 + (m : Int)).toNat Str.empty) = false) : Inner (fun t => (es.getD t Str.empty).cps.toList) k (m + 1) js := by
  rw [toN0, toN0] at hs
  exact inner_skip h fun q => by rw [starts_fits.mpr q] at hs; cases hs
section
variable {prog : Program} {w : World} {A : Around} {E : Value → Shared → Prop} {s : Shared} {h₀ : Heap} {L : Addr} {m : Str → Option Value} {Q : Value → Shared → Prop} {news : List (Addr × Obj)}
theorem lenInts_K {a : Addr} {l : List Value} {n : Nat} {ns : List Int} (N : News h₀ L s.heap news) (hm : (a, PySem.W.listOf l.toArray n) ∈ news) (hi : IntsAre l ns) (hf : ns.length ≤ 1000)
    (h : Q (.int ns.length (s.toks + 1)) { s with toks := s.toks + 1 + 1 }) : wpAny (model prog w) A (call (.builtin "len") [.ref a]) Q E s := by
  have e : l.toArray.size = ns.length := by simp [hi.length]
  refine len_list (News.isList N hm) (by rw [e]; omega) ?_
  rw [e]
  exact h
theorem lastInts_K {value slice : Expr} {a : Addr} {l : List Value} {n : Nat} {ns : List Int} {u : Tok} (N : News h₀ L s.heap news) (hm : (a, PySem.W.listOf l.toArray n) ∈ news) (hi : IntsAre l ns) (h0 : 0 < ns.length)
    (h : ∀ t, Q (.int (ns.getD (ns.length - 1) 0) t) s)
    (hs : subscripted slice false (.ref a) (.int (-1) u) = operate [.ref a, .int (-1) u] (getItem (.ref a) (.int (-1) u)) := by with_unfolding_all rfl) (hg : ∀ r, letTemporaryGo value (.ref a) r = pure () := by intro _; with_unfolding_all rfl) :
    wpAny (model prog w) A (subscriptTail value slice (.ref a) (.int (-1) u)) Q E s := by
  refine item_list_ints_neg (News.isList N hm) hi (by decide) (by omega) (by decide) (fun t => ?_) hs hg
  rw [show (-1 + (ns.length : Int)).toNat = ns.length - 1 by omega]
  exact h t
end

theorem rise_congr {E E' : Nat → List Nat} {n : Nat} (e : ∀ j, j < n → E j = E' j) (h : Rise E n) : Rise E' n := fun a b hab hb => by
  rw [← e a (by omega), ← e b hb]; exact h a b hab hb
theorem links_congr {E E' : Nat → List Nat} {n : Nat} {sub : Nat → Int} (e : ∀ j, j < n → E j = E' j) (h : Links E n sub) : Links E' n sub := fun k hk => by
  obtain ⟨a, b, c⟩ := h k hk
  refine ⟨a, fun q => ?_, fun t ht f => c t ht ?_⟩
  · rw [← e k hk, ← e _ (by omega)]; exact b q
  · rw [e k hk, e t (by omega)]; exact f
theorem all_tabs {P : Addr × Obj → Prop} {rest tabs : List (Addr × Obj)} {q1 q2 : Addr × Obj} (h : ∀ p ∈ rest ++ tabs, P p) (h1 : P q1) (h2 : P q2) : ∀ p ∈ rest ++ (q1 :: q2 :: tabs), P p := fun p hp => by
  rcases List.mem_append.mp hp with q | q
  · exact h p (List.mem_append_left _ q)
  · rcases List.mem_cons.mp q with rfl | q
    · exact h1
    · rcases List.mem_cons.mp q with rfl | q
      · exact h2
      · exact h p (List.mem_append_right _ q)
theorem off1_mem {D : Addr} : ∀ {l : List (Addr × Obj)}, LCg.Off1 D l → ∀ p ∈ l, p.1 ≠ D
  | [], _, _, h => nomatch h
  | _ :: _, h, p, hp => by
    rcases List.mem_cons.mp hp with rfl | hp
    · exact h.1
    · exact off1_mem h.2 p hp
theorem made_snoc {tx : List Str} {E : Nat → List Nat} {i TL x d : Nat} {ts : List Value} {xa da : Nat → Nat} {sub : Nat → Int} {tabs : List (Addr × Obj)} {sb : Int} {HA : Nat → Int} {KA : Nat → Tok} {tA0 tA1 tA2 : Tok}
    (h : Made tx E i TL ts xa da sub tabs) (hd : TL < d) (hx : d < x) (hl : Links E (i + 1) (fun t => if t = i then sb else sub t)) :
    Made tx E (i + 1) TL (ts ++ [.ref x]) (fun j => if j = i then x else xa j) (fun j => if j = i then d else da j) (fun j => if j = i then sb else sub j)
      ((x, instObj 220 d) :: (d, amongD HA KA (tx.getD (0 + (i : Int)).toNat Str.empty) tA0 sb tA1 (0 + (i : Int) + 1) tA2) :: tabs) where
  its := by
    rw [List.range_succ, List.map_append, h.its]
    have e : (List.range i).map (fun j => Value.ref (xa j)) = (List.range i).map (fun j => Value.ref (if j = i then x else xa j)) := by
      refine List.map_congr_left fun j hj => ?_
      rw [if_neg (Nat.ne_of_lt (List.mem_range.mp hj))]
    rw [e]
    simp
  inst := fun j hj => by
    by_cases q : j = i
    · subst q; simp
    · simp only [if_neg q]
      exact .tail _ (.tail _ (h.inst j (by omega)))
  dic := fun j hj => by
    by_cases q : j = i
    · subst q
      refine ⟨HA, KA, tA0, tA1, tA2, ?_⟩
      simp only [if_true, toN0, Int.zero_add]
      exact .tail _ (.head _)
    · obtain ⟨H, KT, t0, t1, t2, hm⟩ := h.dic j (by omega)
      refine ⟨H, KT, t0, t1, t2, ?_⟩
      simp only [if_neg q]
      exact .tail _ (.tail _ hm)
  link := hl
  new := fun p hp => by
    rcases List.mem_cons.mp hp with rfl | hp
    · exact Nat.lt_trans hd hx
    · rcases List.mem_cons.mp hp with rfl | hp
      · exact hd
      · exact h.new p hp
theorem tab_of_made {tx : List Str} {E : Nat → List Nat} {i TL nv : Nat} {ts : List Value} {xa da : Nat → Nat} {sub : Nat → Int} {tabs : List (Addr × Obj)} (h : Made tx E i TL ts xa da sub tabs) (hi : tx.length = i) :
    Tab ((TL, PySem.W.listOf ts.toArray nv) :: tabs) TL nv xa da tx sub (fun t => (t : Int) + 1) where
  lst := by rw [hi, ← h.its]; exact .head _
  inst := fun j hj => .tail _ (h.inst j (by omega))
  dic := fun j hj => by
    obtain ⟨H, KT, t0, t1, t2, hm⟩ := h.dic j (by omega)
    exact ⟨H, KT, t0, t1, t2, .tail _ hm⟩
/-- the table's texts as the machine compares them -/
def tabE (bk : Bool) (tx : List Str) : Nat → List Nat := if bk then rentL tx else entL tx
theorem turned_at {bk : Bool} {es tx : List Str} {n : Nat} (h : Turned bk es n tx) (j : Nat) (hj : j < n) : (es.getD j Str.empty).cps.toList = tabE bk tx j := by
  have := h.2 j hj
  unfold tabE
  cases bk with
  | true => simp only [if_true] at this ⊢; unfold rentL; rw [this, List.reverse_reverse]
  | false => simp only [Bool.false_eq_true, if_false] at this ⊢; unfold entL; rw [this]
theorem turned_len {bk : Bool} {es tx : List Str} {n B : Nat} (h : Turned bk es n tx) (hb : ∀ z ∈ es, z.length ≤ B) (hn : n ≤ es.length) (j : Nat) : (tx.getD j Str.empty).length ≤ B := by
  by_cases hj : j < n
  · have e := h.2 j hj
    have m := hb _ (mem_getD (ss := es) (i := j) (by omega))
    have e2 : (tx.getD j Str.empty).length = (es.getD j Str.empty).length := by
      rw [← len_toList, ← len_toList (es.getD j Str.empty), e]
      split <;> simp
    omega
  · rw [List.getD_eq_getElem?_getD, List.getElem?_eq_none (by have := h.1; omega)]
    exact Nat.zero_le _
theorem all_tabs1 {P : Addr × Obj → Prop} {rest tabs : List (Addr × Obj)} {q1 : Addr × Obj} (h : ∀ p ∈ rest ++ tabs, P p) (h1 : P q1) : ∀ p ∈ rest ++ (q1 :: tabs), P p := fun p hp => by
  rcases List.mem_append.mp hp with q | q
  · exact h p (List.mem_append_left _ q)
  · rcases List.mem_cons.mp q with rfl | q
    · exact h1
    · exact h p (List.mem_append_right _ q)
theorem tabs_ne {tx : List Str} {E : Nat → List Nat} {i TL a : Nat} {o : Obj} {ts : List Value} {xa da : Nat → Nat} {sub : Nat → Int} {tabs : List (Addr × Obj)} (h : Made tx E i TL ts xa da sub tabs) (ha : a < TL) : ∀ p ∈ (TL, o) :: tabs, p.1 ≠ a := fun p hp => by
  rcases List.mem_cons.mp hp with rfl | hp
  · exact Nat.ne_of_gt ha
  · exact Nat.ne_of_gt (Nat.lt_trans ha (h.new p hp))
theorem allLt_at {d : Addr} : ∀ {l : List (Addr × Obj)}, AllLt d l → ∀ p ∈ l, p.1 < d
  | [], _, _, h => nomatch h
  | _ :: _, h, p, hp => by
    rcases List.mem_cons.mp hp with rfl | hp
    · exact h.1
    · exact allLt_at h.2 p hp
/-- what is new in a table, as an elder address sees it -/
def Off (q r tl : Nat) (tabs : List (Addr × Obj)) : Prop := q ≠ r ∧ q ≠ tl ∧ ∀ p ∈ tabs, p.1 ≠ q

/-- a tuple of two ints -/
abbrev tupO (a : Int) (t : Tok) (b : Int) (u : Tok) : Obj := { cls := .type "tuple", data := .seq [Value.int a t, .int b u].toArray }
section
variable {prog : Program} {w : World} {A : Around} {E : Value → Shared → Prop} {s : Shared}
theorem gt_tree {a b : Addr} {x x2 y y2 : Int} {t t2 u u2 : Tok} {P : Fin → Shared → Prop} (ha : s.heap.get? a = some (tupO x t x2 t2)) (hb : s.heap.get? b = some (tupO y u y2 u2)) (hne : x ≠ y) (h : P (.done (.ret (.bool (decide (y < x))))) s) :
    wpAny (model prog w) A (Builtin.«tuple.__gt__» ⟨[.ref a, .ref b], []⟩) P E s := by
  have hTb : s.TypeIs (.ref b) "tuple" := ⟨_, hb, rfl⟩
  show wpAny _ _ (isInstance (.ref b) (.type "tuple") >>= _) _ _ s
  refine wpAny_bind (wpAny_isInstance hTb isSubtype_tuple_tuple ?_)
  simp only [Bool.not_true, Bool.false_eq_true, if_false]
  refine wpAny_bind (wpAny_tupleItemsOf ha rfl ?_)
  refine wpAny_bind (wpAny_tupleItemsOf hb rfl ?_)
  refine wpAny_bind ?_
  simp only [List.zip_cons_cons, List.zip_nil_right]
  rw [List.forIn_cons]
  refine wpAny_bind (wpAny_bind (wpAny_eqBool_int ?_))
  rw [show (x == y) = false from beq_eq_false_iff_ne.mpr hne]
  simp only [Bool.not_false, if_true]
  refine wpAny_bind (wpAny_rule (wpAny_bind (show wpAny _ _ (compareOp .Gt (.int x t) (.int y u)) _ _ _ from gt_int ?_)))
  exact wpAny_bind (wpAny_pure (wpAny_pure (wpAny_pure (wpAny_pure h))))
theorem gt_tup {a b : Addr} {x x2 y y2 : Int} {t t2 u u2 : Tok} {Q : Value → Shared → Prop} (hu : A.units < cLine) (ha : s.heap.get? a = some (tupO x t x2 t2)) (hb : s.heap.get? b = some (tupO y u y2 u2)) (hne : x ≠ y) (h : Q (.bool (decide (y < x))) s) :
    wpAny (model prog w) A (richCompare .Gt (.ref a) (.ref b)) Q E s := by
  have hTa : s.TypeIs (.ref a) "tuple" := ⟨_, ha, rfl⟩
  have hTb : s.TypeIs (.ref b) "tuple" := ⟨_, hb, rfl⟩
  exact wpAny_richCompare_same_room (op := .Gt) hTa hTb F.slot_tuple_gt
    (wpAny_call_entry F.slot_tuple_gt hTa F.entry_tuple_gt (gt_tree ha hb hne ⟨_, rfl, (fun e => nomatch e), h⟩) (F.args_tuple_gt_2 _ _)) hu
end
/-- a list's items: tuples of two ints -/
def TupsAre (vs : List Value) (ks : List Int) (ds : Nat → Int) (news : List (Addr × Obj)) : Prop :=
  vs.length = ks.length ∧ ∀ j v, vs[j]? = some v → ∃ (a : Addr) (t u : Tok), v = .ref a ∧ (a, tupO (ks.getD j 0) t (ds j) u) ∈ news
section
variable {prog : Program} {w : World} {A : Around} {E : Value → Shared → Prop} {s : Shared} {h₀ : Heap} {L l I S : Addr} {m : Str → Option Value} {news : List (Addr × Obj)} {vs : List Value} {R : Result → Shared → Prop} {Q : Value → Shared → Prop}
theorem mt_loop {ks : List Int} {ds : Nat → Int} (hu : A.units + 8 < cLine) (hh : A.handled = none) (hl : ∀ h, Fr h₀ L h m → News h₀ L h news → h.IsList l vs.toArray) (hlI : l ≠ I) (hSI : S ≠ I) (hnS : ∀ p ∈ news, p.1 ≠ S) (hnI : ∀ p ∈ news, p.1 ≠ I)
    (hT : TupsAre vs ks ds news) (hup : ∀ i j, i < j → j < ks.length → ks.getD i 0 < ks.getD j 0)
    (hR : ∀ v h' tk', vs[vs.length - 1]? = some v → Fr h₀ L h' m → News h₀ L h' news → R (.ok (.ret v)) { s with heap := h', toks := tk' }) :
    ∀ (r j : Nat) (h : Heap) (tk : Nat) (vb : Value) (c : Nat) (oI : Obj), vs.length - (j + 1) = r → j + 1 ≤ vs.length → Fr h₀ L h m →
      News h₀ L h (news ++ [(S, seqObj "list" #[vb, vb] c), (I, oI)]) → h.IsListIter I l (j + 1) → vs[j]? = some vb →
      codeAny (model prog w) A (.builtin "max.loop" ⟨[.ref I, .none, .ref S], []⟩) R { s with heap := h, toks := tk } := by
  have hname : (toString "max" ++ toString ".loop" : String) = "max.loop" := by decide
  have W := Walks.list (prog := prog) (w := w) (A := A.in1) hh I l hlI vs.toArray
  have hsz : vs.toArray.size = vs.length := List.size_toArray ..
  intro r
  induction r with
  | zero =>
    intro j h tk vb c oI hr hj F N hit hvb
    have hin : j + 1 = vs.length := by omega
    have nS := N (S, seqObj "list" #[vb, vb] c) (List.mem_append_right _ (.head _))
    have nI := N (I, oI) (List.mem_append_right _ (.tail _ (.head _)))
    have Nn : News h₀ L h news := fun p hp => N p (List.mem_append_left _ hp)
    refine codeAny_builtin PySem.F.entry_max_loop ?_
    rw [Around.under_plainId PySem.F.plain_max_loop _]
    show wpAny _ A.in1 (seqItems? (.ref S) >>= _) _ _ _
    refine wpAny_bind (wpAny_seqItems nS.1 rfl ?_)
    show wpAny _ A.in1 (tryCatch (pyNext (.ref I)) _ >>= _) _ _ _
    refine wpAny_bind (wpAny_tryCatch (W.done _ _ _ ⟨by rw [hsz, ← hin]; exact hit, hl h F Nn⟩ fun h' tk' hk' => ?_))
    have F1 := kmk_fr F hk' nI.2.1 nI.2.2
    have N1 := kmk_news Nn hk' hnI
    have hS' := hk' S _ (by simpa using hSI) nS.1
    have s1 := Heap.SameBut.update h' S (Obj.mapSeq fun _ => (#[] : Array Value))
    show wpAny _ A.in1 (updateSeq S (fun _ => #[]) >>= _) _ _ _
    refine wpAny_bind ?_
    refine wpAny_updateSeq hS' rfl (wpAny_bind (wpAny_letGo (wpAny_pure ?_)))
    refine hR vb _ _ (by rw [← hin]; exact hvb) (ksk_fr F1 s1 nS.2.1 nS.2.2) (ksk_news N1 s1 hnS)
  | succ r ih =>
    intro j h tk vb c oI hr hj F N hit hvb
    have hlt : j + 1 < vs.length := by omega
    have nS := N (S, seqObj "list" #[vb, vb] c) (List.mem_append_right _ (.head _))
    have nI := N (I, oI) (List.mem_append_right _ (.tail _ (.head _)))
    have Nn : News h₀ L h news := fun p hp => N p (List.mem_append_left _ hp)
    refine codeAny_builtin PySem.F.entry_max_loop ?_
    rw [Around.under_plainId PySem.F.plain_max_loop _]
    show wpAny _ A.in1 (seqItems? (.ref S) >>= _) _ _ _
    refine wpAny_bind (wpAny_seqItems nS.1 rfl ?_)
    show wpAny _ A.in1 (tryCatch (pyNext (.ref I)) _ >>= _) _ _ _
    refine wpAny_bind (wpAny_tryCatch (W.item (j + 1) _ _ _ (by rw [hsz]; exact hlt) ⟨hit, hl h F Nn⟩ fun v h' tk' hP hst' hk' => ?_))
    have hv : vs[j + 1]? = some v := by simpa using hP
    obtain ⟨oI', hoI', hoc, hod⟩ := id hst'.1
    have F1 := kmk_fr F hk' nI.2.1 nI.2.2
    have N0 : News h₀ L h' news := kmk_news Nn hk' hnI
    have hS' := hk' S _ (by simpa using hSI) nS.1
    obtain ⟨a, ta, ua, rfl, ha⟩ := hT.2 _ _ hv
    obtain ⟨b, tb, ub, rfl, hb⟩ := hT.2 _ _ hvb
    have hk2 := hup j (j + 1) (by omega) (by have := hT.1; omega)
    show wpAny _ A.in1 (tryCatch (holding [.ref a, .ref a] (richCompare .Gt (.ref a) (.ref b) >>= _)) _ >>= _) _ _ _
    refine wpAny_bind (wpAny_tryCatch (wpAny_holding (wpAny_bind (gt_tup (show A.units + 1 < cLine by omega) (N0 _ ha).1 (N0 _ hb).1 (by omega) ?_))))
    refine wpAny_bind (wpAny_holding (wpAny_truthy_bool ?_))
    refine wpAny_bind (wpAny_letGo (wpAny_pure ?_))
    rw [decide_eq_true hk2]
    simp only [if_true]
    have s1 := Heap.SameBut.update h' S (Obj.mapSeq fun _ => #[Value.ref a, .ref a])
    obtain ⟨c2, hc2⟩ : ∃ c2, (h'.update S (Obj.mapSeq fun _ => #[Value.ref a, .ref a])).get? S = some (seqObj "list" #[Value.ref a, .ref a] c2) := ⟨_, get?_update_seq hS' fun _ => #[Value.ref a, .ref a]⟩
    refine wpAny_bind ?_
    refine wpAny_updateSeq hS' rfl (wpAny_bind (wpAny_letGo ?_))
    rw [hname]
    refine wpAny_pure ⟨plainId_quiet PySem.F.plain_max_loop _, ih (j + 1) _ _ (.ref a) c2 oI' (by omega) hlt (ksk_fr F1 s1 nS.2.1 nS.2.2) (fun p hp => ?_) ⟨oI', (s1.2 I hSI.symm).trans hoI', hoc, hod⟩ hv⟩
    rcases List.mem_append.mp hp with hp | hp
    · exact ksk_news N0 s1 hnS p hp
    · rcases List.mem_cons.mp hp with rfl | hp
      · exact ⟨hc2, nS.2⟩
      · rw [List.mem_singleton.mp hp]
        exact ⟨(s1.2 I hSI.symm).trans hoI', nI.2⟩
theorem max_tup {ks : List Int} {ds : Nat → Int} {n : Nat} (hu : A.units + 8 < cLine) (hh : A.handled = none) (F : Fr h₀ L s.heap m) (N : News h₀ L s.heap news) (hm : (l, PySem.W.listOf vs.toArray n) ∈ news) (hT : TupsAre vs ks ds news) (hne : 0 < ks.length)
    (hup : ∀ i j, i < j → j < ks.length → ks.getD i 0 < ks.getD j 0)
    (hQ : ∀ a t u h' tk', (a, tupO (ks.getD (ks.length - 1) 0) t (ds (ks.length - 1)) u) ∈ news → Fr h₀ L h' m → News h₀ L h' news → Q (.ref a) { s with heap := h', toks := tk' }) :
    wpAny (model prog w) A (call (.builtin "max") [.ref l]) Q E s := by
  have hname : (toString "max" ++ toString ".loop" : String) = "max.loop" := by decide
  have hl : ∀ h, Fr h₀ L h m → News h₀ L h news → h.IsList l vs.toArray := fun h _ Nn => News.isList Nn hm
  have hls := hl _ F N
  obtain ⟨ol, hol, _⟩ := id hls
  have hll : l < s.heap.objs.size := Heap.lt_size hol
  have hL : L < s.heap.objs.size := F.ns.lt
  have hvl := hT.1
  refine call_function_tree PySem.F.kind_max PySem.F.plain_max PySem.F.entry_max (PySem.F.args_max1 _) ?_
  show wpAny _ A.in1 (Builtin.Builtins.bindParams "max" ["key", "default"] 0 ⟨[], []⟩ >>= _) _ _ s
  refine wpAny_bind (wpAny_of_eq (show Builtin.Builtins.bindParams "max" ["key", "default"] 0 ⟨[], []⟩ = pure [none, none] from rfl) ?_)
  refine wpAny_bind (wpAny_pure ?_)
  refine wpAny_bind (wpAny_pyIter_list hls ?_)
  refine wpAny_bind (wpAny_newObj_type ?_)
  rw [hname]
  have hS : (s.heap.push { cls := .type "list_iterator", data := .fields #[.ref l, .int 0 0] }).objs.size = s.heap.objs.size + 1 := size_push' ..
  have hlI : l ≠ s.heap.objs.size := Nat.ne_of_lt hll
  have hSI : (s.heap.push { cls := .type "list_iterator", data := .fields #[.ref l, .int 0 0] }).objs.size ≠ s.heap.objs.size := by rw [hS]; exact Nat.ne_of_gt (Nat.lt_succ_self _)
  have hnI : ∀ p ∈ news, p.1 ≠ s.heap.objs.size := fun p hp => Nat.ne_of_lt (Heap.lt_size (N p hp).1)
  have hnS : ∀ p ∈ news, p.1 ≠ (s.heap.push { cls := .type "list_iterator", data := .fields #[.ref l, .int 0 0] }).objs.size := fun p hp => by rw [hS]; exact Nat.ne_of_lt (Nat.lt_succ_of_lt (Heap.lt_size (N p hp).1))
  refine wpAny_pure ⟨plainId_quiet PySem.F.plain_max_loop _, ?_⟩
  have fresh : ∀ b, L < b → h₀.get? b = none := fun b hb => Heap.get?_none_of_le (Nat.le_trans F.above (Nat.le_of_lt hb))
  have FH : Fr h₀ L ((s.heap.push { cls := .type "list_iterator", data := .fields #[.ref l, .int 0 0] }).push (seqObj "list" #[] 0)) m := (F.push _).push _
  have NH : News h₀ L ((s.heap.push { cls := .type "list_iterator", data := .fields #[.ref l, .int 0 0] }).push (seqObj "list" #[] 0)) news := N.grown fun b x e => Heap.get?_push_of_some _ (Heap.get?_push_of_some _ e)
  have gI : ((s.heap.push { cls := .type "list_iterator", data := .fields #[.ref l, .int 0 0] }).push (seqObj "list" #[] 0)).get? s.heap.objs.size = some { cls := .type "list_iterator", data := .fields #[.ref l, .int 0 0] } :=
    Heap.get?_push_of_some _ (Heap.get?_push_size _ rfl)
  have gS : ((s.heap.push { cls := .type "list_iterator", data := .fields #[.ref l, .int 0 0] }).push (seqObj "list" #[] 0)).get? (s.heap.push { cls := .type "list_iterator", data := .fields #[.ref l, .int 0 0] }).objs.size = some (seqObj "list" #[] 0) := Heap.get?_push_size _ rfl
  have aI : s.heap.objs.size ≠ L := Nat.ne_of_gt hL
  have aS : (s.heap.push { cls := .type "list_iterator", data := .fields #[.ref l, .int 0 0] }).objs.size ≠ L := by rw [hS]; exact Nat.ne_of_gt (Nat.lt_succ_of_lt hL)
  have zS : h₀.get? (s.heap.push { cls := .type "list_iterator", data := .fields #[.ref l, .int 0 0] }).objs.size = none := fresh _ (by rw [hS]; exact Nat.lt_succ_of_lt hL)
  have W := Walks.list (prog := prog) (w := w) (A := A.in1) hh s.heap.objs.size l hlI vs.toArray
  have hsz : vs.toArray.size = vs.length := List.size_toArray ..
  refine codeAny_builtin PySem.F.entry_max_loop ?_
  rw [Around.under_plainId PySem.F.plain_max_loop _]
  show wpAny _ A.in1 (seqItems? (.ref _) >>= _) _ _ _
  refine wpAny_bind (wpAny_seqItems gS rfl ?_)
  show wpAny _ A.in1 (tryCatch (pyNext (.ref s.heap.objs.size)) _ >>= _) _ _ _
  refine wpAny_bind (wpAny_tryCatch (W.item 0 _ _ _ (by rw [hsz]; omega) ⟨⟨_, gI, rfl, rfl⟩, hl _ FH NH⟩ fun v h' tk' hP hst' hk' => ?_))
  have hv : vs[0]? = some v := by simpa using hP
  obtain ⟨oI', hoI', hoc, hod⟩ := id hst'.1
  have F1 := kmk_fr FH hk' aI (fresh _ hL)
  have N1 : News h₀ L h' news := kmk_news NH hk' hnI
  have hS' := hk' _ _ (by simpa using hSI) gS
  show wpAny _ A.in1 (updateSeq (s.heap.push { cls := .type "list_iterator", data := .fields #[.ref l, .int 0 0] }).objs.size (fun _ => #[v, v]) >>= _) _ _ _
  have s1 := Heap.SameBut.update h' (s.heap.push { cls := .type "list_iterator", data := .fields #[.ref l, .int 0 0] }).objs.size (Obj.mapSeq fun _ => #[v, v])
  obtain ⟨c2, hc2⟩ : ∃ c2, (h'.update (s.heap.push { cls := .type "list_iterator", data := .fields #[.ref l, .int 0 0] }).objs.size (Obj.mapSeq fun _ => #[v, v])).get? (s.heap.push { cls := .type "list_iterator", data := .fields #[.ref l, .int 0 0] }).objs.size = some (seqObj "list" #[v, v] c2) := ⟨_, get?_update_seq hS' fun _ => #[v, v]⟩
  refine wpAny_bind ?_
  refine wpAny_updateSeq hS' rfl ?_
  rw [hname]
  refine wpAny_pure ⟨plainId_quiet PySem.F.plain_max_loop _, mt_loop hu hh hl hlI hSI hnS hnI hT hup (fun v h' tk' hv F' N' => ?_) _ 0 _ _ v c2 oI' rfl (by omega) (ksk_fr F1 s1 aS zS) (fun p hp => ?_) ⟨oI', (s1.2 _ hSI.symm).trans hoI', hoc, hod⟩ hv⟩
  · obtain ⟨a, t, u, rfl, ha⟩ := hT.2 _ _ hv
    rw [hvl] at ha
    exact hQ a t u h' tk' ha F' N'
  · rcases List.mem_append.mp hp with hp | hp
    · exact ksk_news N1 s1 hnS p hp
    · rcases List.mem_cons.mp hp with rfl | hp
      · exact ⟨hc2, aS, zS⟩
      · rw [List.mem_singleton.mp hp]
        exact ⟨(s1.2 _ hSI.symm).trans hoI', aI, fresh _ hL⟩
end

theorem ends_fits {x y : Str} : Txt.endswith x y = true ↔ Fits x.cps.toList.reverse y.cps.toList.reverse := by
  have h1 := len_toList x
  have h2 := len_toList y
  unfold Txt.endswith Fits Sh
  rw [StrLaws.subAt_eq]
  simp only [Bool.and_eq_true, decide_eq_true_eq, beq_iff_eq, List.length_reverse, Nat.zero_add, Nat.le_refl, true_and, h1, h2]
  have e1 : y.cps.toList.reverse.take y.length = y.cps.toList.reverse := List.take_of_length_le (by rw [List.length_reverse]; omega)
  rw [e1]
  refine and_congr_right fun hle => ?_
  have e2 : x.cps.toList.reverse.take y.length = (x.cps.toList.drop (x.length - y.length)).reverse := by
    rw [List.take_reverse, h1]
  have e3 : (x.cps.toList.drop (x.length - y.length)).take y.length = x.cps.toList.drop (x.length - y.length) := List.take_of_length_le (by rw [List.length_drop]; omega)
  rw [e2, e3]
  exact ⟨fun h => by rw [h], fun h => List.reverse_inj.mp h⟩
/-- what fits, in its order -/
def FitL (E : Nat → List Nat) (P : List Nat) (m : Nat) (qs : List Int) : Prop :=
  qs.length ≤ m ∧ (∀ i j, i < j → j < qs.length → qs.getD i 0 < qs.getD j 0) ∧ (∀ i, i < qs.length → ∃ q : Nat, qs.getD i 0 = (q : Int) ∧ q < m ∧ Fits P (E q)) ∧ ∀ j, j < m → Fits P (E j) → ∃ i, i < qs.length ∧ qs.getD i 0 = (j : Int)
theorem fit_zero (E : Nat → List Nat) (P : List Nat) : FitL E P 0 [] := ⟨Nat.le_refl _, fun _ _ _ h => absurd h (Nat.not_lt_zero _), fun _ h => absurd h (Nat.not_lt_zero _), fun _ h => absurd h (Nat.not_lt_zero _)⟩
theorem getD_l {qs : List Int} {z : Int} {t : Nat} (h : t < qs.length) : (qs ++ [z]).getD t 0 = qs.getD t 0 := by
  rw [List.getD_eq_getElem?_getD, List.getElem?_append_left h, ← List.getD_eq_getElem?_getD]
theorem getD_r {qs : List Int} {z : Int} : (qs ++ [z]).getD qs.length 0 = z := by
  rw [List.getD_eq_getElem?_getD, List.getElem?_append_right (Nat.le_refl _), Nat.sub_self]; rfl
theorem fit_yes {E : Nat → List Nat} {P : List Nat} {m : Nat} {qs : List Int} (h : FitL E P m qs) (hf : Fits P (E m)) : FitL E P (m + 1) (qs ++ [0 + (m : Int)]) := by
  obtain ⟨a, b, c, d⟩ := h
  refine ⟨by rw [List.length_append]; exact Nat.add_le_add_right a 1, fun i j hij hj => ?_, fun i hi => ?_, fun j hj f => ?_⟩
  · rw [List.length_append, List.length_singleton] at hj
    rcases Nat.lt_or_ge j qs.length with q | q
    · rw [getD_l q, getD_l (by omega)]; exact b i j hij q
    · rw [show j = qs.length by omega, getD_r, getD_l (by omega)]
      obtain ⟨z, e, l, -⟩ := c i (by omega)
      omega
  · rw [List.length_append, List.length_singleton] at hi
    rcases Nat.lt_or_ge i qs.length with q | q
    · rw [getD_l q]
      obtain ⟨z, e, l, f⟩ := c i q
      exact ⟨z, e, by omega, f⟩
    · rw [show i = qs.length by omega, getD_r]
      exact ⟨m, by omega, by omega, hf⟩
  · rcases Nat.lt_or_ge j m with q | q
    · obtain ⟨i, hi, e⟩ := d j q f
      exact ⟨i, by rw [List.length_append]; omega, by rw [getD_l hi, e]⟩
    · exact ⟨qs.length, by rw [List.length_append, List.length_singleton]; omega, by rw [getD_r]; omega⟩
theorem fit_no {E : Nat → List Nat} {P : List Nat} {m : Nat} {qs : List Int} (h : FitL E P m qs) (hf : ¬ Fits P (E m)) : FitL E P (m + 1) qs := by
  obtain ⟨a, b, c, d⟩ := h
  refine ⟨by omega, b, fun i hi => ?_, fun j hj f => ?_⟩
  · obtain ⟨z, e, l, f⟩ := c i hi
    exact ⟨z, e, by omega, f⟩
  · rcases Nat.lt_or_ge j m with q | q
    · exact d j q f
    · rw [show j = m by omega] at f; exact absurd f hf
theorem fit_len_lt {E : Nat → List Nat} {n : Nat} {P : List Nat} (hE : Rise E n) {a b : Nat} (hab : a < b) (hb : b < n) (ha' : Fits P (E a)) (hb' : Fits P (E b)) : (E a).length < (E b).length := by
  have f := fits_fits hb' ha' (hE.le (Nat.le_of_lt hab) hb)
  rcases Nat.lt_or_ge (E a).length (E b).length with q | q
  · exact q
  · have e : (E a).length = (E b).length := Nat.le_antisymm f.1 q
    have g := f.2.2
    rw [List.take_of_length_le (Nat.le_refl _), List.take_of_length_le (by omega)] at g
    have := hE a b hab hb
    rw [g] at this
    exact absurd this (llt_irrefl _)
theorem found_some {E : Nat → List Nat} {n : Nat} {P : List Nat} {qs : List Int} {v sz : Int} (hE : Rise E n) (hF : FitL E P n qs) (h0 : 0 < qs.length) (h : FoundA E n P v sz) :
    v = qs.getD (qs.length - 1) 0 + 1 ∧ sz = (E (qs.getD (qs.length - 1) 0).toNat).length := by
  obtain ⟨-, b, c, d⟩ := hF
  obtain ⟨q, e, hq, fq⟩ := c (qs.length - 1) (by omega)
  rcases h with ⟨t, ht, f, g, rfl, rfl⟩ | ⟨g, -, -⟩
  · obtain ⟨i, hi, ei⟩ := d t ht f
    have : t = q := by
      rcases Nat.lt_or_ge i (qs.length - 1) with r | r
      · have r1 := b i (qs.length - 1) r (by omega)
        have r2 := fit_len_lt hE (a := t) (b := q) (by omega) hq f fq
        have r3 := g q hq fq
        omega
      · have : i = qs.length - 1 := by omega
        subst this
        omega
    subst this
    rw [e]
    exact ⟨rfl, by rw [Int.toNat_natCast]⟩
  · exact absurd fq (g q hq)
theorem found_zero {E : Nat → List Nat} {n : Nat} {P : List Nat} {qs : List Int} {v sz : Int} (hF : FitL E P n qs) (h0 : ¬ 0 < qs.length) (h : FoundA E n P v sz) : v = 0 ∧ sz = 0 := by
  obtain ⟨-, -, -, d⟩ := hF
  rcases h with ⟨t, ht, f, -, -, -⟩ | ⟨-, a, b⟩
  · obtain ⟨i, hi, -⟩ := d t ht f
    omega
  · exact ⟨a, b⟩
theorem tabE_len (bk : Bool) (es : List Str) (t : Nat) : (tabE bk es t).length = (es.getD t Str.empty).length := by
  unfold tabE
  cases bk with
  | true => simp only [if_true]; exact rent_len es t
  | false => simp only [Bool.false_eq_true, if_false]; exact len_toList _
/-- what the second comprehension has made behind i turns -/
def TupI (es : List Str) (qs : List Int) (ys : List Value) (i : Nat) (tps : List (Addr × Obj)) : Prop :=
  ys.length = i ∧ ∀ j v, ys[j]? = some v → ∃ (a : Addr) (t u : Tok), v = .ref a ∧ (a, tupO ((es.getD (qs.getD j 0).toNat Str.empty).length : Int) t (qs.getD j 0 + 1) u) ∈ tps
theorem tupI_zero (es : List Str) (qs : List Int) : TupI es qs [] 0 [] := ⟨rfl, fun j v h => by simp at h⟩
theorem tupI_snoc {es : List Str} {qs : List Int} {ys : List Value} {i : Nat} {tps : List (Addr × Obj)} {a : Addr} {t u : Tok} (h : TupI es qs ys i tps) :
    TupI es qs (ys ++ [.ref a]) (i + 1) ((a, tupO ((es.getD (qs.getD i 0).toNat Str.empty).length : Int) t (qs.getD i 0 + 1) u) :: tps) := by
  obtain ⟨h1, h2⟩ := h
  refine ⟨by rw [List.length_append, h1]; rfl, fun j v hv => ?_⟩
  rcases Nat.lt_or_ge j ys.length with q | q
  · rw [List.getElem?_append_left q] at hv
    obtain ⟨a, t, u, e, m⟩ := h2 j v hv
    exact ⟨a, t, u, e, .tail _ m⟩
  · rw [List.getElem?_append_right q] at hv
    have : j = ys.length := by
      rcases Nat.lt_or_ge ys.length j with r | r
      · rw [List.getElem?_eq_none (by rw [List.length_singleton]; omega)] at hv; cases hv
      · omega
    subst this
    rw [Nat.sub_self] at hv
    cases hv
    rw [h1]
    exact ⟨a, t, u, rfl, .head _⟩
theorem tupI_end {es : List Str} {qs : List Int} {ys : List Value} {tps news : List (Addr × Obj)} (h : TupI es qs ys qs.length tps) (hs : ∀ p ∈ tps, p ∈ news) :
    TupsAre ys (qs.map fun q => ((es.getD q.toNat Str.empty).length : Int)) (fun j => qs.getD j 0 + 1) news := by
  obtain ⟨h1, h2⟩ := h
  refine ⟨by rw [List.length_map]; exact h1, fun j v hv => ?_⟩
  obtain ⟨a, t, u, e, m⟩ := h2 j v hv
  have hj : j < qs.length := by
    rcases Nat.lt_or_ge j ys.length with q | q
    · omega
    · rw [List.getElem?_eq_none q] at hv; cases hv
  refine ⟨a, t, u, e, hs _ ?_⟩
  have : (qs.map fun q => ((es.getD q.toNat Str.empty).length : Int)).getD j 0 = ((es.getD (qs.getD j 0).toNat Str.empty).length : Int) := by
    rw [List.getD_eq_getElem?_getD, List.getElem?_map, List.getD_eq_getElem?_getD (l := qs), List.getElem?_eq_getElem hj]
    rfl
  rw [this]; exact m
theorem fit_at {E : Nat → List Nat} {P : List Nat} {m : Nat} {qs : List Int} (h : FitL E P m qs) {i : Nat} (hi : i < qs.length) : 0 ≤ qs.getD i 0 ∧ qs.getD i 0 < m := by
  obtain ⟨q, e, l, -⟩ := h.2.2.1 i hi
  omega
theorem fit_up {bk : Bool} {es : List Str} {P : List Nat} {qs : List Int} (hE : Rise (tabE bk es) es.length) (h : FitL (tabE bk es) P es.length qs) (i j : Nat) (hij : i < j) (hj : j < (qs.map fun q => ((es.getD q.toNat Str.empty).length : Int)).length) :
    (qs.map fun q => ((es.getD q.toNat Str.empty).length : Int)).getD i 0 < (qs.map fun q => ((es.getD q.toNat Str.empty).length : Int)).getD j 0 := by
  rw [List.length_map] at hj
  have g : ∀ k, k < qs.length → (qs.map fun q => ((es.getD q.toNat Str.empty).length : Int)).getD k 0 = ((es.getD (qs.getD k 0).toNat Str.empty).length : Int) := fun k hk => by
    rw [List.getD_eq_getElem?_getD, List.getElem?_map, List.getD_eq_getElem?_getD (l := qs), List.getElem?_eq_getElem hk]
    rfl
  rw [g i (by omega), g j hj]
  obtain ⟨a, ea, la, fa⟩ := h.2.2.1 i (by omega)
  obtain ⟨b, eb, lb, fb⟩ := h.2.2.1 j hj
  have hab := h.2.1 i j hij hj
  have := fit_len_lt hE (a := a) (b := b) (by omega) lb fa fb
  rw [tabE_len, tabE_len] at this
  rw [ea, eb, Int.toNat_natCast, Int.toNat_natCast]
  omega
theorem fitL_last {es : List Str} {qs : List Int} (h0 : 0 < qs.length) : (qs.map fun q => ((es.getD q.toNat Str.empty).length : Int)).getD ((qs.map fun q => ((es.getD q.toNat Str.empty).length : Int)).length - 1) 0 = ((es.getD (qs.getD (qs.length - 1) 0).toNat Str.empty).length : Int) := by
  have hk : qs.length - 1 < qs.length := by omega
  rw [List.length_map, List.getD_eq_getElem?_getD, List.getElem?_map, List.getD_eq_getElem?_getD (l := qs), List.getElem?_eq_getElem hk]
  rfl
/-- the part of the text that is looked at -/
def partL (bk : Bool) (x : Str) (c l lb : Int) : List Nat := if bk then rcutL x lb c else cutL x c l
theorem partF {x : Str} {c l lb : Int} (h0 : 0 ≤ c) (h1 : c ≤ l) (h2 : l ≤ x.length) : (Txt.slice x (some c) (some l)).cps.toList = partL false x c l lb := by
  rw [slice_ss h0 h1 h2]; rfl
theorem partB {x : Str} {c l lb : Int} (h0 : 0 ≤ lb) (h1 : lb ≤ c) (h2 : c ≤ x.length) : (Txt.slice x (some lb) (some c)).cps.toList.reverse = partL true x c l lb := by
  rw [slice_ss h0 h1 h2]; rfl
theorem fitF {x : Str} {c l lb : Int} {es : List Str} {m : Nat} (h0 : 0 ≤ c) (h1 : c ≤ l) (h2 : l ≤ x.length) : Txt.startswith (Txt.slice x (some c) (some l)) (es.getD (0 + (m : Int)).toNat Str.empty) = true ↔ Fits (partL false x c l lb) (tabE false es m) := by
  rw [toN0, starts_fits, partF (lb := lb) h0 h1 h2]; rfl
theorem fitB {x : Str} {c l lb : Int} {es : List Str} {m : Nat} (h0 : 0 ≤ lb) (h1 : lb ≤ c) (h2 : c ≤ x.length) : Txt.endswith (Txt.slice x (some lb) (some c)) (es.getD (0 + (m : Int)).toNat Str.empty) = true ↔ Fits (partL true x c l lb) (tabE true es m) := by
  rw [toN0, ends_fits, partB (l := l) h0 h1 h2]; rfl


theorem words_jFCall_7 : True := by
  k_with_none
  k_with "my own k_all" => first | with_reducible assumption | exact Mine.ne_nil9 | exact Mine.off1_D (by with_reducible assumption) | (refine' Mine.ne_cons9 ?h39209a ?h39209b; (case h39209a => k_ne); (case h39209b => k_all)) | exact Mine.ne_allLt (by with_reducible assumption) | assumption | exact Mine.ne_allLt (by assumption) | exact List.forall_mem_nil _ | (refine' List.forall_mem_cons.mpr ⟨?h39209a, ?h39209b⟩; (case h39209a => k_ne); (case h39209b => k_all))
  k_with "my exec If" => refine wpAny_If ?_
  k_with "my subscriptTail" => (k_here; (with_reducible show wpAny _ _ (subscriptTail _ _ (Value.str _ _) (Value.int _ _)) _ _ _); (refine item_str (fitsSsize_of (N := 9223372036854775808) (by omega) (by omega) (Int.le_refl _)) (by omega) (by omega) ?_); intro _)
  k_with "my subscriptTail" => (k_here; (with_reducible show wpAny _ _ (subscriptTail _ (Expr.Slice none none none _) (Value.str _ _) (Value.ref _)) _ _ _); (with_reducible rename Fr _ _ _ _ => F'); (with_reducible rename News _ _ _ _ => N'); (refine slice_strN_nn_len (hsz := ?he93dfhsz) (s := ⟨_, _, _, _, _⟩) F' N' ?_); (case he93dfhsz => (rw [sizeLine_eq]; omega)); intro _ _ _ _ _ _)
  k_with "my subscriptTail" => (k_here; (with_reducible show wpAny _ _ (subscriptTail _ (Expr.Slice none (some _) none _) (Value.str _ _) (Value.ref _)) _ _ _); (with_reducible rename Fr _ _ _ _ => F'); (with_reducible rename News _ _ _ _ => N'); (refine slice_strN_ns_len (hsz := ?h5ee70hsz) (s := ⟨_, _, _, _, _⟩) F' N' ?_); (case h5ee70hsz => (rw [sizeLine_eq]; omega)); intro _ _ _ _ _ _)
  k_with "my subscriptTail" => (k_here; (with_reducible show wpAny _ _ (subscriptTail _ (Expr.Slice (some _) none none _) (Value.str _ _) (Value.ref _)) _ _ _); (with_reducible rename Fr _ _ _ _ => F'); (with_reducible rename News _ _ _ _ => N'); (refine slice_strN_sn_len (hsz := ?habc6bhsz) (s := ⟨_, _, _, _, _⟩) F' N' ?_); (case habc6bhsz => (rw [sizeLine_eq]; omega)); intro _ _ _ _ _ _)
  k_with "my subscriptTail" => (k_here; (with_reducible show wpAny _ _ (subscriptTail _ (Expr.Slice (some _) (some _) none _) (Value.str _ _) (Value.ref _)) _ _ _); (with_reducible rename Fr _ _ _ _ => F'); (with_reducible rename News _ _ _ _ => N'); (refine slice_strN_ss_len (hsz := ?h78793hsz) (s := ⟨_, _, _, _, _⟩) F' N' ?_); (case h78793hsz => (rw [sizeLine_eq]; omega)); intro _ _ _ _ _ _)
  k_with "my subscriptTail Name Constant ref int" => (k_here; k_dflt (refine' Mine.itemLit_K ?h4db2bzN ?h4db2bzm ?h4db2bz0 ?h4db2bzf ?h4db2bzx ?_ ?h4db2bzs ?h4db2bzg; (case h4db2bzN => k_asm); (case h4db2bzm => k_mem); (case h4db2bz0 => decide); (case h4db2bzf => decide); (case h4db2bzx => exact rfl); (case h4db2bzs => with_unfolding_all rfl); (case h4db2bzg => (intro _; with_unfolding_all rfl)); k_whole))
  k_with "my tail" => first | assumption | exact List.mem_append_left _ (by assumption) | exact List.mem_append_right _ (by assumption) | (refine List.mem_cons_of_mem _ ?_; k_extra "my tail")
  k_with "my sub" => first | exact Mine.all_nil | (refine Mine.all_cons ?h63e88zm ?h63e88zr; (case h63e88zm => k_mem); (case h63e88zr => k_extra "my sub")) | (intro p hp; k_extra "my tail")
  k_with "my own k_in" => first | k_in_fast | (refine' Frag.In.keeps ?hc3b53zX ?hc3b53zF; (case hc3b53zF => (refine' Fr.keep ?hc3b53zG; (case hc3b53zG => with_reducible assumption))); (case hc3b53zX => with_reducible assumption)) | assumption
  k_with "my own k_mem" => ((with_reducible show List.Mem _ _); refine Mine.memL ?_; with_reducible assumption)
  k_with "my onestep" => first | ((with_reducible show wpAny _ _ _ _ _ _); walk1) | (k_unfold; (try dsimp only)) | (with_reducible refine' Mine.seqE_last (by with_reducible assumption) ?_) | (with_reducible refine' Mine.seqE_next (by with_reducible assumption) ?_) | (with_reducible refine' Mine.seqE_ret (by with_reducible assumption) ?_) | (with_reducible refine' Mine.seqE_brk (by with_reducible assumption) ?_) | (with_reducible refine' Mine.seqE_cont (by with_reducible assumption) ?_) | (with_reducible refine Mine.nameQ_end (f := (_ : Flow)) (by with_reducible assumption) ?_) | (k_end; wrow_close) | walk1 | (dsimp only; walk1) | (leave1; walk_say "STEP leave1"; try dsimp only)
  k_with "my upto While" => repeat ((fail_if_success (with_reducible show wpAny _ _ (exec (Stmt.While _ _ _ _) _) _ _ _)); k_extra "my onestep")
  k_with "my upto For" => repeat ((fail_if_success (with_reducible show wpAny _ _ (exec (Stmt.For _ _ _ _ _) _) _ _ _)); k_extra "my onestep")
  k_with "my upto iter" => repeat ((fail_if_success (with_reducible show wpAny _ _ (pyIter _) _ _ _)); k_extra "my onestep")
  k_with "my MwPost" => (dsimp only [Mine.MwPost])
  k_with "my noend" => ((fail_if_success (with_reducible show InvEndN _ _ _ _ _ _ _)); (fail_if_success (with_reducible show Mine.CutPost _ _ _ _ _ _ _ _)); (fail_if_success (with_reducible show Mine.MwEnd _ _ _ _ _ _ _ _ _)); (fail_if_success (with_reducible show LCg.CompEnd _ _ _ _ _ _ _ _ _ _ _ _ _ _)); (fail_if_success (with_reducible show KswEnd _ _ _ _ _ _ _ _ _ _ _ _)))
  k_with "my steps" => repeat' (first | ((with_reducible show wpAny _ _ _ _ _ _); walk1) | (k_extra "my noend"; k_extra "my onestep"))
  k_with "my upto CompSrc" => repeat ((fail_if_success (with_reducible show LCg.CompSrc _ _ _ _ _ _ _ _ _ _ _ _ _ _)); (fail_if_success (with_reducible show LCt.CompSrcT _ _ _ _ _ _ _ _ _ _ _ _ _ _ _)); k_extra "my onestep")
  k_with "my own k_ne" => first | with_reducible (first | assumption | exact Mine.cjg4 (by with_reducible assumption) | exact Mine.cjg3 (by with_reducible assumption) | exact Ne.symm (by assumption) | exact Mine.gt_ne0 (by assumption) | exact Mine.s_ne1 | exact Mine.r_ne1 | exact Mine.lt_ne1 (by assumption) | exact Mine.gt_ne1 (by assumption) | exact Mine.s_ne2 | exact Mine.r_ne2 | exact Mine.lt_ne2 (by assumption) | exact Mine.gt_ne2 (by assumption) | exact Mine.r_ne3 | exact Mine.lt_ne3 (by assumption) | exact Mine.gt_ne3 (by assumption) | exact Mine.lt_ne4 (by assumption) | exact Mine.gt_ne4 (by assumption)) | exact Mine.off3_i1 (by with_reducible assumption) (by k_mem) | exact Mine.off3_c1 (by with_reducible assumption) (by k_mem) | exact Mine.off3_d1 (by with_reducible assumption) (by k_mem) | exact Mine.off1_d1 (by with_reducible assumption) (by k_mem) | exact Mine.ltm_0 (by with_reducible assumption) (by k_mem) | exact Mine.ltm_1 (by with_reducible assumption) (by k_mem) | exact Mine.nem_1 (by with_reducible assumption) (by k_mem) | with_reducible (first | exact Mine.cjl0 (by with_reducible assumption) | exact Mine.cjl1 (by with_reducible assumption) | exact Mine.cjg1 (by with_reducible assumption) | exact Mine.cjl2e (by with_reducible assumption) | exact Mine.cjg2 (by with_reducible assumption) | exact Mine.cjg3 (by with_reducible assumption) | exact Mine.cjg4 (by with_reducible assumption) | exact Mine.cjg6 (by with_reducible assumption) | exact Mine.cjg7 (by with_reducible assumption)) | (refine neN ?_; (try dsimp only); first | omega (config := { splitDisjunctions := false }) | (walk_say "NECONJ"; (repeat (with_reducible rename _ ∧ _ => hcj; obtain ⟨_, _⟩ := hcj)); first | with_reducible assumption | (refine Ne.symm ?_; with_reducible assumption)))
  k_with "my kall1" => first | exact Mine.all_nil | (refine Mine.all_cons ?h6bfabzm ?h6bfabzr; (case h6bfabzm => with_unfolding_all (first | (k_whole; exact Eq.refl (some _)) | rfl)); (case h6bfabzr => k_extra "my kall1"))
  k_with "my kall" => first | (k_whole; k_extra "my kall1") | ((try dsimp only) <;> (k_extra "my kall1"))
  k_with "my cut" => repeat (obtain ⟨hcA, hcj⟩ : _ ∧ _ := hcj; (try (obtain ⟨_, hcA⟩ : _ ∧ _ := hcA; (try (obtain ⟨_, _⟩ : _ ∧ _ := hcA)))))
  k_with "my room" => first | with_reducible assumption | exact Mine.off2 (by with_reducible assumption) (by exact Eq.refl true) | ktr_room
  k_with "my units" => first | with_reducible assumption | exact Mine.off2 (by with_reducible assumption) (by exact Eq.refl true) | ktr_units
  k_with "my num" => first | (k_whole; with_reducible (first | assumption | (show (_ : Int) < _; first | exact Mine.nm_b (by with_reducible assumption) (by with_unfolding_all exact Eq.refl true) | exact Mine.nm_a (by with_reducible assumption) (by with_unfolding_all exact Eq.refl true) | exact Mine.nc_a (by with_reducible assumption) (by with_unfolding_all exact Eq.refl true) | exact Mine.no_a4 (by with_reducible assumption) (by with_unfolding_all exact Eq.refl true) | exact Mine.no_a3 (by with_reducible assumption) (by with_unfolding_all exact Eq.refl true) | exact Mine.no_a2 (by with_reducible assumption) (by with_unfolding_all exact Eq.refl true) | exact Mine.no_a1 (by with_reducible assumption) (by with_unfolding_all exact Eq.refl true)) | (show (_ : Int) ≤ _; first | exact Mine.no_c2 (by with_reducible assumption) (by with_unfolding_all exact Eq.refl true) | exact Mine.no_e2 (by with_unfolding_all exact Eq.refl true) | exact Mine.nm_e (by with_reducible assumption) (by with_unfolding_all exact Eq.refl true) | exact Mine.nm_c (by with_reducible assumption) (by with_unfolding_all exact Eq.refl true) | exact Mine.nc_c (by with_reducible assumption) (by with_unfolding_all exact Eq.refl true) | exact Mine.nc_e (by with_unfolding_all exact Eq.refl true) | exact Mine.nz_e (by with_unfolding_all exact Eq.refl true) | exact Mine.no_c5 (by with_reducible assumption) (by with_unfolding_all exact Eq.refl true) | exact Mine.no_c4 (by with_reducible assumption) (by with_unfolding_all exact Eq.refl true) | exact Mine.no_c3 (by with_reducible assumption) (by with_unfolding_all exact Eq.refl true) | exact Mine.no_c1 (by with_reducible assumption) (by with_unfolding_all exact Eq.refl true) | exact Mine.no_e5 (by with_unfolding_all exact Eq.refl true) | exact Mine.no_e4 (by with_unfolding_all exact Eq.refl true) | exact Mine.no_e3 (by with_unfolding_all exact Eq.refl true) | exact Mine.no_g3 (by with_reducible assumption) (by with_unfolding_all exact Eq.refl true) | exact Mine.no_g2 (by with_reducible assumption) (by with_unfolding_all exact Eq.refl true) | exact Mine.no_g1 (by with_reducible assumption) (by with_unfolding_all exact Eq.refl true)) | (show (_ : Nat) < _; first | exact Mine.nn_b (by with_reducible assumption) (by with_unfolding_all exact Eq.refl true)) | (show (_ : Nat) ≤ _; first | exact Mine.nn_c (by with_reducible assumption) (by with_unfolding_all exact Eq.refl true) | exact Mine.nle_1 | exact Mine.nle_2 | exact Mine.nle_3 | exact Mine.nle_4))) | (decide +kernel) | omega
  k_with "my ev name" => first | (refine' Mine.ev_L ?h6e1a0F ?h6e1a0k ?h6e1a0x ?h6e1a0v ?h6e1a0d; (case h6e1a0x => rfl); (case h6e1a0F => k_asm); (case h6e1a0k => first | exact rfl | assumption); (case h6e1a0v => exact Eq.refl (some _)); (case h6e1a0d => decide)) | (refine' Mine.ev_C ?h6e1a0N ?h6e1a0k ?h6e1a0x ?h6e1a0c ?h6e1a0m ?h6e1a0o ?h6e1a0d; (case h6e1a0k => first | exact rfl | assumption); (case h6e1a0x => rfl); (case h6e1a0N => k_asm); (case h6e1a0c => rfl); (case h6e1a0m => k_mem); (case h6e1a0o => k_asm); (case h6e1a0d => decide))
  k_with "my ev0" => first | (with_reducible exact Mine.ev_int) | ((with_reducible refine' Mine.ev_L ?h84e4cF ?h84e4ck ?h84e4cx ?h84e4cv ?h84e4cd); (case h84e4cx => rfl); (case h84e4cF => k_asm); (case h84e4ck => first | exact rfl | assumption); (case h84e4cv => exact Eq.refl (some _)); (case h84e4cd => decide)) | ((with_reducible refine' Mine.ev_attr ?h84e4cF ?h84e4cX ?h84e4cH ?h84e4cI ?h84e4cg ?h84e4ch ?h84e4ca ?h84e4cn ?h84e4cl ?h84e4cv); (case h84e4cF => k_asm); (case h84e4cX => k_asm); (case h84e4cH => k_extra "my ev name"); (case h84e4cI => k_inst); (case h84e4cg => k_is); (case h84e4ch => k_is); (case h84e4ca => k_is); (case h84e4cn => k_is); (case h84e4cl => k_get); (case h84e4cv => k_handed)) | ((with_reducible refine' Mine.ev_item ?h84e4cN ?h84e4cH ?h84e4cm ?h84e4cz ?h84e4cx); (case h84e4cN => k_asm); (case h84e4cH => k_extra "my ev name"); (case h84e4cm => k_mem); (case h84e4cz => exact rfl); (case h84e4cx => exact rfl)) | ((with_reducible refine' Mine.ev_add ?h84e4cx ?h84e4cy); (case h84e4cx => k_extra "my ev1"); (case h84e4cy => k_extra "my ev1")) | ((with_reducible refine' Mine.ev_sub ?h84e4cx ?h84e4cy); (case h84e4cx => k_extra "my ev1"); (case h84e4cy => k_extra "my ev1")) | ((with_reducible refine' Mine.ev_eq ?h84e4cx ?h84e4cy ?h84e4cz); (case h84e4cx => k_extra "my ev1"); (case h84e4cy => k_extra "my ev1"); (case h84e4cz => with_unfolding_all rfl)) | ((with_reducible refine' Mine.ev_ne ?h84e4cx ?h84e4cy ?h84e4cz); (case h84e4cx => k_extra "my ev1"); (case h84e4cy => k_extra "my ev1"); (case h84e4cz => with_unfolding_all rfl)) | ((with_reducible refine' Mine.ev_lt ?h84e4cx ?h84e4cy ?h84e4cz); (case h84e4cx => k_extra "my ev1"); (case h84e4cy => k_extra "my ev1"); (case h84e4cz => with_unfolding_all rfl)) | ((with_reducible refine' Mine.ev_le ?h84e4cx ?h84e4cy ?h84e4cz); (case h84e4cx => k_extra "my ev1"); (case h84e4cy => k_extra "my ev1"); (case h84e4cz => with_unfolding_all rfl)) | ((with_reducible refine' Mine.ev_gt ?h84e4cx ?h84e4cy ?h84e4cz); (case h84e4cx => k_extra "my ev1"); (case h84e4cy => k_extra "my ev1"); (case h84e4cz => with_unfolding_all rfl)) | ((with_reducible refine' Mine.ev_ge ?h84e4cx ?h84e4cy ?h84e4cz); (case h84e4cx => k_extra "my ev1"); (case h84e4cy => k_extra "my ev1"); (case h84e4cz => with_unfolding_all rfl)) | ((with_reducible refine' Mine.ev_C ?h84e4cN ?h84e4ck ?h84e4cx ?h84e4cc ?h84e4cm ?h84e4co ?h84e4cd); (case h84e4cx => rfl); (case h84e4ck => first | exact rfl | assumption); (case h84e4cN => k_asm); (case h84e4cc => rfl); (case h84e4cm => k_mem); (case h84e4co => k_asm); (case h84e4cd => decide)) | (with_reducible exact Mine.ev_str) | (with_reducible exact Mine.ev_bool) | (with_reducible exact Mine.ev_none)
  k_with "my ev1" => first | (with_reducible exact Mine.ev_int) | ((with_reducible refine' Mine.ev_L ?h1cd45F ?h1cd45k ?h1cd45x ?h1cd45v ?h1cd45d); (case h1cd45x => rfl); (case h1cd45F => k_asm); (case h1cd45k => first | exact rfl | assumption); (case h1cd45v => exact Eq.refl (some _)); (case h1cd45d => decide)) | ((with_reducible refine' Mine.ev_attr ?h1cd45F ?h1cd45X ?h1cd45H ?h1cd45I ?h1cd45g ?h1cd45h ?h1cd45a ?h1cd45n ?h1cd45l ?h1cd45v); (case h1cd45F => k_asm); (case h1cd45X => k_asm); (case h1cd45H => k_extra "my ev name"); (case h1cd45I => k_inst); (case h1cd45g => k_is); (case h1cd45h => k_is); (case h1cd45a => k_is); (case h1cd45n => k_is); (case h1cd45l => k_get); (case h1cd45v => k_handed)) | ((with_reducible refine' Mine.ev_item ?h1cd45N ?h1cd45H ?h1cd45m ?h1cd45z ?h1cd45x); (case h1cd45N => k_asm); (case h1cd45H => k_extra "my ev name"); (case h1cd45m => k_mem); (case h1cd45z => exact rfl); (case h1cd45x => exact rfl)) | ((with_reducible refine' Mine.ev_add ?h1cd45x ?h1cd45y); (case h1cd45x => k_extra "my ev2"); (case h1cd45y => k_extra "my ev2")) | ((with_reducible refine' Mine.ev_sub ?h1cd45x ?h1cd45y); (case h1cd45x => k_extra "my ev2"); (case h1cd45y => k_extra "my ev2")) | ((with_reducible refine' Mine.ev_eq ?h1cd45x ?h1cd45y ?h1cd45z); (case h1cd45x => k_extra "my ev2"); (case h1cd45y => k_extra "my ev2"); (case h1cd45z => with_unfolding_all rfl)) | ((with_reducible refine' Mine.ev_ne ?h1cd45x ?h1cd45y ?h1cd45z); (case h1cd45x => k_extra "my ev2"); (case h1cd45y => k_extra "my ev2"); (case h1cd45z => with_unfolding_all rfl)) | ((with_reducible refine' Mine.ev_lt ?h1cd45x ?h1cd45y ?h1cd45z); (case h1cd45x => k_extra "my ev2"); (case h1cd45y => k_extra "my ev2"); (case h1cd45z => with_unfolding_all rfl)) | ((with_reducible refine' Mine.ev_le ?h1cd45x ?h1cd45y ?h1cd45z); (case h1cd45x => k_extra "my ev2"); (case h1cd45y => k_extra "my ev2"); (case h1cd45z => with_unfolding_all rfl)) | ((with_reducible refine' Mine.ev_gt ?h1cd45x ?h1cd45y ?h1cd45z); (case h1cd45x => k_extra "my ev2"); (case h1cd45y => k_extra "my ev2"); (case h1cd45z => with_unfolding_all rfl)) | ((with_reducible refine' Mine.ev_ge ?h1cd45x ?h1cd45y ?h1cd45z); (case h1cd45x => k_extra "my ev2"); (case h1cd45y => k_extra "my ev2"); (case h1cd45z => with_unfolding_all rfl)) | ((with_reducible refine' Mine.ev_C ?h1cd45N ?h1cd45k ?h1cd45x ?h1cd45c ?h1cd45m ?h1cd45o ?h1cd45d); (case h1cd45x => rfl); (case h1cd45k => first | exact rfl | assumption); (case h1cd45N => k_asm); (case h1cd45c => rfl); (case h1cd45m => k_mem); (case h1cd45o => k_asm); (case h1cd45d => decide)) | (with_reducible exact Mine.ev_str) | (with_reducible exact Mine.ev_bool) | (with_reducible exact Mine.ev_none)
  k_with "my ev2" => first | (with_reducible exact Mine.ev_int) | ((with_reducible refine' Mine.ev_L ?hdef3bF ?hdef3bk ?hdef3bx ?hdef3bv ?hdef3bd); (case hdef3bx => rfl); (case hdef3bF => k_asm); (case hdef3bk => first | exact rfl | assumption); (case hdef3bv => exact Eq.refl (some _)); (case hdef3bd => decide)) | ((with_reducible refine' Mine.ev_attr ?hdef3bF ?hdef3bX ?hdef3bH ?hdef3bI ?hdef3bg ?hdef3bh ?hdef3ba ?hdef3bn ?hdef3bl ?hdef3bv); (case hdef3bF => k_asm); (case hdef3bX => k_asm); (case hdef3bH => k_extra "my ev name"); (case hdef3bI => k_inst); (case hdef3bg => k_is); (case hdef3bh => k_is); (case hdef3ba => k_is); (case hdef3bn => k_is); (case hdef3bl => k_get); (case hdef3bv => k_handed)) | ((with_reducible refine' Mine.ev_item ?hdef3bN ?hdef3bH ?hdef3bm ?hdef3bz ?hdef3bx); (case hdef3bN => k_asm); (case hdef3bH => k_extra "my ev name"); (case hdef3bm => k_mem); (case hdef3bz => exact rfl); (case hdef3bx => exact rfl)) | ((with_reducible refine' Mine.ev_add ?hdef3bx ?hdef3by); (case hdef3bx => k_extra "my ev3"); (case hdef3by => k_extra "my ev3")) | ((with_reducible refine' Mine.ev_sub ?hdef3bx ?hdef3by); (case hdef3bx => k_extra "my ev3"); (case hdef3by => k_extra "my ev3")) | ((with_reducible refine' Mine.ev_eq ?hdef3bx ?hdef3by ?hdef3bz); (case hdef3bx => k_extra "my ev3"); (case hdef3by => k_extra "my ev3"); (case hdef3bz => with_unfolding_all rfl)) | ((with_reducible refine' Mine.ev_ne ?hdef3bx ?hdef3by ?hdef3bz); (case hdef3bx => k_extra "my ev3"); (case hdef3by => k_extra "my ev3"); (case hdef3bz => with_unfolding_all rfl)) | ((with_reducible refine' Mine.ev_lt ?hdef3bx ?hdef3by ?hdef3bz); (case hdef3bx => k_extra "my ev3"); (case hdef3by => k_extra "my ev3"); (case hdef3bz => with_unfolding_all rfl)) | ((with_reducible refine' Mine.ev_le ?hdef3bx ?hdef3by ?hdef3bz); (case hdef3bx => k_extra "my ev3"); (case hdef3by => k_extra "my ev3"); (case hdef3bz => with_unfolding_all rfl)) | ((with_reducible refine' Mine.ev_gt ?hdef3bx ?hdef3by ?hdef3bz); (case hdef3bx => k_extra "my ev3"); (case hdef3by => k_extra "my ev3"); (case hdef3bz => with_unfolding_all rfl)) | ((with_reducible refine' Mine.ev_ge ?hdef3bx ?hdef3by ?hdef3bz); (case hdef3bx => k_extra "my ev3"); (case hdef3by => k_extra "my ev3"); (case hdef3bz => with_unfolding_all rfl)) | ((with_reducible refine' Mine.ev_C ?hdef3bN ?hdef3bk ?hdef3bx ?hdef3bc ?hdef3bm ?hdef3bo ?hdef3bd); (case hdef3bx => rfl); (case hdef3bk => first | exact rfl | assumption); (case hdef3bN => k_asm); (case hdef3bc => rfl); (case hdef3bm => k_mem); (case hdef3bo => k_asm); (case hdef3bd => decide)) | (with_reducible exact Mine.ev_str) | (with_reducible exact Mine.ev_bool) | (with_reducible exact Mine.ev_none)
  k_with "my ev3" => first | (with_reducible exact Mine.ev_int) | ((with_reducible refine' Mine.ev_L ?h1a33cF ?h1a33ck ?h1a33cx ?h1a33cv ?h1a33cd); (case h1a33cx => rfl); (case h1a33cF => k_asm); (case h1a33ck => first | exact rfl | assumption); (case h1a33cv => exact Eq.refl (some _)); (case h1a33cd => decide)) | ((with_reducible refine' Mine.ev_attr ?h1a33cF ?h1a33cX ?h1a33cH ?h1a33cI ?h1a33cg ?h1a33ch ?h1a33ca ?h1a33cn ?h1a33cl ?h1a33cv); (case h1a33cF => k_asm); (case h1a33cX => k_asm); (case h1a33cH => k_extra "my ev name"); (case h1a33cI => k_inst); (case h1a33cg => k_is); (case h1a33ch => k_is); (case h1a33ca => k_is); (case h1a33cn => k_is); (case h1a33cl => k_get); (case h1a33cv => k_handed)) | ((with_reducible refine' Mine.ev_item ?h1a33cN ?h1a33cH ?h1a33cm ?h1a33cz ?h1a33cx); (case h1a33cN => k_asm); (case h1a33cH => k_extra "my ev name"); (case h1a33cm => k_mem); (case h1a33cz => exact rfl); (case h1a33cx => exact rfl)) | ((with_reducible refine' Mine.ev_add ?h1a33cx ?h1a33cy); (case h1a33cx => k_extra "my ev4"); (case h1a33cy => k_extra "my ev4")) | ((with_reducible refine' Mine.ev_sub ?h1a33cx ?h1a33cy); (case h1a33cx => k_extra "my ev4"); (case h1a33cy => k_extra "my ev4")) | ((with_reducible refine' Mine.ev_eq ?h1a33cx ?h1a33cy ?h1a33cz); (case h1a33cx => k_extra "my ev4"); (case h1a33cy => k_extra "my ev4"); (case h1a33cz => with_unfolding_all rfl)) | ((with_reducible refine' Mine.ev_ne ?h1a33cx ?h1a33cy ?h1a33cz); (case h1a33cx => k_extra "my ev4"); (case h1a33cy => k_extra "my ev4"); (case h1a33cz => with_unfolding_all rfl)) | ((with_reducible refine' Mine.ev_lt ?h1a33cx ?h1a33cy ?h1a33cz); (case h1a33cx => k_extra "my ev4"); (case h1a33cy => k_extra "my ev4"); (case h1a33cz => with_unfolding_all rfl)) | ((with_reducible refine' Mine.ev_le ?h1a33cx ?h1a33cy ?h1a33cz); (case h1a33cx => k_extra "my ev4"); (case h1a33cy => k_extra "my ev4"); (case h1a33cz => with_unfolding_all rfl)) | ((with_reducible refine' Mine.ev_gt ?h1a33cx ?h1a33cy ?h1a33cz); (case h1a33cx => k_extra "my ev4"); (case h1a33cy => k_extra "my ev4"); (case h1a33cz => with_unfolding_all rfl)) | ((with_reducible refine' Mine.ev_ge ?h1a33cx ?h1a33cy ?h1a33cz); (case h1a33cx => k_extra "my ev4"); (case h1a33cy => k_extra "my ev4"); (case h1a33cz => with_unfolding_all rfl)) | ((with_reducible refine' Mine.ev_C ?h1a33cN ?h1a33ck ?h1a33cx ?h1a33cc ?h1a33cm ?h1a33co ?h1a33cd); (case h1a33cx => rfl); (case h1a33ck => first | exact rfl | assumption); (case h1a33cN => k_asm); (case h1a33cc => rfl); (case h1a33cm => k_mem); (case h1a33co => k_asm); (case h1a33cd => decide)) | (with_reducible exact Mine.ev_str) | (with_reducible exact Mine.ev_bool) | (with_reducible exact Mine.ev_none)
  k_with "my ev4" => first | (with_reducible exact Mine.ev_int) | ((with_reducible refine' Mine.ev_L ?hb89ebF ?hb89ebk ?hb89ebx ?hb89ebv ?hb89ebd); (case hb89ebx => rfl); (case hb89ebF => k_asm); (case hb89ebk => first | exact rfl | assumption); (case hb89ebv => exact Eq.refl (some _)); (case hb89ebd => decide)) | ((with_reducible refine' Mine.ev_attr ?hb89ebF ?hb89ebX ?hb89ebH ?hb89ebI ?hb89ebg ?hb89ebh ?hb89eba ?hb89ebn ?hb89ebl ?hb89ebv); (case hb89ebF => k_asm); (case hb89ebX => k_asm); (case hb89ebH => k_extra "my ev name"); (case hb89ebI => k_inst); (case hb89ebg => k_is); (case hb89ebh => k_is); (case hb89eba => k_is); (case hb89ebn => k_is); (case hb89ebl => k_get); (case hb89ebv => k_handed)) | ((with_reducible refine' Mine.ev_item ?hb89ebN ?hb89ebH ?hb89ebm ?hb89ebz ?hb89ebx); (case hb89ebN => k_asm); (case hb89ebH => k_extra "my ev name"); (case hb89ebm => k_mem); (case hb89ebz => exact rfl); (case hb89ebx => exact rfl)) | ((with_reducible refine' Mine.ev_add ?hb89ebx ?hb89eby); (case hb89ebx => k_extra "my ev5"); (case hb89eby => k_extra "my ev5")) | ((with_reducible refine' Mine.ev_sub ?hb89ebx ?hb89eby); (case hb89ebx => k_extra "my ev5"); (case hb89eby => k_extra "my ev5")) | ((with_reducible refine' Mine.ev_eq ?hb89ebx ?hb89eby ?hb89ebz); (case hb89ebx => k_extra "my ev5"); (case hb89eby => k_extra "my ev5"); (case hb89ebz => with_unfolding_all rfl)) | ((with_reducible refine' Mine.ev_ne ?hb89ebx ?hb89eby ?hb89ebz); (case hb89ebx => k_extra "my ev5"); (case hb89eby => k_extra "my ev5"); (case hb89ebz => with_unfolding_all rfl)) | ((with_reducible refine' Mine.ev_lt ?hb89ebx ?hb89eby ?hb89ebz); (case hb89ebx => k_extra "my ev5"); (case hb89eby => k_extra "my ev5"); (case hb89ebz => with_unfolding_all rfl)) | ((with_reducible refine' Mine.ev_le ?hb89ebx ?hb89eby ?hb89ebz); (case hb89ebx => k_extra "my ev5"); (case hb89eby => k_extra "my ev5"); (case hb89ebz => with_unfolding_all rfl)) | ((with_reducible refine' Mine.ev_gt ?hb89ebx ?hb89eby ?hb89ebz); (case hb89ebx => k_extra "my ev5"); (case hb89eby => k_extra "my ev5"); (case hb89ebz => with_unfolding_all rfl)) | ((with_reducible refine' Mine.ev_ge ?hb89ebx ?hb89eby ?hb89ebz); (case hb89ebx => k_extra "my ev5"); (case hb89eby => k_extra "my ev5"); (case hb89ebz => with_unfolding_all rfl)) | ((with_reducible refine' Mine.ev_C ?hb89ebN ?hb89ebk ?hb89ebx ?hb89ebc ?hb89ebm ?hb89ebo ?hb89ebd); (case hb89ebx => rfl); (case hb89ebk => first | exact rfl | assumption); (case hb89ebN => k_asm); (case hb89ebc => rfl); (case hb89ebm => k_mem); (case hb89ebo => k_asm); (case hb89ebd => decide)) | (with_reducible exact Mine.ev_str) | (with_reducible exact Mine.ev_bool) | (with_reducible exact Mine.ev_none)
  k_with "my evs" => first | (with_reducible exact Mine.evs_nil) | ((with_reducible refine' Mine.evs_cons ?h3ebe4x ?h3ebe4y ?h3ebe4z); (case h3ebe4x => k_extra "my ev0"); (case h3ebe4y => k_extra "my evs"); (case h3ebe4z => rfl))
  k_with "my execs cons" => (k_here; (try ((first | (with_reducible show wpAny _ _ _ (Mine.MwPost _ _ _ _ _ _ _ _ _) _ _) | (with_reducible show wpAny _ _ _ (Mine.MrPost _ _ _ _ _ _ _ _ _) _ _) | (with_reducible show wpAny _ _ _ (InvPostN _ _ _ _ _ _ _) _ _) | (with_reducible show wpAny _ _ _ (KswPost _ _ _ _ _ _ _ _ _ _ _ _) _ _)); refine Mine.nameQ ?_; intro Qn hQn)); (with_reducible refine Mine.execs_seqE ?_); intro Qk hQk)
  k_with "my eval Name" => (k_here; k_dflt (first | (refine' nameX_L ?hfde63F ?hfde63v ?_ ?hfde63a ?hfde63b; (case hfde63b => rfl); (case hfde63F => k_asm); (case hfde63a => rfl); (case hfde63v => exact Eq.refl (some _)); k_whole) | (refine' nameX_K ?hfde63F ?hfde63X ?hfde63T ?hfde63e ?_ ?hfde63a ?hfde63b; (case hfde63b => rfl); (case hfde63F => k_asm); (case hfde63X => k_asm); (case hfde63T => k_asm); (case hfde63a => rfl); (case hfde63e => k_is); k_whole) | (refine' nameX_B ?hfde63F ?hfde63X ?hfde63T ?hfde63e ?hfde63v ?hfde63n ?_ ?hfde63a ?hfde63b; (case hfde63b => rfl); (case hfde63F => k_asm); (case hfde63X => k_asm); (case hfde63T => k_asm); (case hfde63a => rfl); (case hfde63e => k_is); (case hfde63v => boot_fast); (case hfde63n => decide); k_whole)))
  k_with "my eval BinOp" => (k_here; k_dflt (refine' Mine.ev_use ?hcbeddu ?_; (case hcbeddu => k_extra "my ev0"); k_whole); (try dsimp only))
  k_with "my eval Compare" => (k_here; k_dflt (refine' Mine.ev_use ?h28b78u ?_; (case h28b78u => k_extra "my ev0"); k_whole); (try dsimp only))
  k_with "my eval Subscript" => (k_here; k_dflt (refine' Mine.ev_use ?h772c3u ?_; (case h772c3u => k_extra "my ev0"); k_whole); (try dsimp only))
  k_with "my eval Attribute Name" => (k_here; k_dflt (refine' Mine.ev_use ?he290du ?_; (case he290du => k_extra "my ev0"); k_whole); (try dsimp only))
  k_with "my spliced" => (k_here; (with_reducible show wpAny _ _ (spliced (backTo _ (starEach (_ :: _) _))) _ _ _); k_dflt (refine' Mine.evs_use ?hf8b0eu ?_; (case hf8b0eu => k_extra "my evs"); k_whole); (try dsimp only))
  k_with "my isTrue Compare" => (k_here; k_dflt (first | ((with_reducible refine' Mine.ist_eq ?hdb5ccx ?hdb5ccy ?hdb5ccz ?_); (case hdb5ccx => k_extra "my ev0"); (case hdb5ccy => k_extra "my ev0"); (case hdb5ccz => with_unfolding_all rfl); k_whole) | ((with_reducible refine' Mine.ist_ne ?hdb5ccx ?hdb5ccy ?hdb5ccz ?_); (case hdb5ccx => k_extra "my ev0"); (case hdb5ccy => k_extra "my ev0"); (case hdb5ccz => with_unfolding_all rfl); k_whole) | ((with_reducible refine' Mine.ist_lt ?hdb5ccx ?hdb5ccy ?hdb5ccz ?_); (case hdb5ccx => k_extra "my ev0"); (case hdb5ccy => k_extra "my ev0"); (case hdb5ccz => with_unfolding_all rfl); k_whole) | ((with_reducible refine' Mine.ist_le ?hdb5ccx ?hdb5ccy ?hdb5ccz ?_); (case hdb5ccx => k_extra "my ev0"); (case hdb5ccy => k_extra "my ev0"); (case hdb5ccz => with_unfolding_all rfl); k_whole) | ((with_reducible refine' Mine.ist_gt ?hdb5ccx ?hdb5ccy ?hdb5ccz ?_); (case hdb5ccx => k_extra "my ev0"); (case hdb5ccy => k_extra "my ev0"); (case hdb5ccz => with_unfolding_all rfl); k_whole) | ((with_reducible refine' Mine.ist_ge ?hdb5ccx ?hdb5ccy ?hdb5ccz ?_); (case hdb5ccx => k_extra "my ev0"); (case hdb5ccy => k_extra "my ev0"); (case hdb5ccz => with_unfolding_all rfl); k_whole)); (try dsimp only))
  k_with "my call type:list" => (k_here; (with_reducible show wpAny _ _ (call (Value.type _) [Value.str _ _]) _ _ _); k_dflt (refine' Mine.listStr_K ?h1c1ddzh ?h1c1ddzF ?h1c1ddzN ?h1c1ddzs ?_; (case h1c1ddzh => exact rfl); (case h1c1ddzF => k_asm); (case h1c1ddzN => k_asm); (case h1c1ddzs => (rw [sizeLine_eq]; omega)); k_whole); intro h' tk' vs' n' F' N' l1 hS'; (have hltm := l1); (try k_lt l1); (try k_sweep))
  k_with "my call builtin:len" => (k_here; (with_reducible show wpAny _ _ (call (Value.builtin "len") [Value.ref _]) _ _ _); k_dflt (refine' Mine.lenStrs_K ?h9c18czN ?h9c18czm ?h9c18czi ?h9c18czf ?_; (case h9c18czN => k_asm); (case h9c18czm => k_mem); (case h9c18czi => with_reducible assumption); (case h9c18czf => omega); k_whole))
  k_with "my subscriptTail" => (k_here; (with_reducible show wpAny _ _ (subscriptTail _ _ (Value.ref _) (Value.int _ _)) _ _ _); k_dflt (refine' Mine.itemStrs_K ?hda686zN ?hda686zm ?hda686zi ?hda686z0 ?hda686z1 ?hda686zf ?_ ?hda686zs ?hda686zg; (case hda686zN => k_asm); (case hda686zm => k_mem); (case hda686zi => with_reducible assumption); (case hda686z0 => omega); (case hda686z1 => omega); (case hda686zf => omega); (case hda686zs => with_unfolding_all rfl); (case hda686zg => (intro _; with_unfolding_all rfl)); k_whole); intro _)
  k_with "my subscriptTail Name Slice ref ref" => (k_here; (with_reducible show wpAny _ _ (subscriptTail _ (PySem.Expr.Slice none none (some _) _) (Value.ref _) (Value.ref _)) _ _ _); k_dflt (refine' Mine.revStrs_K ?hab3ffF ?hab3ffN ?hab3ffm ?hab3ffk ?hab3ffi ?hab3ffy ?_ ?hab3ffs ?hab3fft; (case hab3ffF => k_asm); (case hab3ffN => k_asm); (case hab3ffm => k_mem); (case hab3ffk => exact IsPart.int _ _); (case hab3ffi => first | with_reducible assumption | exact StrsAre.nil); (case hab3ffy => first | omega | (simp only [PyProof.Rows.signs_length, List.length_nil] at *; omega)); (case hab3ffs => with_unfolding_all rfl); (case hab3fft => kmk_pure)); intro D' ws' h' F' N' l1 hS'; (have hltm := l1); (try k_lt l1); (try k_sweep))
  k_with "my call builtin:len" => (k_here; (with_reducible show wpAny _ _ (call (Value.builtin "len") [Value.ref _]) _ _ _); k_dflt (refine' Mine.lenTab_K ?hb154azN ?hb154azT ?hb154azm ?hb154azf ?_; (case hb154azN => k_asm); (case hb154azT => with_reducible assumption); (case hb154azm => k_extra "my sub"); (case hb154azf => omega); k_whole))
  k_with "my subscriptTail" => (k_here; (with_reducible show wpAny _ _ (subscriptTail _ _ (Value.ref _) (Value.int _ _)) _ _ _); k_dflt (refine' Mine.itemTab_K ?h76a1bzN ?h76a1bzT ?h76a1bzm ?h76a1bz0 ?h76a1bz1 ?h76a1bzf ?_ ?h76a1bzs ?h76a1bzg; (case h76a1bzN => k_asm); (case h76a1bzT => with_reducible assumption); (case h76a1bzm => k_extra "my sub"); (case h76a1bz0 => omega); (case h76a1bz1 => omega); (case h76a1bzf => omega); (case h76a1bzs => with_unfolding_all rfl); (case h76a1bzg => (intro _; with_unfolding_all rfl)); k_whole); intro H' KT' t0' t1' t2' hI' hD')
  k_with "my subscriptTail" => (k_here; (with_reducible show wpAny _ _ (subscriptTail _ _ (Value.ref _) (Value.int _ _)) _ _ _); k_dflt (refine' Mine.topText_K (B := 3) ?hde6b7zX ?hde6b7ze ?hde6b7zi ?hde6b7zB ?hde6b7z0 ?hde6b7z1 ?hde6b7zf ?_ ?hde6b7zs ?hde6b7zg; (case hde6b7zX => k_in); (case hde6b7ze => k_is); (case hde6b7zi => repeat constructor); (case hde6b7zB => decide); (case hde6b7z0 => omega); (case hde6b7z1 => ((simp only [List.length_cons, List.length_nil]); omega)); (case hde6b7zf => omega); (case hde6b7zs => with_unfolding_all rfl); (case hde6b7zg => (intro _; with_unfolding_all rfl)); k_whole); intro zT tT hzT)
  k_with "my MrPost" => (dsimp only [Mine.MrPost])
  k_with "my subscriptTail" => (k_here; (with_reducible show wpAny _ _ (subscriptTail _ (PySem.Expr.Slice none none (some _) _) (Value.str _ _) (Value.ref _)) _ _ _); (with_reducible rename Fr _ _ _ _ => F'); (with_reducible rename News _ _ _ _ => N'); (refine Mine.revText_K (s := ⟨_, _, _, _, _⟩) F' N' (by omega) ?_); intro zR hR tR cR eR F' N')
  k_with "my call builtin:sorted" => (k_here; (with_reducible show wpAny _ _ (call (Value.builtin "sorted") [Value.ref _]) _ _ _); k_dflt (refine' Mine.sortStrs_K ?hff911zF ?hff911zN ?hff911zm ?hff911zi ?hff911z6 ?_; (case hff911zF => k_asm); (case hff911zN => k_asm); (case hff911zm => k_mem); (case hff911zi => with_reducible assumption); (case hff911z6 => omega); k_whole); intro D7 h7 vs7 ss7 e7 F7 N7 l7 hS7 hl7 hm7 hs7; (have hltm := l7); (try k_lt l7); (try k_sweep))
  k_with "my eval ListComp" => (k_here; lct_look; lcg_calm; k_dflt (refine LCt.ListComp_T (F₀ := by k_asm) (by with_unfolding_all rfl) (by decide) (by rfl) (by decide) (by rfl) ?_))
  k_with "my subscriptTail Name Name ref int" => (k_here; (with_reducible show wpAny _ _ (subscriptTail _ _ (Value.ref _) (Value.int _ _)) _ _ _); k_dflt (refine' Mine.itemStrs_K ?h75927zN ?h75927zm ?h75927zi ?h75927z0 ?h75927z1 ?h75927zf ?_ ?h75927zs ?h75927zg; (case h75927zN => k_asm); (case h75927zm => k_mem); (case h75927zi => with_reducible assumption); (case h75927z0 => omega); (case h75927z1 => omega); (case h75927zf => omega); (case h75927zs => with_unfolding_all rfl); (case h75927zg => (intro _; with_unfolding_all rfl)); k_whole); intro _)
  k_with "my subscriptTail Name BinOp ref int" => (k_here; (with_reducible show wpAny _ _ (subscriptTail _ _ (Value.ref _) (Value.int _ _)) _ _ _); k_dflt (refine' Mine.itemStrs_K ?he0e77zN ?he0e77zm ?he0e77zi ?he0e77z0 ?he0e77z1 ?he0e77zf ?_ ?he0e77zs ?he0e77zg; (case he0e77zN => k_asm); (case he0e77zm => k_mem); (case he0e77zi => with_reducible assumption); (case he0e77z0 => omega); (case he0e77z1 => omega); (case he0e77zf => omega); (case he0e77zs => with_unfolding_all rfl); (case he0e77zg => (intro _; with_unfolding_all rfl)); k_whole); intro _)
  k_with "my subscriptTail Name UnaryOp ref int" => (k_here; (with_reducible show wpAny _ _ (subscriptTail _ _ (Value.ref _) (Value.int _ _)) _ _ _); k_dflt (refine' Mine.itemStrs_K ?h1783ezN ?h1783ezm ?h1783ezi ?h1783ez0 ?h1783ez1 ?h1783ezf ?_ ?h1783ezs ?h1783ezg; (case h1783ezN => k_asm); (case h1783ezm => k_mem); (case h1783ezi => with_reducible assumption); (case h1783ez0 => omega); (case h1783ez1 => omega); (case h1783ezf => omega); (case h1783ezs => with_unfolding_all rfl); (case h1783ezg => (intro _; with_unfolding_all rfl)); k_whole); intro _)
  k_with "my newList" => (k_here; k_dflt (refine' newList_K ?h10454k1 ?h10454k2 ?_; (case h10454k1 => k_asm); (case h10454k2 => k_asm); k_whole); intro TL hTL FTL NTL lTL; (have hltm := lTL); (try k_lt lTL); (try k_sweep))
  k_with "my exec Assign cons ListComp" => (k_here; lct_look; lcg_calm; k_dflt (refine LCt.Assign_ListComp_T (F₀ := by k_asm) (by rfl) (by with_unfolding_all rfl) (by with_unfolding_all rfl) (by decide) (by rfl) (by decide) (by rfl) (by rfl) (by rfl) ?_))
  k_with "my call builtin:len" => (k_here; (with_reducible show wpAny _ _ (call (Value.builtin "len") [Value.ref _]) _ _ _); k_dflt (refine' Mine.lenInts_K ?ha4e16zN ?ha4e16zm ?ha4e16zi ?ha4e16zf ?_; (case ha4e16zN => k_asm); (case ha4e16zm => k_mem); (case ha4e16zi => with_reducible assumption); (case ha4e16zf => omega); k_whole))
  k_with "my subscriptTail Name UnaryOp ref int" => (k_here; (with_reducible show wpAny _ _ (subscriptTail _ _ (Value.ref _) (Value.int (-1) _)) _ _ _); k_dflt (refine' Mine.lastInts_K ?h0f3cezN ?h0f3cezm ?h0f3cezi ?h0f3cez0 ?_ ?h0f3cezs ?h0f3cezg; (case h0f3cezN => k_asm); (case h0f3cezm => k_mem); (case h0f3cezi => with_reducible assumption); (case h0f3cez0 => omega); (case h0f3cezs => with_unfolding_all rfl); (case h0f3cezg => (intro _; with_unfolding_all rfl)); k_whole); intro _)
  k_with "my call ref" => (k_here; (with_reducible show wpAny _ _ (call (Value.ref 220) _) _ _ _); k_dflt (refine' Mine.among_spec ?h5d25bzB ?h5d25bzF ?h5d25bzX ?h5d25bzN ?h5d25bzT ?h5d25bzk ?h5d25bzdp ?_; (case h5d25bzB => k_asm); (case h5d25bzF => k_asm); (case h5d25bzX => k_asm); (case h5d25bzN => k_asm); (case h5d25bzT => k_asm); (case h5d25bzk => first | exact rfl | assumption); (case h5d25bzdp => k_extra "my room"); k_whole); intro xA dA HA KA tA0 tA1 tA2 hA kA FA NA lA1 lA2; (have hltm := lA1); (try k_lt lA1); (try dsimp only at NA); (try k_sweep); (try dsimp only); (try k_fold))
  trivial
theorem tab_mono {rest rest' : List (Addr × Obj)} {va nv : Nat} {xa da : Nat → Nat} {es : List Str} {sub res : Nat → Int} (h : Tab rest va nv xa da es sub res) (hs : ∀ p ∈ rest, p ∈ rest') : Tab rest' va nv xa da es sub res where
  lst := hs _ h.lst
  inst := fun i hi => hs _ (h.inst i hi)
  dic := fun i hi => by
    obtain ⟨H, KT, t0, t1, t2, hm⟩ := h.dic i hi
    exact ⟨H, KT, t0, t1, t2, hs _ hm⟩
theorem find_among_call {prog : Program} {w : World} {p : Program} {loose : List Str} {mean : ExcName → Option Value} {mg mb : Str → Option Value}
  {dp un : Nat} {gd : Option (List Code)} {cn : Str} {cs : Scope} {a : Addr} {ccd : Value} {cl : List (Str × Addr)} {outer : List Env} {A₀ : Around} {base h₀ : Heap} {L : Addr} {m : Str → Option Value} {s : Shared} {Q E : Value → Shared → Prop}
  {mx dx va nv : Nat} {H : Nat → Int} {KT : Nat → Tok} {x : Str} {c l lb b k : Int} {τ0 τ1 τ2 τ3 τ4 τ5 : Tok} {news R : List (Addr × Obj)} {f : Obj → List (Addr × Obj)} {xa da : Nat → Nat} {es : List Str} {sub : Nat → Int}
  (B : Below A₀ base outer h₀) (F : Fr h₀ L s.heap m) (X : (hd0.heap_1_1 w.params).In h₀) (N : News h₀ L s.heap (news)) (T : Top p loose mean mg mb h₀) (hk : cs.kind = .function) (hm : (mx, instObj 199 dx) ∈ news) (U : UpdF dx (machD H KT x τ0 c τ1 l τ2 lb τ3 b τ4 k τ5) news f)
  (hmd : mx ≠ dx) (hx : x.length ≤ 1000) (hc0 : 0 ≤ c) (hcl : c ≤ l) (hl1 : l ≤ x.length) (hT : Tab R va nv xa da es sub (fun t => (t : Int) + 1)) (hTs : ∀ p ∈ R, p ∈ news) (hTn : ∀ p ∈ R, p.1 ≠ dx) (hn0 : 0 < es.length) (hn1 : es.length ≤ 5) (hel : ∀ i, (es.getD i Str.empty).length ≤ 3)
  (hE : Rise (entL es) es.length) (hL : Links (entL es) es.length sub)
  (hdp : dp + 1 < recursionLimit) (hun : un + 8 < cLine)
  (hret : ∀ (v c' : Int) (tv τ0 τ1 τ2 τ3 τ4 τ5 : Tok) (h' : Heap) (tk' : Nat), Fr h₀ L h' m → News h₀ L h' (f (machD H KT x τ0 c' τ1 l τ2 lb τ3 b τ4 k τ5)) → FoundA (entL es) es.length (cutL x c l) v (c' - c) → Q (.int v tv) { s with heap := h', toks := tk' }) :
  wpAny (model prog w) (ktrTop dp un gd cn cs L a ccd cl outer) (call (.ref 133) [.ref mx, .ref va]) Q E s := by
 exact Mine.quiet _ (type_of% (Mine.aside (by
  obtain ⟨rest, hr, N1, hf, hmem⟩ := updF_rest N U
  exact find_among_spec B F X (news_put N hm N1) T hk hmd hr hx hc0 hcl hl1 (tab_mono hT fun p hp => hmem p (hTs p hp) (hTn p hp)) hn0 (by k_extra "my num") (fun i => Nat.le_trans (hel i) (by decide)) hE hL hdp hun
    fun v c' tv τ0 τ1 τ2 τ3 τ4 τ5 h' tk' F' N' e0 => hret v c' tv τ0 τ1 τ2 τ3 τ4 τ5 h' tk' F' (hf _ _ (news_tl N')) e0
 ) (by exact Nat) _))
theorem find_among_b_call {prog : Program} {w : World} {p : Program} {loose : List Str} {mean : ExcName → Option Value} {mg mb : Str → Option Value}
  {dp un : Nat} {gd : Option (List Code)} {cn : Str} {cs : Scope} {a : Addr} {ccd : Value} {cl : List (Str × Addr)} {outer : List Env} {A₀ : Around} {base h₀ : Heap} {L : Addr} {m : Str → Option Value} {s : Shared} {Q E : Value → Shared → Prop}
  {mx dx va nv : Nat} {H : Nat → Int} {KT : Nat → Tok} {x : Str} {c l lb b k : Int} {τ0 τ1 τ2 τ3 τ4 τ5 : Tok} {news R : List (Addr × Obj)} {f : Obj → List (Addr × Obj)} {xa da : Nat → Nat} {es : List Str} {sub : Nat → Int}
  (B : Below A₀ base outer h₀) (F : Fr h₀ L s.heap m) (X : (hd0.heap_1_1 w.params).In h₀) (N : News h₀ L s.heap (news)) (T : Top p loose mean mg mb h₀) (hk : cs.kind = .function) (hm : (mx, instObj 199 dx) ∈ news) (U : UpdF dx (machD H KT x τ0 c τ1 l τ2 lb τ3 b τ4 k τ5) news f)
  (hmd : mx ≠ dx) (hx : x.length ≤ 1000) (hc0 : 0 ≤ c) (hcl : c ≤ l) (hl1 : l ≤ x.length) (hlb : 0 ≤ lb) (hlc : lb ≤ c) (hT : Tab R va nv xa da es sub (fun t => (t : Int) + 1)) (hTs : ∀ p ∈ R, p ∈ news) (hTn : ∀ p ∈ R, p.1 ≠ dx) (hn0 : 0 < es.length) (hn1 : es.length ≤ 5) (hel : ∀ i, (es.getD i Str.empty).length ≤ 3)
  (hE : Rise (rentL es) es.length) (hL : Links (rentL es) es.length sub)
  (hdp : dp + 1 < recursionLimit) (hun : un + 8 < cLine)
  (hret : ∀ (v c' : Int) (tv τ0 τ1 τ2 τ3 τ4 τ5 : Tok) (h' : Heap) (tk' : Nat), Fr h₀ L h' m → News h₀ L h' (f (machD H KT x τ0 c' τ1 l τ2 lb τ3 b τ4 k τ5)) → FoundA (rentL es) es.length (rcutL x lb c) v (c - c') → Q (.int v tv) { s with heap := h', toks := tk' }) :
  wpAny (model prog w) (ktrTop dp un gd cn cs L a ccd cl outer) (call (.ref 140) [.ref mx, .ref va]) Q E s := by
 exact Mine.quiet _ (type_of% (Mine.aside (by
  obtain ⟨rest, hr, N1, hf, hmem⟩ := updF_rest N U
  exact find_among_b_spec B F X (news_put N hm N1) T hk hmd hr hx hc0 hcl hl1 hlb hlc (tab_mono hT fun p hp => hmem p (hTs p hp) (hTn p hp)) hn0 (by k_extra "my num") (fun i => Nat.le_trans (hel i) (by decide)) hE hL hdp hun
    fun v c' tv τ0 τ1 τ2 τ3 τ4 τ5 h' tk' F' N' e0 => hret v c' tv τ0 τ1 τ2 τ3 τ4 τ5 h' tk' F' (hf _ _ (news_tl N')) e0
 ) (by exact Nat) _))

theorem words_jTable_8 : True := by
  k_with_none
  k_with "my own k_all" => first | with_reducible assumption | exact Mine.ne_nil9 | exact Mine.off1_D (by with_reducible assumption) | (refine' Mine.ne_cons9 ?h39209a ?h39209b; (case h39209a => k_ne); (case h39209b => k_all)) | exact Mine.ne_allLt (by with_reducible assumption) | assumption | exact Mine.ne_allLt (by assumption) | exact List.forall_mem_nil _ | (refine' List.forall_mem_cons.mpr ⟨?h39209a, ?h39209b⟩; (case h39209a => k_ne); (case h39209b => k_all))
  k_with "my exec If" => refine wpAny_If ?_
  k_with "my subscriptTail" => (k_here; (with_reducible show wpAny _ _ (subscriptTail _ _ (Value.str _ _) (Value.int _ _)) _ _ _); (refine item_str (fitsSsize_of (N := 9223372036854775808) (by omega) (by omega) (Int.le_refl _)) (by omega) (by omega) ?_); intro _)
  k_with "my subscriptTail" => (k_here; (with_reducible show wpAny _ _ (subscriptTail _ (Expr.Slice none none none _) (Value.str _ _) (Value.ref _)) _ _ _); (with_reducible rename Fr _ _ _ _ => F'); (with_reducible rename News _ _ _ _ => N'); (refine slice_strN_nn_len (hsz := ?he93dfhsz) (s := ⟨_, _, _, _, _⟩) F' N' ?_); (case he93dfhsz => (rw [sizeLine_eq]; omega)); intro _ _ _ _ _ _)
  k_with "my subscriptTail" => (k_here; (with_reducible show wpAny _ _ (subscriptTail _ (Expr.Slice none (some _) none _) (Value.str _ _) (Value.ref _)) _ _ _); (with_reducible rename Fr _ _ _ _ => F'); (with_reducible rename News _ _ _ _ => N'); (refine slice_strN_ns_len (hsz := ?h5ee70hsz) (s := ⟨_, _, _, _, _⟩) F' N' ?_); (case h5ee70hsz => (rw [sizeLine_eq]; omega)); intro _ _ _ _ _ _)
  k_with "my subscriptTail" => (k_here; (with_reducible show wpAny _ _ (subscriptTail _ (Expr.Slice (some _) none none _) (Value.str _ _) (Value.ref _)) _ _ _); (with_reducible rename Fr _ _ _ _ => F'); (with_reducible rename News _ _ _ _ => N'); (refine slice_strN_sn_len (hsz := ?habc6bhsz) (s := ⟨_, _, _, _, _⟩) F' N' ?_); (case habc6bhsz => (rw [sizeLine_eq]; omega)); intro _ _ _ _ _ _)
  k_with "my subscriptTail" => (k_here; (with_reducible show wpAny _ _ (subscriptTail _ (Expr.Slice (some _) (some _) none _) (Value.str _ _) (Value.ref _)) _ _ _); (with_reducible rename Fr _ _ _ _ => F'); (with_reducible rename News _ _ _ _ => N'); (refine slice_strN_ss_len (hsz := ?h78793hsz) (s := ⟨_, _, _, _, _⟩) F' N' ?_); (case h78793hsz => (rw [sizeLine_eq]; omega)); intro _ _ _ _ _ _)
  k_with "my subscriptTail Name Constant ref int" => (k_here; k_dflt (refine' Mine.itemLit_K ?h4db2bzN ?h4db2bzm ?h4db2bz0 ?h4db2bzf ?h4db2bzx ?_ ?h4db2bzs ?h4db2bzg; (case h4db2bzN => k_asm); (case h4db2bzm => k_mem); (case h4db2bz0 => decide); (case h4db2bzf => decide); (case h4db2bzx => exact rfl); (case h4db2bzs => with_unfolding_all rfl); (case h4db2bzg => (intro _; with_unfolding_all rfl)); k_whole))
  k_with "my tail" => first | assumption | exact List.mem_append_left _ (by assumption) | exact List.mem_append_right _ (by assumption) | (refine List.mem_cons_of_mem _ ?_; k_extra "my tail")
  k_with "my sub" => first | exact Mine.all_nil | (refine Mine.all_cons ?h63e88zm ?h63e88zr; (case h63e88zm => k_mem); (case h63e88zr => k_extra "my sub")) | (intro p hp; k_extra "my tail")
  k_with "my own k_in" => first | k_in_fast | (refine' Frag.In.keeps ?hc3b53zX ?hc3b53zF; (case hc3b53zF => (refine' Fr.keep ?hc3b53zG; (case hc3b53zG => with_reducible assumption))); (case hc3b53zX => with_reducible assumption)) | assumption
  k_with "my own k_mem" => ((with_reducible show List.Mem _ _); refine Mine.memL ?_; with_reducible assumption)
  k_with "my onestep" => first | ((with_reducible show wpAny _ _ _ _ _ _); walk1) | (k_unfold; (try dsimp only)) | (with_reducible refine' Mine.seqE_last (by with_reducible assumption) ?_) | (with_reducible refine' Mine.seqE_next (by with_reducible assumption) ?_) | (with_reducible refine' Mine.seqE_ret (by with_reducible assumption) ?_) | (with_reducible refine' Mine.seqE_brk (by with_reducible assumption) ?_) | (with_reducible refine' Mine.seqE_cont (by with_reducible assumption) ?_) | (with_reducible refine Mine.nameQ_end (f := (_ : Flow)) (by with_reducible assumption) ?_) | (k_end; wrow_close) | walk1 | (dsimp only; walk1) | (leave1; walk_say "STEP leave1"; try dsimp only)
  k_with "my upto While" => repeat ((fail_if_success (with_reducible show wpAny _ _ (exec (Stmt.While _ _ _ _) _) _ _ _)); k_extra "my onestep")
  k_with "my upto For" => repeat ((fail_if_success (with_reducible show wpAny _ _ (exec (Stmt.For _ _ _ _ _) _) _ _ _)); k_extra "my onestep")
  k_with "my upto iter" => repeat ((fail_if_success (with_reducible show wpAny _ _ (pyIter _) _ _ _)); k_extra "my onestep")
  k_with "my MwPost" => (dsimp only [Mine.MwPost])
  k_with "my noend" => ((fail_if_success (with_reducible show InvEndN _ _ _ _ _ _ _)); (fail_if_success (with_reducible show Mine.CutPost _ _ _ _ _ _ _ _)); (fail_if_success (with_reducible show Mine.MwEnd _ _ _ _ _ _ _ _ _)); (fail_if_success (with_reducible show LCg.CompEnd _ _ _ _ _ _ _ _ _ _ _ _ _ _)); (fail_if_success (with_reducible show KswEnd _ _ _ _ _ _ _ _ _ _ _ _)))
  k_with "my steps" => repeat' (first | ((with_reducible show wpAny _ _ _ _ _ _); walk1) | (k_extra "my noend"; k_extra "my onestep"))
  k_with "my upto CompSrc" => repeat ((fail_if_success (with_reducible show LCg.CompSrc _ _ _ _ _ _ _ _ _ _ _ _ _ _)); (fail_if_success (with_reducible show LCt.CompSrcT _ _ _ _ _ _ _ _ _ _ _ _ _ _ _)); k_extra "my onestep")
  k_with "my own k_ne" => first | with_reducible (first | assumption | exact Mine.cjg4 (by with_reducible assumption) | exact Mine.cjg3 (by with_reducible assumption) | exact Ne.symm (by assumption) | exact Mine.gt_ne0 (by assumption) | exact Mine.s_ne1 | exact Mine.r_ne1 | exact Mine.lt_ne1 (by assumption) | exact Mine.gt_ne1 (by assumption) | exact Mine.s_ne2 | exact Mine.r_ne2 | exact Mine.lt_ne2 (by assumption) | exact Mine.gt_ne2 (by assumption) | exact Mine.r_ne3 | exact Mine.lt_ne3 (by assumption) | exact Mine.gt_ne3 (by assumption) | exact Mine.lt_ne4 (by assumption) | exact Mine.gt_ne4 (by assumption)) | exact Mine.off3_i1 (by with_reducible assumption) (by k_mem) | exact Mine.off3_c1 (by with_reducible assumption) (by k_mem) | exact Mine.off3_d1 (by with_reducible assumption) (by k_mem) | exact Mine.off1_d1 (by with_reducible assumption) (by k_mem) | exact Mine.ltm_0 (by with_reducible assumption) (by k_mem) | exact Mine.ltm_1 (by with_reducible assumption) (by k_mem) | exact Mine.nem_1 (by with_reducible assumption) (by k_mem) | with_reducible (first | exact Mine.cjl0 (by with_reducible assumption) | exact Mine.cjl1 (by with_reducible assumption) | exact Mine.cjg1 (by with_reducible assumption) | exact Mine.cjl2e (by with_reducible assumption) | exact Mine.cjg2 (by with_reducible assumption) | exact Mine.cjg3 (by with_reducible assumption) | exact Mine.cjg4 (by with_reducible assumption) | exact Mine.cjg6 (by with_reducible assumption) | exact Mine.cjg7 (by with_reducible assumption)) | (refine neN ?_; (try dsimp only); first | omega (config := { splitDisjunctions := false }) | (walk_say "NECONJ"; (repeat (with_reducible rename _ ∧ _ => hcj; obtain ⟨_, _⟩ := hcj)); first | with_reducible assumption | (refine Ne.symm ?_; with_reducible assumption)))
  k_with "my kall1" => first | exact Mine.all_nil | (refine Mine.all_cons ?h6bfabzm ?h6bfabzr; (case h6bfabzm => with_unfolding_all (first | (k_whole; exact Eq.refl (some _)) | rfl)); (case h6bfabzr => k_extra "my kall1"))
  k_with "my kall" => first | (k_whole; k_extra "my kall1") | ((try dsimp only) <;> (k_extra "my kall1"))
  k_with "my cut" => repeat (obtain ⟨hcA, hcj⟩ : _ ∧ _ := hcj; (try (obtain ⟨_, hcA⟩ : _ ∧ _ := hcA; (try (obtain ⟨_, _⟩ : _ ∧ _ := hcA)))))
  k_with "my room" => first | with_reducible assumption | exact Mine.off2 (by with_reducible assumption) (by exact Eq.refl true) | ktr_room
  k_with "my units" => first | with_reducible assumption | exact Mine.off2 (by with_reducible assumption) (by exact Eq.refl true) | ktr_units
  k_with "my num" => first | (k_whole; with_reducible (first | assumption | (show (_ : Int) < _; first | exact Mine.nm_b (by with_reducible assumption) (by with_unfolding_all exact Eq.refl true) | exact Mine.nm_a (by with_reducible assumption) (by with_unfolding_all exact Eq.refl true) | exact Mine.nc_a (by with_reducible assumption) (by with_unfolding_all exact Eq.refl true) | exact Mine.no_a4 (by with_reducible assumption) (by with_unfolding_all exact Eq.refl true) | exact Mine.no_a3 (by with_reducible assumption) (by with_unfolding_all exact Eq.refl true) | exact Mine.no_a2 (by with_reducible assumption) (by with_unfolding_all exact Eq.refl true) | exact Mine.no_a1 (by with_reducible assumption) (by with_unfolding_all exact Eq.refl true)) | (show (_ : Int) ≤ _; first | exact Mine.no_c2 (by with_reducible assumption) (by with_unfolding_all exact Eq.refl true) | exact Mine.no_e2 (by with_unfolding_all exact Eq.refl true) | exact Mine.nm_e (by with_reducible assumption) (by with_unfolding_all exact Eq.refl true) | exact Mine.nm_c (by with_reducible assumption) (by with_unfolding_all exact Eq.refl true) | exact Mine.nc_c (by with_reducible assumption) (by with_unfolding_all exact Eq.refl true) | exact Mine.nc_e (by with_unfolding_all exact Eq.refl true) | exact Mine.nz_e (by with_unfolding_all exact Eq.refl true) | exact Mine.no_c5 (by with_reducible assumption) (by with_unfolding_all exact Eq.refl true) | exact Mine.no_c4 (by with_reducible assumption) (by with_unfolding_all exact Eq.refl true) | exact Mine.no_c3 (by with_reducible assumption) (by with_unfolding_all exact Eq.refl true) | exact Mine.no_c1 (by with_reducible assumption) (by with_unfolding_all exact Eq.refl true) | exact Mine.no_e5 (by with_unfolding_all exact Eq.refl true) | exact Mine.no_e4 (by with_unfolding_all exact Eq.refl true) | exact Mine.no_e3 (by with_unfolding_all exact Eq.refl true) | exact Mine.no_g3 (by with_reducible assumption) (by with_unfolding_all exact Eq.refl true) | exact Mine.no_g2 (by with_reducible assumption) (by with_unfolding_all exact Eq.refl true) | exact Mine.no_g1 (by with_reducible assumption) (by with_unfolding_all exact Eq.refl true)) | (show (_ : Nat) < _; first | exact Mine.nn_b (by with_reducible assumption) (by with_unfolding_all exact Eq.refl true)) | (show (_ : Nat) ≤ _; first | exact Mine.nn_c (by with_reducible assumption) (by with_unfolding_all exact Eq.refl true) | exact Mine.nle_1 | exact Mine.nle_2 | exact Mine.nle_3 | exact Mine.nle_4))) | (decide +kernel) | omega
  k_with "my ev name" => first | (refine' Mine.ev_L ?h6e1a0F ?h6e1a0k ?h6e1a0x ?h6e1a0v ?h6e1a0d; (case h6e1a0x => rfl); (case h6e1a0F => k_asm); (case h6e1a0k => first | exact rfl | assumption); (case h6e1a0v => exact Eq.refl (some _)); (case h6e1a0d => decide)) | (refine' Mine.ev_C ?h6e1a0N ?h6e1a0k ?h6e1a0x ?h6e1a0c ?h6e1a0m ?h6e1a0o ?h6e1a0d; (case h6e1a0k => first | exact rfl | assumption); (case h6e1a0x => rfl); (case h6e1a0N => k_asm); (case h6e1a0c => rfl); (case h6e1a0m => k_mem); (case h6e1a0o => k_asm); (case h6e1a0d => decide))
  k_with "my ev0" => first | (with_reducible exact Mine.ev_int) | ((with_reducible refine' Mine.ev_L ?h84e4cF ?h84e4ck ?h84e4cx ?h84e4cv ?h84e4cd); (case h84e4cx => rfl); (case h84e4cF => k_asm); (case h84e4ck => first | exact rfl | assumption); (case h84e4cv => exact Eq.refl (some _)); (case h84e4cd => decide)) | ((with_reducible refine' Mine.ev_attr ?h84e4cF ?h84e4cX ?h84e4cH ?h84e4cI ?h84e4cg ?h84e4ch ?h84e4ca ?h84e4cn ?h84e4cl ?h84e4cv); (case h84e4cF => k_asm); (case h84e4cX => k_asm); (case h84e4cH => k_extra "my ev name"); (case h84e4cI => k_inst); (case h84e4cg => k_is); (case h84e4ch => k_is); (case h84e4ca => k_is); (case h84e4cn => k_is); (case h84e4cl => k_get); (case h84e4cv => k_handed)) | ((with_reducible refine' Mine.ev_item ?h84e4cN ?h84e4cH ?h84e4cm ?h84e4cz ?h84e4cx); (case h84e4cN => k_asm); (case h84e4cH => k_extra "my ev name"); (case h84e4cm => k_mem); (case h84e4cz => exact rfl); (case h84e4cx => exact rfl)) | ((with_reducible refine' Mine.ev_add ?h84e4cx ?h84e4cy); (case h84e4cx => k_extra "my ev1"); (case h84e4cy => k_extra "my ev1")) | ((with_reducible refine' Mine.ev_sub ?h84e4cx ?h84e4cy); (case h84e4cx => k_extra "my ev1"); (case h84e4cy => k_extra "my ev1")) | ((with_reducible refine' Mine.ev_eq ?h84e4cx ?h84e4cy ?h84e4cz); (case h84e4cx => k_extra "my ev1"); (case h84e4cy => k_extra "my ev1"); (case h84e4cz => with_unfolding_all rfl)) | ((with_reducible refine' Mine.ev_ne ?h84e4cx ?h84e4cy ?h84e4cz); (case h84e4cx => k_extra "my ev1"); (case h84e4cy => k_extra "my ev1"); (case h84e4cz => with_unfolding_all rfl)) | ((with_reducible refine' Mine.ev_lt ?h84e4cx ?h84e4cy ?h84e4cz); (case h84e4cx => k_extra "my ev1"); (case h84e4cy => k_extra "my ev1"); (case h84e4cz => with_unfolding_all rfl)) | ((with_reducible refine' Mine.ev_le ?h84e4cx ?h84e4cy ?h84e4cz); (case h84e4cx => k_extra "my ev1"); (case h84e4cy => k_extra "my ev1"); (case h84e4cz => with_unfolding_all rfl)) | ((with_reducible refine' Mine.ev_gt ?h84e4cx ?h84e4cy ?h84e4cz); (case h84e4cx => k_extra "my ev1"); (case h84e4cy => k_extra "my ev1"); (case h84e4cz => with_unfolding_all rfl)) | ((with_reducible refine' Mine.ev_ge ?h84e4cx ?h84e4cy ?h84e4cz); (case h84e4cx => k_extra "my ev1"); (case h84e4cy => k_extra "my ev1"); (case h84e4cz => with_unfolding_all rfl)) | ((with_reducible refine' Mine.ev_C ?h84e4cN ?h84e4ck ?h84e4cx ?h84e4cc ?h84e4cm ?h84e4co ?h84e4cd); (case h84e4cx => rfl); (case h84e4ck => first | exact rfl | assumption); (case h84e4cN => k_asm); (case h84e4cc => rfl); (case h84e4cm => k_mem); (case h84e4co => k_asm); (case h84e4cd => decide)) | (with_reducible exact Mine.ev_str) | (with_reducible exact Mine.ev_bool) | (with_reducible exact Mine.ev_none)
  k_with "my ev1" => first | (with_reducible exact Mine.ev_int) | ((with_reducible refine' Mine.ev_L ?h1cd45F ?h1cd45k ?h1cd45x ?h1cd45v ?h1cd45d); (case h1cd45x => rfl); (case h1cd45F => k_asm); (case h1cd45k => first | exact rfl | assumption); (case h1cd45v => exact Eq.refl (some _)); (case h1cd45d => decide)) | ((with_reducible refine' Mine.ev_attr ?h1cd45F ?h1cd45X ?h1cd45H ?h1cd45I ?h1cd45g ?h1cd45h ?h1cd45a ?h1cd45n ?h1cd45l ?h1cd45v); (case h1cd45F => k_asm); (case h1cd45X => k_asm); (case h1cd45H => k_extra "my ev name"); (case h1cd45I => k_inst); (case h1cd45g => k_is); (case h1cd45h => k_is); (case h1cd45a => k_is); (case h1cd45n => k_is); (case h1cd45l => k_get); (case h1cd45v => k_handed)) | ((with_reducible refine' Mine.ev_item ?h1cd45N ?h1cd45H ?h1cd45m ?h1cd45z ?h1cd45x); (case h1cd45N => k_asm); (case h1cd45H => k_extra "my ev name"); (case h1cd45m => k_mem); (case h1cd45z => exact rfl); (case h1cd45x => exact rfl)) | ((with_reducible refine' Mine.ev_add ?h1cd45x ?h1cd45y); (case h1cd45x => k_extra "my ev2"); (case h1cd45y => k_extra "my ev2")) | ((with_reducible refine' Mine.ev_sub ?h1cd45x ?h1cd45y); (case h1cd45x => k_extra "my ev2"); (case h1cd45y => k_extra "my ev2")) | ((with_reducible refine' Mine.ev_eq ?h1cd45x ?h1cd45y ?h1cd45z); (case h1cd45x => k_extra "my ev2"); (case h1cd45y => k_extra "my ev2"); (case h1cd45z => with_unfolding_all rfl)) | ((with_reducible refine' Mine.ev_ne ?h1cd45x ?h1cd45y ?h1cd45z); (case h1cd45x => k_extra "my ev2"); (case h1cd45y => k_extra "my ev2"); (case h1cd45z => with_unfolding_all rfl)) | ((with_reducible refine' Mine.ev_lt ?h1cd45x ?h1cd45y ?h1cd45z); (case h1cd45x => k_extra "my ev2"); (case h1cd45y => k_extra "my ev2"); (case h1cd45z => with_unfolding_all rfl)) | ((with_reducible refine' Mine.ev_le ?h1cd45x ?h1cd45y ?h1cd45z); (case h1cd45x => k_extra "my ev2"); (case h1cd45y => k_extra "my ev2"); (case h1cd45z => with_unfolding_all rfl)) | ((with_reducible refine' Mine.ev_gt ?h1cd45x ?h1cd45y ?h1cd45z); (case h1cd45x => k_extra "my ev2"); (case h1cd45y => k_extra "my ev2"); (case h1cd45z => with_unfolding_all rfl)) | ((with_reducible refine' Mine.ev_ge ?h1cd45x ?h1cd45y ?h1cd45z); (case h1cd45x => k_extra "my ev2"); (case h1cd45y => k_extra "my ev2"); (case h1cd45z => with_unfolding_all rfl)) | ((with_reducible refine' Mine.ev_C ?h1cd45N ?h1cd45k ?h1cd45x ?h1cd45c ?h1cd45m ?h1cd45o ?h1cd45d); (case h1cd45x => rfl); (case h1cd45k => first | exact rfl | assumption); (case h1cd45N => k_asm); (case h1cd45c => rfl); (case h1cd45m => k_mem); (case h1cd45o => k_asm); (case h1cd45d => decide)) | (with_reducible exact Mine.ev_str) | (with_reducible exact Mine.ev_bool) | (with_reducible exact Mine.ev_none)
  k_with "my ev2" => first | (with_reducible exact Mine.ev_int) | ((with_reducible refine' Mine.ev_L ?hdef3bF ?hdef3bk ?hdef3bx ?hdef3bv ?hdef3bd); (case hdef3bx => rfl); (case hdef3bF => k_asm); (case hdef3bk => first | exact rfl | assumption); (case hdef3bv => exact Eq.refl (some _)); (case hdef3bd => decide)) | ((with_reducible refine' Mine.ev_attr ?hdef3bF ?hdef3bX ?hdef3bH ?hdef3bI ?hdef3bg ?hdef3bh ?hdef3ba ?hdef3bn ?hdef3bl ?hdef3bv); (case hdef3bF => k_asm); (case hdef3bX => k_asm); (case hdef3bH => k_extra "my ev name"); (case hdef3bI => k_inst); (case hdef3bg => k_is); (case hdef3bh => k_is); (case hdef3ba => k_is); (case hdef3bn => k_is); (case hdef3bl => k_get); (case hdef3bv => k_handed)) | ((with_reducible refine' Mine.ev_item ?hdef3bN ?hdef3bH ?hdef3bm ?hdef3bz ?hdef3bx); (case hdef3bN => k_asm); (case hdef3bH => k_extra "my ev name"); (case hdef3bm => k_mem); (case hdef3bz => exact rfl); (case hdef3bx => exact rfl)) | ((with_reducible refine' Mine.ev_add ?hdef3bx ?hdef3by); (case hdef3bx => k_extra "my ev3"); (case hdef3by => k_extra "my ev3")) | ((with_reducible refine' Mine.ev_sub ?hdef3bx ?hdef3by); (case hdef3bx => k_extra "my ev3"); (case hdef3by => k_extra "my ev3")) | ((with_reducible refine' Mine.ev_eq ?hdef3bx ?hdef3by ?hdef3bz); (case hdef3bx => k_extra "my ev3"); (case hdef3by => k_extra "my ev3"); (case hdef3bz => with_unfolding_all rfl)) | ((with_reducible refine' Mine.ev_ne ?hdef3bx ?hdef3by ?hdef3bz); (case hdef3bx => k_extra "my ev3"); (case hdef3by => k_extra "my ev3"); (case hdef3bz => with_unfolding_all rfl)) | ((with_reducible refine' Mine.ev_lt ?hdef3bx ?hdef3by ?hdef3bz); (case hdef3bx => k_extra "my ev3"); (case hdef3by => k_extra "my ev3"); (case hdef3bz => with_unfolding_all rfl)) | ((with_reducible refine' Mine.ev_le ?hdef3bx ?hdef3by ?hdef3bz); (case hdef3bx => k_extra "my ev3"); (case hdef3by => k_extra "my ev3"); (case hdef3bz => with_unfolding_all rfl)) | ((with_reducible refine' Mine.ev_gt ?hdef3bx ?hdef3by ?hdef3bz); (case hdef3bx => k_extra "my ev3"); (case hdef3by => k_extra "my ev3"); (case hdef3bz => with_unfolding_all rfl)) | ((with_reducible refine' Mine.ev_ge ?hdef3bx ?hdef3by ?hdef3bz); (case hdef3bx => k_extra "my ev3"); (case hdef3by => k_extra "my ev3"); (case hdef3bz => with_unfolding_all rfl)) | ((with_reducible refine' Mine.ev_C ?hdef3bN ?hdef3bk ?hdef3bx ?hdef3bc ?hdef3bm ?hdef3bo ?hdef3bd); (case hdef3bx => rfl); (case hdef3bk => first | exact rfl | assumption); (case hdef3bN => k_asm); (case hdef3bc => rfl); (case hdef3bm => k_mem); (case hdef3bo => k_asm); (case hdef3bd => decide)) | (with_reducible exact Mine.ev_str) | (with_reducible exact Mine.ev_bool) | (with_reducible exact Mine.ev_none)
  k_with "my ev3" => first | (with_reducible exact Mine.ev_int) | ((with_reducible refine' Mine.ev_L ?h1a33cF ?h1a33ck ?h1a33cx ?h1a33cv ?h1a33cd); (case h1a33cx => rfl); (case h1a33cF => k_asm); (case h1a33ck => first | exact rfl | assumption); (case h1a33cv => exact Eq.refl (some _)); (case h1a33cd => decide)) | ((with_reducible refine' Mine.ev_attr ?h1a33cF ?h1a33cX ?h1a33cH ?h1a33cI ?h1a33cg ?h1a33ch ?h1a33ca ?h1a33cn ?h1a33cl ?h1a33cv); (case h1a33cF => k_asm); (case h1a33cX => k_asm); (case h1a33cH => k_extra "my ev name"); (case h1a33cI => k_inst); (case h1a33cg => k_is); (case h1a33ch => k_is); (case h1a33ca => k_is); (case h1a33cn => k_is); (case h1a33cl => k_get); (case h1a33cv => k_handed)) | ((with_reducible refine' Mine.ev_item ?h1a33cN ?h1a33cH ?h1a33cm ?h1a33cz ?h1a33cx); (case h1a33cN => k_asm); (case h1a33cH => k_extra "my ev name"); (case h1a33cm => k_mem); (case h1a33cz => exact rfl); (case h1a33cx => exact rfl)) | ((with_reducible refine' Mine.ev_add ?h1a33cx ?h1a33cy); (case h1a33cx => k_extra "my ev4"); (case h1a33cy => k_extra "my ev4")) | ((with_reducible refine' Mine.ev_sub ?h1a33cx ?h1a33cy); (case h1a33cx => k_extra "my ev4"); (case h1a33cy => k_extra "my ev4")) | ((with_reducible refine' Mine.ev_eq ?h1a33cx ?h1a33cy ?h1a33cz); (case h1a33cx => k_extra "my ev4"); (case h1a33cy => k_extra "my ev4"); (case h1a33cz => with_unfolding_all rfl)) | ((with_reducible refine' Mine.ev_ne ?h1a33cx ?h1a33cy ?h1a33cz); (case h1a33cx => k_extra "my ev4"); (case h1a33cy => k_extra "my ev4"); (case h1a33cz => with_unfolding_all rfl)) | ((with_reducible refine' Mine.ev_lt ?h1a33cx ?h1a33cy ?h1a33cz); (case h1a33cx => k_extra "my ev4"); (case h1a33cy => k_extra "my ev4"); (case h1a33cz => with_unfolding_all rfl)) | ((with_reducible refine' Mine.ev_le ?h1a33cx ?h1a33cy ?h1a33cz); (case h1a33cx => k_extra "my ev4"); (case h1a33cy => k_extra "my ev4"); (case h1a33cz => with_unfolding_all rfl)) | ((with_reducible refine' Mine.ev_gt ?h1a33cx ?h1a33cy ?h1a33cz); (case h1a33cx => k_extra "my ev4"); (case h1a33cy => k_extra "my ev4"); (case h1a33cz => with_unfolding_all rfl)) | ((with_reducible refine' Mine.ev_ge ?h1a33cx ?h1a33cy ?h1a33cz); (case h1a33cx => k_extra "my ev4"); (case h1a33cy => k_extra "my ev4"); (case h1a33cz => with_unfolding_all rfl)) | ((with_reducible refine' Mine.ev_C ?h1a33cN ?h1a33ck ?h1a33cx ?h1a33cc ?h1a33cm ?h1a33co ?h1a33cd); (case h1a33cx => rfl); (case h1a33ck => first | exact rfl | assumption); (case h1a33cN => k_asm); (case h1a33cc => rfl); (case h1a33cm => k_mem); (case h1a33co => k_asm); (case h1a33cd => decide)) | (with_reducible exact Mine.ev_str) | (with_reducible exact Mine.ev_bool) | (with_reducible exact Mine.ev_none)
  k_with "my ev4" => first | (with_reducible exact Mine.ev_int) | ((with_reducible refine' Mine.ev_L ?hb89ebF ?hb89ebk ?hb89ebx ?hb89ebv ?hb89ebd); (case hb89ebx => rfl); (case hb89ebF => k_asm); (case hb89ebk => first | exact rfl | assumption); (case hb89ebv => exact Eq.refl (some _)); (case hb89ebd => decide)) | ((with_reducible refine' Mine.ev_attr ?hb89ebF ?hb89ebX ?hb89ebH ?hb89ebI ?hb89ebg ?hb89ebh ?hb89eba ?hb89ebn ?hb89ebl ?hb89ebv); (case hb89ebF => k_asm); (case hb89ebX => k_asm); (case hb89ebH => k_extra "my ev name"); (case hb89ebI => k_inst); (case hb89ebg => k_is); (case hb89ebh => k_is); (case hb89eba => k_is); (case hb89ebn => k_is); (case hb89ebl => k_get); (case hb89ebv => k_handed)) | ((with_reducible refine' Mine.ev_item ?hb89ebN ?hb89ebH ?hb89ebm ?hb89ebz ?hb89ebx); (case hb89ebN => k_asm); (case hb89ebH => k_extra "my ev name"); (case hb89ebm => k_mem); (case hb89ebz => exact rfl); (case hb89ebx => exact rfl)) | ((with_reducible refine' Mine.ev_add ?hb89ebx ?hb89eby); (case hb89ebx => k_extra "my ev5"); (case hb89eby => k_extra "my ev5")) | ((with_reducible refine' Mine.ev_sub ?hb89ebx ?hb89eby); (case hb89ebx => k_extra "my ev5"); (case hb89eby => k_extra "my ev5")) | ((with_reducible refine' Mine.ev_eq ?hb89ebx ?hb89eby ?hb89ebz); (case hb89ebx => k_extra "my ev5"); (case hb89eby => k_extra "my ev5"); (case hb89ebz => with_unfolding_all rfl)) | ((with_reducible refine' Mine.ev_ne ?hb89ebx ?hb89eby ?hb89ebz); (case hb89ebx => k_extra "my ev5"); (case hb89eby => k_extra "my ev5"); (case hb89ebz => with_unfolding_all rfl)) | ((with_reducible refine' Mine.ev_lt ?hb89ebx ?hb89eby ?hb89ebz); (case hb89ebx => k_extra "my ev5"); (case hb89eby => k_extra "my ev5"); (case hb89ebz => with_unfolding_all rfl)) | ((with_reducible refine' Mine.ev_le ?hb89ebx ?hb89eby ?hb89ebz); (case hb89ebx => k_extra "my ev5"); (case hb89eby => k_extra "my ev5"); (case hb89ebz => with_unfolding_all rfl)) | ((with_reducible refine' Mine.ev_gt ?hb89ebx ?hb89eby ?hb89ebz); (case hb89ebx => k_extra "my ev5"); (case hb89eby => k_extra "my ev5"); (case hb89ebz => with_unfolding_all rfl)) | ((with_reducible refine' Mine.ev_ge ?hb89ebx ?hb89eby ?hb89ebz); (case hb89ebx => k_extra "my ev5"); (case hb89eby => k_extra "my ev5"); (case hb89ebz => with_unfolding_all rfl)) | ((with_reducible refine' Mine.ev_C ?hb89ebN ?hb89ebk ?hb89ebx ?hb89ebc ?hb89ebm ?hb89ebo ?hb89ebd); (case hb89ebx => rfl); (case hb89ebk => first | exact rfl | assumption); (case hb89ebN => k_asm); (case hb89ebc => rfl); (case hb89ebm => k_mem); (case hb89ebo => k_asm); (case hb89ebd => decide)) | (with_reducible exact Mine.ev_str) | (with_reducible exact Mine.ev_bool) | (with_reducible exact Mine.ev_none)
  k_with "my evs" => first | (with_reducible exact Mine.evs_nil) | ((with_reducible refine' Mine.evs_cons ?h3ebe4x ?h3ebe4y ?h3ebe4z); (case h3ebe4x => k_extra "my ev0"); (case h3ebe4y => k_extra "my evs"); (case h3ebe4z => rfl))
  k_with "my execs cons" => (k_here; (try ((first | (with_reducible show wpAny _ _ _ (Mine.MwPost _ _ _ _ _ _ _ _ _) _ _) | (with_reducible show wpAny _ _ _ (Mine.MrPost _ _ _ _ _ _ _ _ _) _ _) | (with_reducible show wpAny _ _ _ (InvPostN _ _ _ _ _ _ _) _ _) | (with_reducible show wpAny _ _ _ (KswPost _ _ _ _ _ _ _ _ _ _ _ _) _ _)); refine Mine.nameQ ?_; intro Qn hQn)); (with_reducible refine Mine.execs_seqE ?_); intro Qk hQk)
  k_with "my eval Name" => (k_here; k_dflt (first | (refine' nameX_L ?hfde63F ?hfde63v ?_ ?hfde63a ?hfde63b; (case hfde63b => rfl); (case hfde63F => k_asm); (case hfde63a => rfl); (case hfde63v => exact Eq.refl (some _)); k_whole) | (refine' nameX_K ?hfde63F ?hfde63X ?hfde63T ?hfde63e ?_ ?hfde63a ?hfde63b; (case hfde63b => rfl); (case hfde63F => k_asm); (case hfde63X => k_asm); (case hfde63T => k_asm); (case hfde63a => rfl); (case hfde63e => k_is); k_whole) | (refine' nameX_B ?hfde63F ?hfde63X ?hfde63T ?hfde63e ?hfde63v ?hfde63n ?_ ?hfde63a ?hfde63b; (case hfde63b => rfl); (case hfde63F => k_asm); (case hfde63X => k_asm); (case hfde63T => k_asm); (case hfde63a => rfl); (case hfde63e => k_is); (case hfde63v => boot_fast); (case hfde63n => decide); k_whole)))
  k_with "my eval BinOp" => (k_here; k_dflt (refine' Mine.ev_use ?hcbeddu ?_; (case hcbeddu => k_extra "my ev0"); k_whole); (try dsimp only))
  k_with "my eval Compare" => (k_here; k_dflt (refine' Mine.ev_use ?h28b78u ?_; (case h28b78u => k_extra "my ev0"); k_whole); (try dsimp only))
  k_with "my eval Subscript" => (k_here; k_dflt (refine' Mine.ev_use ?h772c3u ?_; (case h772c3u => k_extra "my ev0"); k_whole); (try dsimp only))
  k_with "my eval Attribute Name" => (k_here; k_dflt (refine' Mine.ev_use ?he290du ?_; (case he290du => k_extra "my ev0"); k_whole); (try dsimp only))
  k_with "my spliced" => (k_here; (with_reducible show wpAny _ _ (spliced (backTo _ (starEach (_ :: _) _))) _ _ _); k_dflt (refine' Mine.evs_use ?hf8b0eu ?_; (case hf8b0eu => k_extra "my evs"); k_whole); (try dsimp only))
  k_with "my isTrue Compare" => (k_here; k_dflt (first | ((with_reducible refine' Mine.ist_eq ?hdb5ccx ?hdb5ccy ?hdb5ccz ?_); (case hdb5ccx => k_extra "my ev0"); (case hdb5ccy => k_extra "my ev0"); (case hdb5ccz => with_unfolding_all rfl); k_whole) | ((with_reducible refine' Mine.ist_ne ?hdb5ccx ?hdb5ccy ?hdb5ccz ?_); (case hdb5ccx => k_extra "my ev0"); (case hdb5ccy => k_extra "my ev0"); (case hdb5ccz => with_unfolding_all rfl); k_whole) | ((with_reducible refine' Mine.ist_lt ?hdb5ccx ?hdb5ccy ?hdb5ccz ?_); (case hdb5ccx => k_extra "my ev0"); (case hdb5ccy => k_extra "my ev0"); (case hdb5ccz => with_unfolding_all rfl); k_whole) | ((with_reducible refine' Mine.ist_le ?hdb5ccx ?hdb5ccy ?hdb5ccz ?_); (case hdb5ccx => k_extra "my ev0"); (case hdb5ccy => k_extra "my ev0"); (case hdb5ccz => with_unfolding_all rfl); k_whole) | ((with_reducible refine' Mine.ist_gt ?hdb5ccx ?hdb5ccy ?hdb5ccz ?_); (case hdb5ccx => k_extra "my ev0"); (case hdb5ccy => k_extra "my ev0"); (case hdb5ccz => with_unfolding_all rfl); k_whole) | ((with_reducible refine' Mine.ist_ge ?hdb5ccx ?hdb5ccy ?hdb5ccz ?_); (case hdb5ccx => k_extra "my ev0"); (case hdb5ccy => k_extra "my ev0"); (case hdb5ccz => with_unfolding_all rfl); k_whole)); (try dsimp only))
  k_with "my call type:list" => (k_here; (with_reducible show wpAny _ _ (call (Value.type _) [Value.str _ _]) _ _ _); k_dflt (refine' Mine.listStr_K ?h1c1ddzh ?h1c1ddzF ?h1c1ddzN ?h1c1ddzs ?_; (case h1c1ddzh => exact rfl); (case h1c1ddzF => k_asm); (case h1c1ddzN => k_asm); (case h1c1ddzs => (rw [sizeLine_eq]; omega)); k_whole); intro h' tk' vs' n' F' N' l1 hS'; (have hltm := l1); (try k_lt l1); (try k_sweep))
  k_with "my call builtin:len" => (k_here; (with_reducible show wpAny _ _ (call (Value.builtin "len") [Value.ref _]) _ _ _); k_dflt (refine' Mine.lenStrs_K ?h9c18czN ?h9c18czm ?h9c18czi ?h9c18czf ?_; (case h9c18czN => k_asm); (case h9c18czm => k_mem); (case h9c18czi => with_reducible assumption); (case h9c18czf => omega); k_whole))
  k_with "my subscriptTail" => (k_here; (with_reducible show wpAny _ _ (subscriptTail _ _ (Value.ref _) (Value.int _ _)) _ _ _); k_dflt (refine' Mine.itemStrs_K ?hda686zN ?hda686zm ?hda686zi ?hda686z0 ?hda686z1 ?hda686zf ?_ ?hda686zs ?hda686zg; (case hda686zN => k_asm); (case hda686zm => k_mem); (case hda686zi => with_reducible assumption); (case hda686z0 => omega); (case hda686z1 => omega); (case hda686zf => omega); (case hda686zs => with_unfolding_all rfl); (case hda686zg => (intro _; with_unfolding_all rfl)); k_whole); intro _)
  k_with "my subscriptTail Name Slice ref ref" => (k_here; (with_reducible show wpAny _ _ (subscriptTail _ (PySem.Expr.Slice none none (some _) _) (Value.ref _) (Value.ref _)) _ _ _); k_dflt (refine' Mine.revStrs_K ?hab3ffF ?hab3ffN ?hab3ffm ?hab3ffk ?hab3ffi ?hab3ffy ?_ ?hab3ffs ?hab3fft; (case hab3ffF => k_asm); (case hab3ffN => k_asm); (case hab3ffm => k_mem); (case hab3ffk => exact IsPart.int _ _); (case hab3ffi => first | with_reducible assumption | exact StrsAre.nil); (case hab3ffy => first | omega | (simp only [PyProof.Rows.signs_length, List.length_nil] at *; omega)); (case hab3ffs => with_unfolding_all rfl); (case hab3fft => kmk_pure)); intro D' ws' h' F' N' l1 hS'; (have hltm := l1); (try k_lt l1); (try k_sweep))
  k_with "my call builtin:len" => (k_here; (with_reducible show wpAny _ _ (call (Value.builtin "len") [Value.ref _]) _ _ _); k_dflt (refine' Mine.lenTab_K ?hb154azN ?hb154azT ?hb154azm ?hb154azf ?_; (case hb154azN => k_asm); (case hb154azT => with_reducible assumption); (case hb154azm => k_extra "my sub"); (case hb154azf => omega); k_whole))
  k_with "my subscriptTail" => (k_here; (with_reducible show wpAny _ _ (subscriptTail _ _ (Value.ref _) (Value.int _ _)) _ _ _); k_dflt (refine' Mine.itemTab_K ?h76a1bzN ?h76a1bzT ?h76a1bzm ?h76a1bz0 ?h76a1bz1 ?h76a1bzf ?_ ?h76a1bzs ?h76a1bzg; (case h76a1bzN => k_asm); (case h76a1bzT => with_reducible assumption); (case h76a1bzm => k_extra "my sub"); (case h76a1bz0 => omega); (case h76a1bz1 => omega); (case h76a1bzf => omega); (case h76a1bzs => with_unfolding_all rfl); (case h76a1bzg => (intro _; with_unfolding_all rfl)); k_whole); intro H' KT' t0' t1' t2' hI' hD')
  k_with "my call ref" => (k_here; (with_reducible show wpAny _ _ (call (Value.ref 245) _) _ _ _); k_dflt (refine' Mine.next_call ?ha4751zB ?ha4751zF ?ha4751zX ?ha4751zN ?ha4751zT ?ha4751zk ?ha4751zU ?ha4751zn ?ha4751zI ?ha4751ztn ?ha4751zlen ?ha4751zc0 ?ha4751zc1 ?ha4751zs0 ?ha4751zs1 ?ha4751zm0 ?ha4751zm1 ?ha4751zdp ?ha4751zun ?_; (case ha4751zB => k_asm); (case ha4751zF => k_asm); (case ha4751zX => k_asm); (case ha4751zN => k_asm); (case ha4751zT => k_asm); (case ha4751zk => first | exact rfl | assumption); (case ha4751zU => k_updF); (case ha4751zn => k_mem); (case ha4751zI => assumption); (case ha4751ztn => first | assumption | k_extra "my num"); (case ha4751zlen => first | k_extra "my num" | (simp only [List.length_cons] at *; omega)); (case ha4751zc0 => first | k_extra "my num" | (simp only [List.length_cons] at *; omega)); (case ha4751zc1 => first | k_extra "my num" | (simp only [List.length_cons] at *; omega)); (case ha4751zs0 => first | k_extra "my num" | (simp only [List.length_cons] at *; omega)); (case ha4751zs1 => first | k_extra "my num" | (simp only [List.length_cons] at *; omega)); (case ha4751zm0 => first | k_extra "my num" | (simp only [List.length_cons] at *; omega)); (case ha4751zm1 => first | k_extra "my num" | (simp only [List.length_cons] at *; omega)); (case ha4751zdp => k_extra "my room"); (case ha4751zun => k_extra "my units"); k_whole); intro o0' o1' o2' o3' o4' o5' o6' F' N' e0' e1' e2' e3'; (try dsimp only at N'); (try k_sweep); (try dsimp only); (try k_fold))
  k_with "my subscriptTail" => (k_here; (with_reducible show wpAny _ _ (subscriptTail _ _ (Value.ref _) (Value.int _ _)) _ _ _); k_dflt (refine' Mine.topText_K (B := 3) ?hde6b7zX ?hde6b7ze ?hde6b7zi ?hde6b7zB ?hde6b7z0 ?hde6b7z1 ?hde6b7zf ?_ ?hde6b7zs ?hde6b7zg; (case hde6b7zX => k_in); (case hde6b7ze => k_is); (case hde6b7zi => repeat constructor); (case hde6b7zB => decide); (case hde6b7z0 => omega); (case hde6b7z1 => ((simp only [List.length_cons, List.length_nil]); omega)); (case hde6b7zf => omega); (case hde6b7zs => with_unfolding_all rfl); (case hde6b7zg => (intro _; with_unfolding_all rfl)); k_whole); intro zT tT hzT)
  k_with "my MrPost" => (dsimp only [Mine.MrPost])
  k_with "my subscriptTail" => (k_here; (with_reducible show wpAny _ _ (subscriptTail _ (PySem.Expr.Slice none none (some _) _) (Value.str _ _) (Value.ref _)) _ _ _); (with_reducible rename Fr _ _ _ _ => F'); (with_reducible rename News _ _ _ _ => N'); (refine Mine.revText_K (s := ⟨_, _, _, _, _⟩) F' N' (by omega) ?_); intro zR hR tR cR eR F' N')
  k_with "my call builtin:sorted" => (k_here; (with_reducible show wpAny _ _ (call (Value.builtin "sorted") [Value.ref _]) _ _ _); k_dflt (refine' Mine.sortStrs_K ?hff911zF ?hff911zN ?hff911zm ?hff911zi ?hff911z6 ?_; (case hff911zF => k_asm); (case hff911zN => k_asm); (case hff911zm => k_mem); (case hff911zi => with_reducible assumption); (case hff911z6 => omega); k_whole); intro D7 h7 vs7 ss7 e7 F7 N7 l7 hS7 hl7 hm7 hs7; (have hltm := l7); (try k_lt l7); (try k_sweep))
  k_with "my eval ListComp" => (k_here; lct_look; lcg_calm; k_dflt (refine LCt.ListComp_T (F₀ := by k_asm) (by with_unfolding_all rfl) (by decide) (by rfl) (by decide) (by rfl) ?_))
  k_with "my subscriptTail Name Name ref int" => (k_here; (with_reducible show wpAny _ _ (subscriptTail _ _ (Value.ref _) (Value.int _ _)) _ _ _); k_dflt (refine' Mine.itemStrs_K ?h75927zN ?h75927zm ?h75927zi ?h75927z0 ?h75927z1 ?h75927zf ?_ ?h75927zs ?h75927zg; (case h75927zN => k_asm); (case h75927zm => k_mem); (case h75927zi => with_reducible assumption); (case h75927z0 => omega); (case h75927z1 => omega); (case h75927zf => omega); (case h75927zs => with_unfolding_all rfl); (case h75927zg => (intro _; with_unfolding_all rfl)); k_whole); intro _)
  k_with "my subscriptTail Name BinOp ref int" => (k_here; (with_reducible show wpAny _ _ (subscriptTail _ _ (Value.ref _) (Value.int _ _)) _ _ _); k_dflt (refine' Mine.itemStrs_K ?he0e77zN ?he0e77zm ?he0e77zi ?he0e77z0 ?he0e77z1 ?he0e77zf ?_ ?he0e77zs ?he0e77zg; (case he0e77zN => k_asm); (case he0e77zm => k_mem); (case he0e77zi => with_reducible assumption); (case he0e77z0 => omega); (case he0e77z1 => omega); (case he0e77zf => omega); (case he0e77zs => with_unfolding_all rfl); (case he0e77zg => (intro _; with_unfolding_all rfl)); k_whole); intro _)
  k_with "my subscriptTail Name UnaryOp ref int" => (k_here; (with_reducible show wpAny _ _ (subscriptTail _ _ (Value.ref _) (Value.int _ _)) _ _ _); k_dflt (refine' Mine.itemStrs_K ?h1783ezN ?h1783ezm ?h1783ezi ?h1783ez0 ?h1783ez1 ?h1783ezf ?_ ?h1783ezs ?h1783ezg; (case h1783ezN => k_asm); (case h1783ezm => k_mem); (case h1783ezi => with_reducible assumption); (case h1783ez0 => omega); (case h1783ez1 => omega); (case h1783ezf => omega); (case h1783ezs => with_unfolding_all rfl); (case h1783ezg => (intro _; with_unfolding_all rfl)); k_whole); intro _)
  k_with "my newList" => (k_here; k_dflt (refine' newList_K ?h10454k1 ?h10454k2 ?_; (case h10454k1 => k_asm); (case h10454k2 => k_asm); k_whole); intro TL hTL FTL NTL lTL; (have hltm := lTL); (try k_lt lTL); (try k_sweep))
  k_with "my exec Assign cons ListComp" => (k_here; lct_look; lcg_calm; k_dflt (refine LCt.Assign_ListComp_T (F₀ := by k_asm) (by rfl) (by with_unfolding_all rfl) (by with_unfolding_all rfl) (by decide) (by rfl) (by decide) (by rfl) (by rfl) (by rfl) ?_))
  k_with "my call builtin:len" => (k_here; (with_reducible show wpAny _ _ (call (Value.builtin "len") [Value.ref _]) _ _ _); k_dflt (refine' Mine.lenInts_K ?ha4e16zN ?ha4e16zm ?ha4e16zi ?ha4e16zf ?_; (case ha4e16zN => k_asm); (case ha4e16zm => k_mem); (case ha4e16zi => with_reducible assumption); (case ha4e16zf => omega); k_whole))
  k_with "my subscriptTail Name UnaryOp ref int" => (k_here; (with_reducible show wpAny _ _ (subscriptTail _ _ (Value.ref _) (Value.int (-1) _)) _ _ _); k_dflt (refine' Mine.lastInts_K ?h0f3cezN ?h0f3cezm ?h0f3cezi ?h0f3cez0 ?_ ?h0f3cezs ?h0f3cezg; (case h0f3cezN => k_asm); (case h0f3cezm => k_mem); (case h0f3cezi => with_reducible assumption); (case h0f3cez0 => omega); (case h0f3cezs => with_unfolding_all rfl); (case h0f3cezg => (intro _; with_unfolding_all rfl)); k_whole); intro _)
  k_with "my call ref" => (k_here; (with_reducible show wpAny _ _ (call (Value.ref 220) _) _ _ _); k_dflt (refine' Mine.among_spec ?h5d25bzB ?h5d25bzF ?h5d25bzX ?h5d25bzN ?h5d25bzT ?h5d25bzk ?h5d25bzdp ?_; (case h5d25bzB => k_asm); (case h5d25bzF => k_asm); (case h5d25bzX => k_asm); (case h5d25bzN => k_asm); (case h5d25bzT => k_asm); (case h5d25bzk => first | exact rfl | assumption); (case h5d25bzdp => k_extra "my room"); k_whole); intro xA dA HA KA tA0 tA1 tA2 hA kA FA NA lA1 lA2; (have hltm := lA1); (try k_lt lA1); (try dsimp only at NA); (try k_sweep); (try dsimp only); (try k_fold))
  trivial
theorem table_spec {prog : Program} {w : World} {p : Program} {loose : List Str} {mean : ExcName → Option Value} {mg mb : Str → Option Value}
  {dp un : Nat} {gd : Option (List Code)} {cn : Str} {cs : Scope} {a : Addr} {ccd : Value} {cl : List (Str × Addr)} {outer : List Env} {A₀ : Around} {base h₀ : Heap} {L : Addr} {m : Str → Option Value} {s : Shared} {Q E : Value → Shared → Prop}
  {t nu : Nat} {c sd : Int} {bk : Bool} {t1 t2 : Tok} {n n2 : Nat} {its : List Value} {ns : List Int} {rest : List (Addr × Obj)}
  (B : Below A₀ base outer h₀) (F : Fr h₀ L s.heap m) (X : (hd0.heap_1_1 w.params).In h₀) (N : News h₀ L s.heap ((t, tapeO c t1 nu sd t2 n) :: (nu, PySem.W.listOf its.toArray n2) :: rest)) (T : Top p loose mean mg mb h₀) (hk : cs.kind = .function)
  (hI : IntsAre its ns) (htn : t ≠ nu) (hr : ∀ p ∈ rest, p.1 ≠ t) (hlen : ns.length ≤ 40) (hc0 : 0 ≤ c) (hc1 : c < 9000) (hs0 : 0 ≤ sd) (hs1 : sd < 2147483647)
  (hdp : dp + 2 < recursionLimit) (hun : un + 16 < cLine)
  (hret : ∀ (r tl va nv n3 n4 : Nat) (xa da : Nat → Nat) (es : List Str) (sub : Nat → Int) (tvs : List Value) (tabs : List (Addr × Obj)) (c' sd' : Int) (t1' t2' : Tok) (h' : Heap) (tk' : Nat), Fr h₀ L h' m →
    News h₀ L h' ((r, PySem.W.listOf [.ref tl, .ref va].toArray n3) :: (tl, PySem.W.listOf tvs.toArray n4) :: (t, tapeO c' t1' nu sd' t2' n) :: (nu, PySem.W.listOf its.toArray n2) :: (rest ++ tabs)) →
    StrsAre tvs es → 0 < es.length → es.length ≤ 5 → (∀ i, (es.getD i Str.empty).length ≤ 3) → Tab tabs va nv xa da es sub (fun t => (t : Int) + 1) → Rise (tabE bk es) es.length → Links (tabE bk es) es.length sub →
    0 ≤ c' → c' ≤ c + 7 → 0 ≤ sd' → sd' < 2147483647 → r ≠ tl → Off t r tl tabs → Off nu r tl tabs → (∀ q ∈ rest, Off q.1 r tl tabs) → Q (.ref r) { s with heap := h', toks := tk' }) :
  wpAny (model prog w) (ktrTop dp un gd cn cs L a ccd cl outer) (call (.ref 271) [.ref t, .bool bk]) Q E s := by
 exact Mine.quiet _ (type_of% (Mine.aside (by
  refine wpAny_call ?_
  k_dflt (refine' code_defC ?k1 ?k2 ?k3 ?k4 ?k5 ?kA ?kF ?kK ?k6 ?k7 ?k8 ?k9 ?kB ?kD ?_ ?c2 ?c3 ?c4; (case kA => exact rfl); (case kF => exact rfl); (case kK => assumption); (case k1 => k_asm); (case k2 => k_asm); (case k3 => k_asm); (case k4 => k_asm); (case k5 => k_asm); (case k6 => k_is); (case k7 => k_is); (case k8 => (k_extra "my room")); (case k9 => exact BindsTo.of_eq rfl); (case kB => exact rfl); (case kD => decide +kernel); (case c2 => exact rfl); (case c3 => exact rfl); (case c4 => exact rfl); k_whole)
  intro g1 L1 h1 tk1 cells FG F1 N1 Y B1 X1 T1 l1
  k_lt l1
  (have hcj := l1; k_extra "my cut")
  have hr4 : ∀ p ∈ rest, p.1 ≠ L1 + 1 + 1 + 1 + 1 := ne_allLt_le l1.2.2 (by k_extra "my num")
  have hr3 : ∀ p ∈ rest, p.1 ≠ L1 + 1 + 1 + 1 := ne_allLt_le l1.2.2 (by k_extra "my num")
  have hY := CellsAre.four Y
  obtain ⟨oe, ok, ob, ot, hCE, de, dk, db, dt⟩ := hY
  subst hCE
  clear Y
  replace de : oe.data = .cell none := de
  replace dk : ok.data = .cell none := dk
  replace db : ob.data = .cell (some (.bool bk)) := db
  replace dt : ot.data = .cell (some (.ref t)) := dt
  simp only [List.cons_append, List.nil_append] at N1
  dsimp only
  k_extra "my upto CompSrc"
  refine LCg.CompSrc.range (by exact rfl) (by k_asm) (by k_asm) (by with_reducible assumption) (small_one (by k_extra "my num") (by k_extra "my num") (by k_extra "my num") (by k_extra "my num")) (rangeSize_nat _ _) (by rw [sizeLine_eq]; omega) ?_
  intro g9
  refine comp_inv (fun i ys nw => ∃ (c' sd' : Int) (t1' t2' : Tok) (zs : List Str), nw = (L1 + 1 + 1 + 1 + 1, oe) :: (L1 + 1 + 1 + 1, ok) :: (L1 + 1 + 1, ob) :: (L1 + 1, ot) :: (t, tapeO c' t1' nu sd' t2' n) :: (nu, PySem.W.listOf its.toArray n2) :: rest ∧
      0 ≤ c' ∧ c' ≤ c + 1 + i ∧ 0 ≤ sd' ∧ sd' < 2147483647 ∧ zs.length = i ∧ StrsAre ys zs ∧ ∀ z ∈ zs, z.length ≤ 3) ?_ ?_ ?_
  · exact ⟨_, _, _, _, [], rfl, by k_extra "my num", by k_extra "my num", by with_reducible assumption, by with_reducible assumption, rfl, .nil, fun z hz => nomatch hz⟩
  · rintro i v ys nw I oI C oC D m2 h2 tk2 E2 hi ⟨tv, rfl⟩ ⟨c3, sd3, t13, t23, zs, rfl, hc3, hc4, hs3, hs4, hzl, hS, hz⟩ hC hm2 F2 N2 off ⟨neIC, neID, neCD⟩
    have hc10 : c3 < 10000 := by clear off neIC neID neCD; omega
    have off0 := off
    (try k_fold)
    k_extra "my steps"
    refine LCg.CompEnd.intro (by k_asm) (by k_asm) (news' := (L1 + 1 + 1 + 1 + 1, oe) :: (L1 + 1 + 1 + 1, ok) :: (L1 + 1 + 1, ob) :: (L1 + 1, ot) :: (t, tapeO (c3 + 1) _ nu _ _ n) :: (nu, PySem.W.listOf its.toArray n2) :: rest) (by k_extra "my sub") off0 trivial ⟨_, _, _, _, zs ++ [_], rfl, by k_extra "my num", by k_extra "my num", by with_reducible assumption, by with_reducible assumption, by rw [List.length_append, hzl]; rfl, kct_snoc hS, ?_⟩
    intro z hz9
    rcases List.mem_append.mp hz9 with q | q
    · exact hz z q
    · rw [List.mem_singleton.mp q]; with_reducible assumption
  · rintro ys nw ⟨c3, sd3, t13, t23, zs, rfl, hc3, hc4, hs3, hs4, hzl, hS, hz⟩
    intro D h2 tk2 F2 N2 o1
    have hz1 : 1 ≤ zs.length ∧ zs.length ≤ 5 := by k_extra "my num"
    have hc5 : c3 ≤ c + 6 := by k_extra "my num"
    clear hc4 hzl
    have hzl2 := hS.len_eq
    have hDt : (@Ne Nat t D) := o1.2.2.2.2.1
    dsimp only
    k_extra "my upto CompSrc"
    refine LCg.CompSrc.ledger (its := ys.toArray) (by exact rfl) (by k_asm) (by k_asm) (by k_mem) (by rw [sizeLine_eq, List.size_toArray]; omega) ?_
    intro g9
    refine comp_inv (fun i ws nw => nw = (D, LCg.lst ys) :: (L1 + 1 + 1 + 1 + 1, oe) :: (L1 + 1 + 1 + 1, ok) :: (L1 + 1 + 1, ob) :: (L1 + 1, ot) :: (t, tapeO c3 t13 nu sd3 t23 n) :: (nu, PySem.W.listOf its.toArray n2) :: rest ∧
      ∃ zs2 : List Str, zs2.length = i ∧ StrsAre ws zs2 ∧ ∀ z ∈ zs2, z.length ≤ 3) ?_ ?_ ?_
    · exact ⟨rfl, [], rfl, .nil, fun z hz => nomatch hz⟩
    · rintro i v ws nw I oI C oC E3 m2 h3 tk3 E2 hi hv ⟨rfl, zs2, hl2, hS2, hz2⟩ hC hm2 F3 N3 off ⟨neIC, neID, neCD⟩
      have off0 := off
      (try k_fold)
      rw [List.size_toArray] at hi
      have hv' : ys[i]? = some v := by simpa using hv
      obtain ⟨tz, hz9⟩ := hS.at (y := zs.getD i Str.empty) (by rw [List.getD_eq_getElem?_getD, List.getElem?_eq_getElem (by k_extra "my num")]; rfl)
      rw [hv'] at hz9
      cases hz9
      have hzi : (zs.getD i Str.empty).length ≤ 3 := by
        rw [List.getD_eq_getElem?_getD, List.getElem?_eq_getElem (by k_extra "my num")]
        exact hz _ (List.getElem_mem _)
      k_extra "my steps"
      · refine LCg.CompEnd.intro (by k_asm) (by k_asm) (news' := (D, LCg.lst ys) :: (L1 + 1 + 1 + 1 + 1, oe) :: (L1 + 1 + 1 + 1, ok) :: (L1 + 1 + 1, ob) :: (L1 + 1, ot) :: (t, tapeO c3 t13 nu sd3 t23 n) :: (nu, PySem.W.listOf its.toArray n2) :: rest) (by k_extra "my sub") off0 (.inr ⟨_, .head _, rfl, _, rfl⟩) ⟨rfl, zs2 ++ [_], by rw [List.length_append, hl2]; rfl, kct_snoc hS2, ?_⟩
        intro z hz9
        rcases List.mem_append.mp hz9 with q | q
        · exact hz2 z q
        · rw [List.mem_singleton.mp q, sb_len]; exact hzi
      · refine LCg.CompEnd.intro (by k_asm) (by k_asm) (news' := (D, LCg.lst ys) :: (L1 + 1 + 1 + 1 + 1, oe) :: (L1 + 1 + 1 + 1, ok) :: (L1 + 1 + 1, ob) :: (L1 + 1, ot) :: (t, tapeO c3 t13 nu sd3 t23 n) :: (nu, PySem.W.listOf its.toArray n2) :: rest) (by k_extra "my sub") off0 (.inr ⟨_, .head _, rfl, _, rfl⟩) ⟨rfl, zs2 ++ [_], by rw [List.length_append, hl2]; rfl, kct_snoc hS2, ?_⟩
        intro z hz9
        rcases List.mem_append.mp hz9 with q | q
        · exact hz2 z q
        · rw [List.mem_singleton.mp q]; exact hzi
    · rintro ws nw ⟨rfl, zs2, hl2, hS2, hz2⟩
      intro E3 h3 tk3 F3 N3 o3
      rw [List.size_toArray] at hl2
      dsimp only
      k_extra "my upto CompSrc"
      with_reducible rename Obj => oe2
      with_reducible rename oe2.data = _ => de2
      with_reducible rename Fr _ _ _ _ => F8
      with_reducible rename News _ _ _ _ => N8
      refine LCt.CompSrcT.range (n := ss7.length) (by exact rfl) F8 N8 (by with_reducible assumption) (small_one (by k_extra "my num") (by k_extra "my num") (by k_extra "my num") (by k_extra "my num")) (rangeSize_len _) (by rw [sizeLine_eq]; omega) ?_
      intro g9
      refine comp_invT (fun i xs nw => nw = (D7, PySem.W.listOf vs7.toArray e7) :: (E3, LCg.lst ws) :: (D, LCg.lst ys) :: (L1 + 1 + 1 + 1 + 1, oe2) :: (L1 + 1 + 1 + 1, ok) :: (L1 + 1 + 1, ob) :: (L1 + 1, ot) :: (t, tapeO c3 t13 nu sd3 t23 n) :: (nu, PySem.W.listOf its.toArray n2) :: rest ∧
        ∃ es : List Str, StrsAre xs es ∧ Ded ss7 es i) ?_ ?_ ?_
      · exact ⟨rfl, [], .nil, ded_zero _⟩
      · rintro i v xs nw I oI C oC E4 m2 h4 tk4 E2 hi ⟨tv, rfl⟩ ⟨rfl, es, hSe, hDe⟩ hC hm2 F4 N4 off ⟨neIC, neID, neCD⟩
        have off0 := off
        (try k_fold)
        k_extra "my steps"
        · exact LCg.CompEnd.intro (by k_asm) (by k_asm) ((D7, PySem.W.listOf vs7.toArray e7) :: (E3, LCg.lst ws) :: (D, LCg.lst ys) :: (L1 + 1 + 1 + 1 + 1, oe2) :: (L1 + 1 + 1 + 1, ok) :: (L1 + 1 + 1, ob) :: (L1 + 1, ot) :: (t, tapeO c3 t13 nu sd3 t23 n) :: (nu, PySem.W.listOf its.toArray n2) :: rest) (by k_extra "my sub") off0 trivial ⟨rfl, _, kct_snoc hSe, ded1 hDe hs7 hi (by with_reducible assumption)⟩
        · exact LCg.CompEnd.intro (by k_asm) (by k_asm) ((D7, PySem.W.listOf vs7.toArray e7) :: (E3, LCg.lst ws) :: (D, LCg.lst ys) :: (L1 + 1 + 1 + 1 + 1, oe2) :: (L1 + 1 + 1 + 1, ok) :: (L1 + 1 + 1, ob) :: (L1 + 1, ot) :: (t, tapeO c3 t13 nu sd3 t23 n) :: (nu, PySem.W.listOf its.toArray n2) :: rest) (by k_extra "my sub") off0 trivial ⟨rfl, _, kct_snoc hSe, ded2 hDe hs7 hi (by with_reducible assumption)⟩
        · exact LCg.CompEnd.intro (by k_asm) (by k_asm) ((D7, PySem.W.listOf vs7.toArray e7) :: (E3, LCg.lst ws) :: (D, LCg.lst ys) :: (L1 + 1 + 1 + 1 + 1, oe2) :: (L1 + 1 + 1 + 1, ok) :: (L1 + 1 + 1, ob) :: (L1 + 1, ot) :: (t, tapeO c3 t13 nu sd3 t23 n) :: (nu, PySem.W.listOf its.toArray n2) :: rest) (by k_extra "my sub") off0 trivial ⟨rfl, _, hSe, ded3 hDe (by with_reducible assumption) (by with_reducible assumption)⟩
      · rintro xs nw ⟨rfl, es, hSe, hDe⟩
        intro E4 h4 tk4 F4 N4 o4
        have hel : es.length ≤ 5 := by have := hDe.1; omega
        have hel0 : 0 < es.length := (hDe.2.2.2 (by k_extra "my num")).1
        have he3 : ∀ z ∈ es, z.length ≤ 3 := fun z hz => hz2 z (hm7 z (hDe.2.1 z hz))
        dsimp only
        k_extra "my upto CompSrc"
        with_reducible rename Obj => oe3
        with_reducible rename oe3.data = _ => de3
        with_reducible rename Fr _ _ _ _ => F8
        with_reducible rename News _ _ _ _ => N8
        have N9 := N8
        replace N8 : News _ _ _ ((TL, PySem.W.listOf #[] 0) :: (E4, LCg.lst xs) :: (L1 + 1 + 1 + 1 + 1, oe3) :: (L1 + 1 + 1 + 1, ok) :: (L1 + 1 + 1, ob) :: (L1 + 1, ot) :: (t, tapeO c3 t13 nu sd3 t23 n) :: (nu, PySem.W.listOf its.toArray n2) :: rest) := fun p hp => N9 p (by revert p; k_extra "my sub")
        clear N9
        have hxl := hSe.len_eq
        refine LCg.CompSrc.ledger (its := xs.toArray) (by exact rfl) F8 N8 (by k_mem) (by rw [sizeLine_eq, List.size_toArray]; omega) ?_
        intro g9
        refine comp_inv (fun i us nw => nw = (TL, PySem.W.listOf #[] 0) :: (E4, LCg.lst xs) :: (L1 + 1 + 1 + 1 + 1, oe3) :: (L1 + 1 + 1 + 1, ok) :: (L1 + 1 + 1, ob) :: (L1 + 1, ot) :: (t, tapeO c3 t13 nu sd3 t23 n) :: (nu, PySem.W.listOf its.toArray n2) :: rest ∧
          ∃ tx : List Str, StrsAre us tx ∧ Turned bk es i tx) ?_ ?_ ?_
        · exact ⟨rfl, [], .nil, turned_zero _ _⟩
        · rintro i v us nw I oI C oC E5 m2 h5 tk5 E2 hi hv ⟨rfl, tx, hSx, hTx⟩ hC hm2 F5 N5 off ⟨neIC, neID, neCD⟩
          have off0 := off
          (try k_fold)
          obtain ⟨tz, rfl⟩ := strs_at hSe hv
          have hzi : (es.getD i Str.empty).length ≤ 3 := he3 _ (mem_getD (by rw [List.size_toArray] at hi; omega))
          k_extra "my steps"
          · rename bk = true => hbk
            exact LCg.CompEnd.intro (by k_asm) (by k_asm) ((TL, PySem.W.listOf #[] 0) :: (E4, LCg.lst xs) :: (L1 + 1 + 1 + 1 + 1, oe3) :: (L1 + 1 + 1 + 1, ok) :: (L1 + 1 + 1, ob) :: (L1 + 1, ot) :: (t, tapeO c3 t13 nu sd3 t23 n) :: (nu, PySem.W.listOf its.toArray n2) :: rest) (by k_extra "my sub") off0 (.inr ⟨_, .tail _ (.head _), rfl, _, rfl⟩) ⟨rfl, _, kct_snoc hSx, turned_snoc hTx (by rw [hbk, rev_list]; rfl)⟩
          · rename bk = false => hbk
            exact LCg.CompEnd.intro (by k_asm) (by k_asm) ((TL, PySem.W.listOf #[] 0) :: (E4, LCg.lst xs) :: (L1 + 1 + 1 + 1 + 1, oe3) :: (L1 + 1 + 1 + 1, ok) :: (L1 + 1 + 1, ob) :: (L1 + 1, ot) :: (t, tapeO c3 t13 nu sd3 t23 n) :: (nu, PySem.W.listOf its.toArray n2) :: rest) (by k_extra "my sub") off0 (.inr ⟨_, .tail _ (.head _), rfl, _, rfl⟩) ⟨rfl, _, kct_snoc hSx, turned_snoc hTx (by rw [hbk]; rfl)⟩
        · rintro us nw ⟨rfl, tx, hSx, hTx⟩
          have htl : tx.length = es.length := by rw [hTx.1, List.size_toArray]; exact hxl
          intro E5 h5 tk5 F5 N5 o5
          have hTLt : t < TL ∧ nu < TL ∧ AllLt TL rest := by
            revert lTL
            simp only [and_imp]
            intros
            exact ⟨by assumption, by assumption, by assumption⟩
          have o5r := o5
          simp only [LCg.Off1] at o5
          dsimp only
          k_extra "my upto For"
          refine wpAny_For ?_
          k_extra "my upto iter"
          with_reducible rename Fr _ _ _ _ => F8
          with_reducible rename News _ _ _ _ => N8
          with_reducible rename IsRange _ _ _ _ _ _ _ _ => hR8
          refine mr_range (σ := Obj × Nat × List Value × (Nat → Nat) × (Nat → Nat) × (Nat → Int) × List (Addr × Obj)) (n := es.length)
            (fun st => (TL, PySem.W.listOf st.2.2.1.toArray st.2.1) :: (E5, LCg.lst us) :: (E4, LCg.lst xs) :: (L1 + 1 + 1 + 1 + 1, oe3) :: (L1 + 1 + 1 + 1, st.1) :: (L1 + 1 + 1, ob) :: (L1 + 1, ot) :: (t, tapeO c3 t13 nu sd3 t23 n) :: (nu, PySem.W.listOf its.toArray n2) :: (rest ++ st.2.2.2.2.2.2))
            (fun _ => [(Str.ofString "table", .ref TL), (Str.ofString "texts", .ref E5)])
            (fun i st => (∃ v0, st.1.data = .cell v0) ∧ Made tx (fun t => (es.getD t Str.empty).cps.toList) i TL st.2.2.1 st.2.2.2.1 st.2.2.2.2.1 st.2.2.2.2.2.1 st.2.2.2.2.2.2)
            (ok, 0, [], fun _ => 0, fun _ => 0, fun _ => 0, []) (by exact rfl) hR8 (small_one (by k_extra "my num") (by k_extra "my num") (by k_extra "my num") (by k_extra "my num")) (rangeSize_len _) F8 ?zN ?zk ⟨⟨_, dk⟩, made_zero _ _ _⟩ ?_ ?_
          case zN =>
            rw [List.append_nil]
            exact fun p hp => N8 p (by revert p; k_extra "my sub")
          case zk => (k_extra "my kall")
          · rintro i ⟨ok2, nv, ts, xa, da, sub, tabs⟩ u h6 tk6 tt I oI hi ⟨⟨vk, dk2⟩, hM⟩ F6 N6 off6
            dsimp only at dk2 hM N6 off6
            dsimp only [kstB] at F6
            have hr3b : ∀ p ∈ rest ++ tabs, p.1 ≠ L1 + 1 + 1 + 1 := fun p hp => by
              rcases List.mem_append.mp hp with q | q
              · exact hr3 p q
              · exact Nat.ne_of_gt (Nat.lt_trans lTL.2.2.2.2.2.1 (hM.new p q))
            have hrT : ∀ p ∈ rest ++ tabs, p.1 ≠ TL := fun p hp => by
              rcases List.mem_append.mp hp with q | q
              · exact ne_allLt (by revert lTL; simp only [and_imp]; intros; assumption) p q
              · exact Nat.ne_of_gt (hM.new p q)
            have hts : ts.toArray.size ≤ 5 := by rw [List.size_toArray, hM.its, List.length_map, List.length_range]; omega
            have o6 := fun p hp => off6 p hp
            simp only [List.forall_mem_cons] at off6
            k_extra "my upto CompSrc"
            with_reducible rename Obj => ok3
            with_reducible rename ok3.data = _ => dk3
            with_reducible rename Fr _ _ _ _ => F7
            with_reducible rename News _ _ _ _ => N7
            have N10 := N7
            replace N7 : News _ _ _ ((TL, PySem.W.listOf ts.toArray nv) :: (E5, LCg.lst us) :: (E4, LCg.lst xs) :: (L1 + 1 + 1 + 1 + 1, oe3) :: (L1 + 1 + 1 + 1, ok3) :: (L1 + 1 + 1, ob) :: (L1 + 1, ot) :: (t, tapeO c3 t13 nu sd3 t23 n) :: (nu, PySem.W.listOf its.toArray n2) :: (I, oI) :: (rest ++ tabs)) := fun p hp => N10 p (by revert p; k_extra "my sub")
            clear N10
            refine LCt.CompSrcT.range (n := i) (by exact rfl) F7 N7 (by with_reducible assumption) (small_one (by k_extra "my num") (by k_extra "my num") (by k_extra "my num") (by k_extra "my num")) (by rw [show (0 : Int) + (i : Int) = (i : Int) from Int.zero_add _]; exact rangeSize_len _) (by rw [sizeLine_eq]; omega) ?_
            intro g9
            refine comp_invT (fun m js nw => nw = (TL, PySem.W.listOf ts.toArray nv) :: (E5, LCg.lst us) :: (E4, LCg.lst xs) :: (L1 + 1 + 1 + 1 + 1, oe3) :: (L1 + 1 + 1 + 1, ok3) :: (L1 + 1 + 1, ob) :: (L1 + 1, ot) :: (t, tapeO c3 t13 nu sd3 t23 n) :: (nu, PySem.W.listOf its.toArray n2) :: (I, oI) :: (rest ++ tabs) ∧ ∃ qs : List Int, IntsAre js qs ∧ Inner (fun t => (es.getD t Str.empty).cps.toList) i m qs) ?_ ?_ ?_
            · exact ⟨rfl, [], .nil, inner_zero _ _⟩
            · rintro m v js nw J oJ C oC E6 m2 h7 tk7 E2 hi2 ⟨tv, rfl⟩ ⟨rfl, qs, hIq, hIn⟩ hC hm2 F9 N9 off ⟨neIC, neID, neCD⟩
              have off0 := off
              (try k_fold)
              k_extra "my steps"
              · exact LCg.CompEnd.intro (by k_asm) (by k_asm) ((TL, PySem.W.listOf ts.toArray nv) :: (E5, LCg.lst us) :: (E4, LCg.lst xs) :: (L1 + 1 + 1 + 1 + 1, oe3) :: (L1 + 1 + 1 + 1, ok3) :: (L1 + 1 + 1, ob) :: (L1 + 1, ot) :: (t, tapeO c3 t13 nu sd3 t23 n) :: (nu, PySem.W.listOf its.toArray n2) :: (I, oI) :: (rest ++ tabs)) (by k_extra "my sub") off0 trivial ⟨rfl, _, ksk_snoc hIq, inner_yes hIn (by with_reducible assumption)⟩
              · exact LCg.CompEnd.intro (by k_asm) (by k_asm) ((TL, PySem.W.listOf ts.toArray nv) :: (E5, LCg.lst us) :: (E4, LCg.lst xs) :: (L1 + 1 + 1 + 1 + 1, oe3) :: (L1 + 1 + 1 + 1, ok3) :: (L1 + 1 + 1, ob) :: (L1 + 1, ot) :: (t, tapeO c3 t13 nu sd3 t23 n) :: (nu, PySem.W.listOf its.toArray n2) :: (I, oI) :: (rest ++ tabs)) (by k_extra "my sub") off0 trivial ⟨rfl, _, hIq, inner_no hIn (by with_reducible assumption)⟩
            · rintro js nw ⟨rfl, qs, hIq, hIn⟩
              have hq5 : qs.length ≤ 1000 := Nat.le_trans (inner_le hIn) (by k_extra "my num")
              intro E6 h7 tk7 F9 N9 o7
              dsimp only
              k_extra "my steps"
              · with_reducible rename News _ _ _ _ => NZ
                rw [List.push_toArray] at NZ
                obtain ⟨q1, q2, q3, q4, q5, q6, q7, q8, q9, q10⟩ := off6
                have lID : I < dA ∧ TL < dA := by
                  revert lA1
                  simp only [and_imp]
                  intros
                  exact ⟨by assumption, by assumption⟩
                have lI := lID.1
                refine mr_end (ok3, nv + 1, ts ++ [.ref xA], (fun j => if j = i then xA else xa j), (fun j => if j = i then dA else da j), (fun j => if j = i then qs.getD (qs.length - 1) 0 else sub j), (xA, instObj 220 dA) :: (dA, amongD HA KA (tx.getD (0 + (i : Int)).toNat Str.empty) tA0 (qs.getD (qs.length - 1) 0) tA1 (0 + (i : Int) + 1) tA2) :: tabs) (by k_asm) NZ (by k_mem) ?_ ?_ (by (k_extra "my kall")) ⟨⟨_, dk3⟩, made_snoc hM lID.2 lA2 (inner_link1 hIn (by k_extra "my num") hM.link)⟩
                · dsimp only
                  iterate 9 (refine List.forall_mem_cons.mpr ⟨by k_mem, ?_⟩)
                  exact all_tabs (by k_extra "my sub") (by k_mem) (by k_mem)
                · dsimp only
                  exact List.forall_mem_cons.mpr ⟨q1, List.forall_mem_cons.mpr ⟨q2, List.forall_mem_cons.mpr ⟨q3, List.forall_mem_cons.mpr ⟨q4, List.forall_mem_cons.mpr ⟨q5, List.forall_mem_cons.mpr ⟨q6, List.forall_mem_cons.mpr ⟨q7, List.forall_mem_cons.mpr ⟨q8, List.forall_mem_cons.mpr ⟨q9, all_tabs q10 (Nat.ne_of_gt (Nat.lt_trans lI lA2)) (Nat.ne_of_gt lI)⟩⟩⟩⟩⟩⟩⟩⟩⟩
              · with_reducible rename News _ _ _ _ => NZ
                rw [List.push_toArray] at NZ
                obtain ⟨q1, q2, q3, q4, q5, q6, q7, q8, q9, q10⟩ := off6
                have lID : I < dA ∧ TL < dA := by
                  revert lA1
                  simp only [and_imp]
                  intros
                  exact ⟨by assumption, by assumption⟩
                have lI := lID.1
                refine mr_end (ok3, nv + 1, ts ++ [.ref xA], (fun j => if j = i then xA else xa j), (fun j => if j = i then dA else da j), (fun j => if j = i then -1 else sub j), (xA, instObj 220 dA) :: (dA, amongD HA KA (tx.getD (0 + (i : Int)).toNat Str.empty) tA0 (-1) tA1 (0 + (i : Int) + 1) tA2) :: tabs) (by k_asm) NZ (by k_mem) ?_ ?_ (by (k_extra "my kall")) ⟨⟨_, dk3⟩, made_snoc hM lID.2 lA2 (inner_link0 hIn (by k_extra "my num") hM.link)⟩
                · dsimp only
                  iterate 9 (refine List.forall_mem_cons.mpr ⟨by k_mem, ?_⟩)
                  exact all_tabs (by k_extra "my sub") (by k_mem) (by k_mem)
                · dsimp only
                  exact List.forall_mem_cons.mpr ⟨q1, List.forall_mem_cons.mpr ⟨q2, List.forall_mem_cons.mpr ⟨q3, List.forall_mem_cons.mpr ⟨q4, List.forall_mem_cons.mpr ⟨q5, List.forall_mem_cons.mpr ⟨q6, List.forall_mem_cons.mpr ⟨q7, List.forall_mem_cons.mpr ⟨q8, List.forall_mem_cons.mpr ⟨q9, all_tabs q10 (Nat.ne_of_gt (Nat.lt_trans lI lA2)) (Nat.ne_of_gt lI)⟩⟩⟩⟩⟩⟩⟩⟩⟩
          · rintro ⟨ok2, nv, ts, xa, da, sub, tabs⟩ u h6 tk6 ⟨⟨vk, dk2⟩, hM⟩ F6 N6
            dsimp only at dk2 hM N6
            dsimp only [kstB] at F6
            rw [List.size_toArray, hxl] at hTx
            have hTab := tab_of_made (nv := nv) hM htl
            have hRi := rise_congr (turned_at hTx) hDe.2.2.1
            have hLi := links_congr (turned_at hTx) hM.link
            have hl3 := turned_len hTx he3 (Nat.le_refl _)
            rw [← htl] at hRi hLi hel hel0
            have hq1 : ∀ q ∈ rest, ∀ p ∈ (TL, PySem.W.listOf ts.toArray nv) :: tabs, p.1 ≠ q.1 := fun q hq => tabs_ne hM (allLt_at hTLt.2.2 q hq)
            have hq2 := tabs_ne (o := PySem.W.listOf ts.toArray nv) hM hTLt.1
            have hq3 := tabs_ne (o := PySem.W.listOf ts.toArray nv) hM hTLt.2.1
            have hq4 : (t ≠ E5 ∧ nu ≠ E5) ∧ ∀ q ∈ rest, q.1 ≠ E5 := by
              revert o5
              simp only [and_imp]
              intros
              exact ⟨⟨by assumption, by assumption⟩, off1_mem (by assumption)⟩
            obtain ⟨TLd, rfl⟩ : ∃ z, z = TL := ⟨_, rfl⟩
            k_extra "my steps"
            have hq5 : E5 < TL ∧ t < TL ∧ nu < TL ∧ AllLt TL (rest ++ tabs) := by
              revert lTL
              simp only [and_imp]
              intros
              exact ⟨by assumption, by assumption, by assumption, by assumption⟩
            with_reducible rename News h₀ L _ _ => kN
            with_reducible rename Fr h₀ L _ _ => kF
            refine hret TL E5 TLd nv 0 us.length xa da tx sub us _ c3 sd3 t13 t23 _ _ kF (fun p hp => kN p ?_) hSx hel0 hel hl3 hTab hRi hLi hc3 (by k_extra "my num") hs3 hs4 (Nat.ne_of_gt hq5.1) ⟨Nat.ne_of_lt hq5.2.1, hq4.1.1, hq2⟩ ⟨Nat.ne_of_lt hq5.2.2.1, hq4.1.2, hq3⟩ fun q hq => ⟨Nat.ne_of_lt (allLt_at hq5.2.2.2 q (List.mem_append_left _ hq)), hq4.2 q hq, hq1 q hq⟩
            revert p
            iterate 4 (refine List.forall_mem_cons.mpr ⟨by k_mem, ?_⟩)
            exact all_tabs1 (by k_extra "my sub") (by k_mem)
 ) (by exact Nat) _))

theorem words_jFound_9 : True := by
  k_with "my call ref" => (k_here; (with_reducible show wpAny _ _ (call (Value.ref 133) _) _ _ _); k_dflt (refine' Mine.find_among_call ?ha666czB ?ha666czF ?ha666czX ?ha666czN ?ha666czT ?ha666czk ?ha666czm ?ha666czU ?ha666czmd ?ha666czx ?ha666czc0 ?ha666czcl ?ha666czl1 ?ha666czhT ?ha666czTs ?ha666czTn ?ha666czn0 ?ha666czn1 ?ha666czel ?ha666czE ?ha666czLk ?ha666czdp ?ha666czun ?_; (case ha666czB => k_asm); (case ha666czF => k_asm); (case ha666czX => k_asm); (case ha666czN => k_asm); (case ha666czT => k_asm); (case ha666czk => first | exact rfl | assumption); (case ha666czm => k_mem); (case ha666czU => k_updF); (case ha666czmd => first | assumption | k_extra "my num"); (case ha666czx => first | k_extra "my num" | (simp only [List.length_cons] at *; omega)); (case ha666czc0 => first | k_extra "my num" | (simp only [List.length_cons] at *; omega)); (case ha666czcl => first | k_extra "my num" | (simp only [List.length_cons] at *; omega)); (case ha666czl1 => first | k_extra "my num" | (simp only [List.length_cons] at *; omega)); (case ha666czhT => with_reducible assumption); (case ha666czTs => k_extra "my sub"); (case ha666czTn => with_reducible assumption); (case ha666czn0 => with_reducible assumption); (case ha666czn1 => with_reducible assumption); (case ha666czel => with_reducible assumption); (case ha666czE => with_reducible assumption); (case ha666czLk => with_reducible assumption); (case ha666czdp => k_extra "my room"); (case ha666czun => k_extra "my units"); k_whole); intro o0' o1' o2' o3' o4' o5' o6' o7' o8' o9' o10' F' N' e0'; (try dsimp only at N'); (try k_sweep); (try dsimp only); (try k_fold))
  k_with "my call ref" => (k_here; (with_reducible show wpAny _ _ (call (Value.ref 140) _) _ _ _); k_dflt (refine' Mine.find_among_b_call ?h258fazB ?h258fazF ?h258fazX ?h258fazN ?h258fazT ?h258fazk ?h258fazm ?h258fazU ?h258fazmd ?h258fazx ?h258fazc0 ?h258fazcl ?h258fazl1 ?h258fazlb ?h258fazlc ?h258fazhT ?h258fazTs ?h258fazTn ?h258fazn0 ?h258fazn1 ?h258fazel ?h258fazE ?h258fazLk ?h258fazdp ?h258fazun ?_; (case h258fazB => k_asm); (case h258fazF => k_asm); (case h258fazX => k_asm); (case h258fazN => k_asm); (case h258fazT => k_asm); (case h258fazk => first | exact rfl | assumption); (case h258fazm => k_mem); (case h258fazU => k_updF); (case h258fazmd => first | assumption | k_extra "my num"); (case h258fazx => first | k_extra "my num" | (simp only [List.length_cons] at *; omega)); (case h258fazc0 => first | k_extra "my num" | (simp only [List.length_cons] at *; omega)); (case h258fazcl => first | k_extra "my num" | (simp only [List.length_cons] at *; omega)); (case h258fazl1 => first | k_extra "my num" | (simp only [List.length_cons] at *; omega)); (case h258fazlb => first | k_extra "my num" | (simp only [List.length_cons] at *; omega)); (case h258fazlc => first | k_extra "my num" | (simp only [List.length_cons] at *; omega)); (case h258fazhT => with_reducible assumption); (case h258fazTs => k_extra "my sub"); (case h258fazTn => with_reducible assumption); (case h258fazn0 => with_reducible assumption); (case h258fazn1 => with_reducible assumption); (case h258fazel => with_reducible assumption); (case h258fazE => with_reducible assumption); (case h258fazLk => with_reducible assumption); (case h258fazdp => k_extra "my room"); (case h258fazun => k_extra "my units"); k_whole); intro o0' o1' o2' o3' o4' o5' o6' o7' o8' o9' o10' F' N' e0'; (try dsimp only at N'); (try k_sweep); (try dsimp only); (try k_fold))
  trivial
theorem words_Found_12 : True := by
  k_with "my upto table" => repeat ((fail_if_success (with_reducible show wpAny _ _ (call (Value.ref 271) _) _ _ _)); k_extra "my onestep")
  k_with "my upto2 CompSrc" => repeat' ((fail_if_success (with_reducible show wpAny _ _ (call (Value.builtin "max") _) _ _ _)); (fail_if_success (with_reducible show LCg.CompSrc _ _ _ _ _ _ _ _ _ _ _ _ _ _)); (fail_if_success (with_reducible show LCt.CompSrcT _ _ _ _ _ _ _ _ _ _ _ _ _ _ _)); k_extra "my onestep")
  trivial
theorem bool_gen {o : Obj} {b : Bool} (h : o.data = .cell (some (.bool b))) : ∃ bk, b = bk ∧ o.data = .cell (some (.bool bk)) := ⟨b, rfl, h⟩
theorem words_Found_13 : True := by
  k_with "my eval ListComp" => (k_here; k_dflt (refine LCg.ListComp_U (F₀ := by k_asm) (by with_unfolding_all rfl) (by decide) (by rfl) (by decide) (by rfl) ?_))
  trivial
theorem news_name {h₀ h : Heap} {L : Addr} {news : List (Addr × Obj)} (N : News h₀ L h news) : ∃ nw, nw = news ∧ News h₀ L h nw := ⟨news, rfl, N⟩
theorem news5 {h₀ h : Heap} {L : Addr} {all rest : List (Addr × Obj)} {q1 q2 q3 q4 q5 : Addr × Obj} (N : News h₀ L h all) (m1 : q1 ∈ all) (m2 : q2 ∈ all) (m3 : q3 ∈ all) (m4 : q4 ∈ all) (m5 : q5 ∈ all) (mr : ∀ p ∈ rest, p ∈ all) : News h₀ L h (q1 :: q2 :: q3 :: q4 :: q5 :: rest) :=
  fun p hp => N p ((List.forall_mem_cons.mpr ⟨m1, List.forall_mem_cons.mpr ⟨m2, List.forall_mem_cons.mpr ⟨m3, List.forall_mem_cons.mpr ⟨m4, List.forall_mem_cons.mpr ⟨m5, mr⟩⟩⟩⟩⟩ : ∀ p ∈ q1 :: q2 :: q3 :: q4 :: q5 :: rest, p ∈ all) p hp)
theorem off3_ins {I C D : Addr} {q : Addr × Obj} {tps : List (Addr × Obj)} (hq : (@Ne Nat q.1 I) ∧ (@Ne Nat q.1 C) ∧ (@Ne Nat q.1 D)) : ∀ {l : List (Addr × Obj)}, LCg.Off3 I C D (l ++ tps) → LCg.Off3 I C D (l ++ (q :: tps))
  | [], h => ⟨hq, h⟩
  | _ :: _, h => ⟨h.1, off3_ins hq h.2⟩
theorem ints_at : ∀ {vs : List Value} {ys : List Int} {i : Nat} {v : Value}, IntsAre vs ys → vs[i]? = some v → ∃ t, v = .int (ys.getD i 0) t
  | _, _, i, v, .nil, h => by simp at h
  | _, _, 0, v, .cons n t r, h => by
    simp only [List.getElem?_cons_zero, Option.some.injEq] at h
    exact ⟨_, h.symm⟩
  | _, _, i + 1, v, .cons n t r, h => by
    have := ints_at r (by simpa using h)
    simpa using this
theorem tup_turn {h₀ h' : Heap} {L I C D a : Addr} {m : Str → Option Value} {s₁ : Shared} {oI oC : Obj} {S : List (Addr × Obj) → Prop} {es : List Str} {qs : List Int} {ys : List Value} {i tk : Nat} {tps nw1 all : List (Addr × Obj)} {t u : Tok}
    (F : Fr h₀ L h' m) (N : News h₀ L h' all) (e : all = (a, tupO ((es.getD (qs.getD i 0).toNat Str.empty).length : Int) t (qs.getD i 0 + 1) u) :: (I, oI) :: (C, oC) :: (D, LCg.lst ys) :: (nw1 ++ tps)) (lI : I < a) (lC : C < a) (lD : D < a)
    (off : LCg.Off3 I C D (nw1 ++ tps)) (hS : ∀ q, S (nw1 ++ (q :: tps))) (hTI : TupI es qs ys i tps) :
    LCg.CompEnd h₀ L m s₁ I oI C oC D (LCg.lst ys) S (fun y nw' => ∃ tps, nw' = nw1 ++ tps ∧ TupI es qs (ys ++ [y]) (i + 1) tps) (.ref a) { s₁ with heap := h', toks := tk } := by
  subst e
  refine LCg.CompEnd.intro F N _ ?_ (off3_ins ⟨Nat.ne_of_gt lI, Nat.ne_of_gt lC, Nat.ne_of_gt lD⟩ off) (hS _) ⟨_, rfl, tupI_snoc (t := t) (u := u) hTI⟩
  exact all_tabs1 (rest := (I, oI) :: (C, oC) :: (D, LCg.lst ys) :: nw1) (tabs := tps) (fun p hp => .tail _ hp) (.head _)
theorem fit_le {E : Nat → List Nat} {P : List Nat} {m : Nat} {qs : List Int} (h : FitL E P m qs) {i : Nat} (hi : i < qs.length) : (E (qs.getD i 0).toNat).length ≤ P.length := by
  obtain ⟨q, e, -, f⟩ := h.2.2.1 i hi
  rw [e, Int.toNat_natCast]
  exact f.1
theorem off_app {a r tl : Nat} {rest tabs : List (Addr × Obj)} (h : ∀ p ∈ rest, p.1 ≠ a) (ho : Off a r tl tabs) : ∀ p ∈ rest ++ tabs, p.1 ≠ a := fun p hp => by
  rcases List.mem_append.mp hp with q | q
  · exact h p q
  · exact ho.2.2 p q
theorem found_spec {prog : Program} {w : World} {p : Program} {loose : List Str} {mean : ExcName → Option Value} {mg mb : Str → Option Value}
  {dp un : Nat} {gd : Option (List Code)} {cn : Str} {cs : Scope} {a : Addr} {ccd : Value} {cl : List (Str × Addr)} {outer : List Env} {A₀ : Around} {base h₀ : Heap} {L : Addr} {m : Str → Option Value} {s : Shared} {Q E : Value → Shared → Prop}
  {t nu mx dx tw : Nat} {H : Nat → Int} {KT : Nat → Tok} {x : Str} {c l lb b k tc sd : Int} {τ0 τ1 τ2 τ3 τ4 τ5 σ0 σ1 σ2 σ3 σ4 σ5 t1 t2 : Tok} {n n2 nw : Nat} {its : List Value} {ns : List Int} {rest : List (Addr × Obj)}
  (B : Below A₀ base outer h₀) (F : Fr h₀ L s.heap m) (X : (hd0.heap_1_1 w.params).In h₀) (N : News h₀ L s.heap ((t, tapeO tc t1 nu sd t2 n) :: (nu, PySem.W.listOf its.toArray n2) :: (mx, instObj 199 dx) :: (dx, machD H KT x τ0 c τ1 l τ2 lb τ3 b τ4 k τ5) :: (tw, twinO x σ0 c σ1 l σ2 lb σ3 b σ4 k σ5 nw) :: rest)) (T : Top p loose mean mg mb h₀) (hk : cs.kind = .function)
  (hI : IntsAre its ns) (hlen : ns.length ≤ 40) (hc0 : 0 ≤ tc) (hc1 : tc < 8000) (hs0 : 0 ≤ sd) (hs1 : sd < 2147483647)
  (htn : t ≠ nu) (htm : t ≠ mx) (htd : t ≠ dx) (htw : t ≠ tw) (hmd : mx ≠ dx) (hmt : mx ≠ tw) (hdt : dx ≠ tw) (hnd : nu ≠ dx) (hnt : nu ≠ tw) (hr0 : ∀ p ∈ rest, p.1 ≠ t) (hr1 : ∀ p ∈ rest, p.1 ≠ dx) (hr2 : ∀ p ∈ rest, p.1 ≠ tw)
  (hx : x.length ≤ 1000) (h0 : 0 ≤ c) (hcl : c ≤ l) (hl1 : l ≤ x.length) (hlb : 0 ≤ lb)
  (hdp : dp + 3 < recursionLimit) (hun : un + 24 < cLine)
  (hret : ∀ (c' tc' sd' : Int) (τ0 τ1 τ2 τ3 τ4 τ5 σ0 σ1 σ2 σ3 σ4 σ5 t1 t2 : Tok) (h' : Heap) (tk' : Nat), Fr h₀ L h' m →
    News h₀ L h' ((t, tapeO tc' t1 nu sd' t2 n) :: (nu, PySem.W.listOf its.toArray n2) :: (mx, instObj 199 dx) :: (dx, machD H KT x τ0 c' τ1 l τ2 lb τ3 b τ4 k τ5) :: (tw, twinO x σ0 c' σ1 l σ2 lb σ3 b σ4 k σ5 nw) :: rest) →
    0 ≤ c' → c' ≤ l → 0 ≤ tc' → tc' ≤ tc + 8 → 0 ≤ sd' → sd' < 2147483647 → Q (.bool true) { s with heap := h', toks := tk' }) :
  wpAny (model prog w) (ktrTop dp un gd cn cs L a ccd cl outer) (call (.ref 276) [.ref t, .ref mx, .ref tw]) Q E s := by
 exact Mine.quiet _ (type_of% (Mine.aside (by
  refine wpAny_call ?_
  k_dflt (refine' code_defC ?k1 ?k2 ?k3 ?k4 ?k5 ?kA ?kF ?kK ?k6 ?k7 ?k8 ?k9 ?kB ?kD ?_ ?c2 ?c3 ?c4; (case kA => exact rfl); (case kF => exact rfl); (case kK => assumption); (case k1 => k_asm); (case k2 => k_asm); (case k3 => k_asm); (case k4 => k_asm); (case k5 => k_asm); (case k6 => k_is); (case k7 => k_is); (case k8 => (k_extra "my room")); (case k9 => exact BindsTo.of_eq rfl); (case kB => exact rfl); (case kD => decide +kernel); (case c2 => exact rfl); (case c3 => exact rfl); (case c4 => exact rfl); k_whole)
  intro g1 L1 h1 tk1 cells FG F1 N1 Y B1 X1 T1 l1
  k_lt l1
  (have hcj := l1; k_extra "my cut")
  have hr5 : ∀ p ∈ rest, p.1 ≠ L1 + 1 := ne_allLt_le l1.2.2.2.2.2 (by k_extra "my num")
  have hr6 : ∀ p ∈ rest, p.1 ≠ L1 + 1 + 1 := ne_allLt_le l1.2.2.2.2.2 (by k_extra "my num")
  have hr7 : ∀ p ∈ rest, p.1 ≠ L1 + 1 + 1 + 1 := ne_allLt_le l1.2.2.2.2.2 (by k_extra "my num")
  have hY := CellsAre.three Y
  obtain ⟨op, ox, ob, hCE, dpp, dx0, db⟩ := hY
  subst hCE
  clear Y
  replace dpp : op.data = .cell none := dpp
  replace dx0 : ox.data = .cell none := dx0
  replace db : ob.data = .cell none := db
  simp only [List.cons_append, List.nil_append] at N1
  dsimp only
  k_extra "my upto table"
  with_reducible rename Obj => ob2
  with_reducible rename ob2.data = _ => db2
  obtain ⟨bk, hbk, db3⟩ := bool_gen db2
  rw [hbk]
  with_reducible rename Fr _ _ _ _ => F8
  with_reducible rename News _ _ _ _ => N8
  have N9 := N8
  k_dflt (refine' table_spec (rest := (mx, instObj 199 dx) :: (dx, machD H KT x τ0 c τ1 l τ2 lb τ3 b τ4 k τ5) :: (tw, twinO x σ0 c σ1 l σ2 lb σ3 b σ4 k σ5 nw) :: (L1 + 1 + 1 + 1, op) :: (L1 + 1 + 1, ox) :: (L1 + 1, ob2) :: rest) ?zB F8 ?zX ?zN ?zT ?zk hI htn ?zr hlen ?zc0 ?zc1 ?zs0 ?zs1 ?zdp ?zun ?_; (case zB => k_asm); (case zX => k_asm); (case zT => k_asm); (case zk => exact rfl); (case zN => exact fun p hp => N9 p (by revert p; k_extra "my sub")); (case zc0 => omega); (case zc1 => omega); (case zs0 => assumption); (case zs1 => assumption); (case zdp => (k_extra "my room")); (case zun => (k_extra "my units")); k_whole)
  case zr => exact List.forall_mem_cons.mpr ⟨Ne.symm htm, List.forall_mem_cons.mpr ⟨Ne.symm htd, List.forall_mem_cons.mpr ⟨Ne.symm htw, List.forall_mem_cons.mpr ⟨by k_ne, List.forall_mem_cons.mpr ⟨by k_ne, List.forall_mem_cons.mpr ⟨by k_ne, hr0⟩⟩⟩⟩⟩⟩
  intro r tl va nv n3 n4 xa da es sub tvs tabs tc2 sd2 t12 t22 h2 tk2 F2 N2 hSt hn0 hn5 hl3 hTab hRi hLi htc0 htc1 hsd0 hsd1 hrtl hoT hoN hoR
  simp only [List.cons_append] at N2
  clear N9 F8 hbk db2
  dsimp only
  have o_dx : Off dx r tl tabs := hoR _ (.tail _ (.head _))
  have o_tw : Off tw r tl tabs := hoR _ (.tail _ (.tail _ (.head _)))
  have o_p : Off (L1 + 1 + 1 + 1) r tl tabs := hoR _ (.tail _ (.tail _ (.tail _ (.head _))))
  have o_x : Off (L1 + 1 + 1) r tl tabs := hoR _ (.tail _ (.tail _ (.tail _ (.tail _ (.head _)))))
  have hq1 := off_app hr1 o_dx
  have hq2 := off_app hr2 o_tw
  have hq6 := off_app hr6 o_x
  have hq7 := off_app hr7 o_p
  obtain ⟨R, hR⟩ : ∃ R, R = rest ++ tabs := ⟨_, rfl⟩
  have hsubR : ∀ p ∈ rest, p ∈ R := fun p hp => by rw [hR]; exact List.mem_append_left _ hp
  have hTabR := tab_mono (rest' := R) hTab (fun p hp => by rw [hR]; exact List.mem_append_right _ hp)
  rw [← hR] at N2 hq1 hq2 hq6 hq7
  clear hTab hR hr0 hr1 hr2 hr5 hr6 hr7 hoR
  obtain ⟨d1, d2, -⟩ := o_dx
  obtain ⟨w1, w2, -⟩ := o_tw
  obtain ⟨p1, p2, -⟩ := o_p
  obtain ⟨x1, x2, -⟩ := o_x
  k_extra "my upto2 CompSrc"
  · with_reducible rename Fr h₀ L _ _ => kF
    with_reducible rename News h₀ L _ _ => kN
    refine hret c tc2 sd2 τ0 τ1 τ2 τ3 τ4 τ5 σ0 σ1 σ2 σ3 σ4 σ5 t12 t22 _ _ kF (fun p hp => kN p ?_) h0 hcl (by k_extra "my num") (by k_extra "my num") hsd0 hsd1
    revert p
    iterate 5 (refine List.forall_mem_cons.mpr ⟨by k_mem, ?_⟩)
    intro p hp
    have hqp := hsubR p hp
    k_extra "my tail"
  · with_reducible rename bk = true => hb
    subst hb
    have hge : lb ≤ c := by k_extra "my num"
    have hRi2 : Rise (rentL es) es.length := hRi
    have hLi2 : Links (rentL es) es.length sub := hLi
    with_reducible rename Fr _ _ _ _ => F7
    with_reducible rename News _ _ _ _ => N7
    obtain ⟨nw0, hnw, N6⟩ := news_name N7
    refine LCt.CompSrcT.range (n := es.length) (by exact rfl) F7 N6 (by with_reducible assumption) (small_one (by k_extra "my num") (by k_extra "my num") (by k_extra "my num") (by k_extra "my num")) (rangeSize_len _) (by rw [sizeLine_eq]; omega) ?_
    intro g9
    refine comp_invT (fun m js nw => nw = nw0 ∧ ∃ qs : List Int, IntsAre js qs ∧ FitL (tabE true es) (partL true x c l lb) m qs) ?_ ?_ ?_
    · exact ⟨rfl, [], .nil, fit_zero _ _⟩
    · rintro m v js nw J oJ C oC E6 m2 h7 tk7 E2 hi2 ⟨tv, rfl⟩ ⟨rfl, qs, hIq, hFit⟩ hC hm2 F9 N9 off ⟨neIC, neID, neCD⟩
      subst hnw
      have off0 := off
      (try k_fold)
      k_extra "my steps"
      · exact LCg.CompEnd.intro (by k_asm) (by k_asm) _ (by k_extra "my sub") off0 trivial ⟨rfl, _, ksk_snoc hIq, fit_yes hFit ((fitB hlb hge (by k_extra "my num")).mp (by with_reducible assumption))⟩
      · exact LCg.CompEnd.intro (by k_asm) (by k_asm) _ (by k_extra "my sub") off0 trivial ⟨rfl, _, hIq, fit_no hFit (fun q => by have := (fitB hlb hge (by k_extra "my num")).mpr q; simp_all)⟩
    · rintro js nw ⟨rfl, qs, hIq, hFit⟩
      have hq5 : qs.length ≤ 5 := Nat.le_trans hFit.1 hn5
      intro E6 h7 tk7 F9 N9 o7
      subst hnw
      dsimp only
      k_extra "my upto2 CompSrc"
      · with_reducible rename 0 < _ => hqp
        have hq0 : 0 < qs.length := by k_extra "my num"
        have hjl := hIq.length
        obtain ⟨nw1, hnw, N5⟩ := news_name N9
        refine LCg.CompSrc.ledger (its := js.toArray) (by exact rfl) F9 N5 (by rw [hnw]; k_mem) (by rw [sizeLine_eq, List.size_toArray]; omega) ?_
        intro g8
        refine comp_inv (fun i ys nw => ∃ tps, nw = nw1 ++ tps ∧ TupI es qs ys i tps) ?_ ?_ ?_
        · exact ⟨[], (List.append_nil _).symm, tupI_zero _ _⟩
        · rintro i v ys nw I oI C oC D2 m2 h8 tk8 E3 hi hv ⟨tps, rfl, hTI⟩ hC hm2 F8 N8 off ⟨neIC, neID, neCD⟩
          have off0 := off
          rw [hnw] at N8 off
          simp only [List.cons_append] at N8 off
          (try k_fold)
          obtain ⟨tv, rfl⟩ := ints_at hIq (show js[i]? = some v by simpa using hv)
          obtain ⟨hqa, hqb⟩ := fit_at hFit (i := i) (by rw [List.size_toArray] at hi; omega)
          have hz3 := hl3 (qs.getD i 0).toNat
          k_extra "my steps"
          with_reducible rename I < _ ∧ _ => lT
          exact tup_turn (by k_asm) (by k_asm) (by rw [hnw]; rfl) lT.1 lT.2.1 lT.2.2.1 off0 (fun q => .inr ⟨_, List.mem_append_left _ (by rw [hnw]; k_mem), rfl, _, rfl⟩) hTI
        · rintro ys nw ⟨tps, rfl, hTI⟩
          rw [List.size_toArray, hjl] at hTI
          intro D2 h8 tk8 F8 N8 o8
          rw [hnw] at N8
          simp only [List.cons_append] at N8
          dsimp only
          k_extra "my upto2 CompSrc"
          refine max_tup (ks := qs.map fun q => ((es.getD q.toNat Str.empty).length : Int)) (ds := fun j => qs.getD j 0 + 1) (by (k_extra "my units")) (by exact rfl) F8 N8 (by k_mem) (tupI_end hTI (fun p hp => by k_extra "my tail")) (by rw [List.length_map]; exact hq0) (fit_up hRi hFit) ?_
          intro aT tT uT h9 tk9 hmT F9 N9
          rw [fitL_last hq0, List.length_map] at hmT
          (try dsimp only at hmT)
          have hqa := fit_at hFit (i := qs.length - 1) (by k_extra "my num")
          have hz3 := hl3 (qs.getD (qs.length - 1) 0).toNat
          (try dsimp only)
          k_dflt (refine' unpackN_ F9 N9 (News.isTup N9 hmT) ?k4 ?k5 ?k6 ?_; (case k4 => exact rfl); (case k5 => exact rfl); (case k6 => exact rfl); k_whole)
          intro h10 F10 N10
          have N11 : News g1 L1 h10 nw1 := fun p hp => N10 p (by
            rw [hnw] at hp
            revert p
            k_extra "my sub")
          rw [hnw] at N11
          clear hmT N10 N9 N8 o8 hTI
          (try dsimp only)
          have hF2 : FitL (rentL es) (rcutL x lb c) es.length qs := hFit
          k_extra "my steps"
          obtain ⟨e1, e2⟩ := found_some hRi2 hF2 hq0 e0'
          have e4 := fit_le hF2 (i := qs.length - 1) (by k_extra "my num")
          have e5 := rcutL_len (x := x) hlb hge (by k_extra "my num")
          rw [rent_len] at e2 e4
          have e3 : o1' = c - ((es.getD (qs.getD (qs.length - 1) 0).toNat Str.empty).length : Int) := by k_extra "my num"
          subst e3
          rw [e1, beq_self_eq_true]
          with_reducible rename Fr h₀ L _ _ => kF
          with_reducible rename News h₀ L _ _ => kN
          exact hret (c - ((es.getD (qs.getD (qs.length - 1) 0).toNat Str.empty).length : Int)) tc2 sd2 _ _ _ _ _ _ _ _ _ _ _ _ t12 t22 _ _ kF (news5 kN (by k_mem) (by k_mem) (by k_mem) (by k_mem) (by k_mem) (fun p hp => by have hqp := hsubR p hp; k_extra "my tail")) (by k_extra "my num") (by k_extra "my num") (by k_extra "my num") (by k_extra "my num") hsd0 hsd1
      · have hF2 : FitL (rentL es) (rcutL x lb c) es.length qs := hFit
        k_extra "my steps"
        obtain ⟨e1, e2⟩ := found_zero hF2 (by k_extra "my num") e0'
        have e3 : o1' = c - 0 := by k_extra "my num"
        subst e3
        rw [e1, beq_self_eq_true]
        with_reducible rename Fr h₀ L _ _ => kF
        with_reducible rename News h₀ L _ _ => kN
        exact hret (c - 0) tc2 sd2 _ _ _ _ _ _ _ _ _ _ _ _ t12 t22 _ _ kF (news5 kN (by k_mem) (by k_mem) (by k_mem) (by k_mem) (by k_mem) (fun p hp => by have hqp := hsubR p hp; k_extra "my tail")) (by k_extra "my num") (by k_extra "my num") (by k_extra "my num") (by k_extra "my num") hsd0 hsd1
  · with_reducible rename bk = false => hb
    subst hb
    have hge : lb ≤ c := by k_extra "my num"
    have hRi2 : Rise (entL es) es.length := hRi
    have hLi2 : Links (entL es) es.length sub := hLi
    with_reducible rename Fr _ _ _ _ => F7
    with_reducible rename News _ _ _ _ => N7
    obtain ⟨nw0, hnw, N6⟩ := news_name N7
    refine LCt.CompSrcT.range (n := es.length) (by exact rfl) F7 N6 (by with_reducible assumption) (small_one (by k_extra "my num") (by k_extra "my num") (by k_extra "my num") (by k_extra "my num")) (rangeSize_len _) (by rw [sizeLine_eq]; omega) ?_
    intro g9
    refine comp_invT (fun m js nw => nw = nw0 ∧ ∃ qs : List Int, IntsAre js qs ∧ FitL (tabE false es) (partL false x c l lb) m qs) ?_ ?_ ?_
    · exact ⟨rfl, [], .nil, fit_zero _ _⟩
    · rintro m v js nw J oJ C oC E6 m2 h7 tk7 E2 hi2 ⟨tv, rfl⟩ ⟨rfl, qs, hIq, hFit⟩ hC hm2 F9 N9 off ⟨neIC, neID, neCD⟩
      subst hnw
      have off0 := off
      (try k_fold)
      k_extra "my steps"
      · exact LCg.CompEnd.intro (by k_asm) (by k_asm) _ (by k_extra "my sub") off0 trivial ⟨rfl, _, ksk_snoc hIq, fit_yes hFit ((fitF h0 hcl hl1).mp (by with_reducible assumption))⟩
      · exact LCg.CompEnd.intro (by k_asm) (by k_asm) _ (by k_extra "my sub") off0 trivial ⟨rfl, _, hIq, fit_no hFit (fun q => by have := (fitF h0 hcl hl1).mpr q; simp_all)⟩
    · rintro js nw ⟨rfl, qs, hIq, hFit⟩
      have hq5 : qs.length ≤ 5 := Nat.le_trans hFit.1 hn5
      intro E6 h7 tk7 F9 N9 o7
      subst hnw
      dsimp only
      k_extra "my upto2 CompSrc"
      · with_reducible rename 0 < _ => hqp
        have hq0 : 0 < qs.length := by k_extra "my num"
        have hjl := hIq.length
        obtain ⟨nw1, hnw, N5⟩ := news_name N9
        refine LCg.CompSrc.ledger (its := js.toArray) (by exact rfl) F9 N5 (by rw [hnw]; k_mem) (by rw [sizeLine_eq, List.size_toArray]; omega) ?_
        intro g8
        refine comp_inv (fun i ys nw => ∃ tps, nw = nw1 ++ tps ∧ TupI es qs ys i tps) ?_ ?_ ?_
        · exact ⟨[], (List.append_nil _).symm, tupI_zero _ _⟩
        · rintro i v ys nw I oI C oC D2 m2 h8 tk8 E3 hi hv ⟨tps, rfl, hTI⟩ hC hm2 F8 N8 off ⟨neIC, neID, neCD⟩
          have off0 := off
          rw [hnw] at N8 off
          simp only [List.cons_append] at N8 off
          (try k_fold)
          obtain ⟨tv, rfl⟩ := ints_at hIq (show js[i]? = some v by simpa using hv)
          obtain ⟨hqa, hqb⟩ := fit_at hFit (i := i) (by rw [List.size_toArray] at hi; omega)
          have hz3 := hl3 (qs.getD i 0).toNat
          k_extra "my steps"
          with_reducible rename I < _ ∧ _ => lT
          exact tup_turn (by k_asm) (by k_asm) (by rw [hnw]; rfl) lT.1 lT.2.1 lT.2.2.1 off0 (fun q => .inr ⟨_, List.mem_append_left _ (by rw [hnw]; k_mem), rfl, _, rfl⟩) hTI
        · rintro ys nw ⟨tps, rfl, hTI⟩
          rw [List.size_toArray, hjl] at hTI
          intro D2 h8 tk8 F8 N8 o8
          rw [hnw] at N8
          simp only [List.cons_append] at N8
          dsimp only
          k_extra "my upto2 CompSrc"
          refine max_tup (ks := qs.map fun q => ((es.getD q.toNat Str.empty).length : Int)) (ds := fun j => qs.getD j 0 + 1) (by (k_extra "my units")) (by exact rfl) F8 N8 (by k_mem) (tupI_end hTI (fun p hp => by k_extra "my tail")) (by rw [List.length_map]; exact hq0) (fit_up hRi hFit) ?_
          intro aT tT uT h9 tk9 hmT F9 N9
          rw [fitL_last hq0, List.length_map] at hmT
          (try dsimp only at hmT)
          have hqa := fit_at hFit (i := qs.length - 1) (by k_extra "my num")
          have hz3 := hl3 (qs.getD (qs.length - 1) 0).toNat
          (try dsimp only)
          k_dflt (refine' unpackN_ F9 N9 (News.isTup N9 hmT) ?k4 ?k5 ?k6 ?_; (case k4 => exact rfl); (case k5 => exact rfl); (case k6 => exact rfl); k_whole)
          intro h10 F10 N10
          have N11 : News g1 L1 h10 nw1 := fun p hp => N10 p (by
            rw [hnw] at hp
            revert p
            k_extra "my sub")
          rw [hnw] at N11
          clear hmT N10 N9 N8 o8 hTI
          (try dsimp only)
          have hF2 : FitL (entL es) (cutL x c l) es.length qs := hFit
          k_extra "my steps"
          obtain ⟨e1, e2⟩ := found_some hRi2 hF2 hq0 e0'
          have e4 := fit_le hF2 (i := qs.length - 1) (by k_extra "my num")
          have e5 := cutL_len h0 hcl hl1
          rw [show (entL es (qs.getD (qs.length - 1) 0).toNat).length = (es.getD (qs.getD (qs.length - 1) 0).toNat Str.empty).length from len_toList _] at e2 e4
          have e3 : o1' = c + ((es.getD (qs.getD (qs.length - 1) 0).toNat Str.empty).length : Int) := by k_extra "my num"
          subst e3
          rw [e1, beq_self_eq_true]
          with_reducible rename Fr h₀ L _ _ => kF
          with_reducible rename News h₀ L _ _ => kN
          exact hret (c + ((es.getD (qs.getD (qs.length - 1) 0).toNat Str.empty).length : Int)) tc2 sd2 _ _ _ _ _ _ _ _ _ _ _ _ t12 t22 _ _ kF (news5 kN (by k_mem) (by k_mem) (by k_mem) (by k_mem) (by k_mem) (fun p hp => by have hqp := hsubR p hp; k_extra "my tail")) (by k_extra "my num") (by k_extra "my num") (by k_extra "my num") (by k_extra "my num") hsd0 hsd1
      · have hF2 : FitL (entL es) (cutL x c l) es.length qs := hFit
        k_extra "my steps"
        obtain ⟨e1, e2⟩ := found_zero hF2 (by k_extra "my num") e0'
        have e3 : o1' = c + 0 := by k_extra "my num"
        subst e3
        rw [e1, beq_self_eq_true]
        with_reducible rename Fr h₀ L _ _ => kF
        with_reducible rename News h₀ L _ _ => kN
        exact hret (c + 0) tc2 sd2 _ _ _ _ _ _ _ _ _ _ _ _ t12 t22 _ _ kF (news5 kN (by k_mem) (by k_mem) (by k_mem) (by k_mem) (by k_mem) (fun p hp => by have hqp := hsubR p hp; k_extra "my tail")) (by k_extra "my num") (by k_extra "my num") (by k_extra "my num") (by k_extra "my num") hsd0 hsd1
 ) (by exact Nat) _))
theorem slice_to_all {x : Str} {j : Int} (h : (x.length : Int) ≤ j) : Txt.slice x none (some j) = x := by
  have e2 : Txt.slice x none (some j) = Txt.slice x none (some (x.length : Int)) := by
    unfold Txt.slice
    have : Builtin.Str.strSliceIndices none (some j) 1 x.length = Builtin.Str.strSliceIndices none (some (x.length : Int)) 1 x.length := by
      have h0 : ¬ j < 0 := by omega
      have h1 : ¬ ((x.length : Int) < 0) := by omega
      have h2 : (1 : Int) > 0 := by decide
      simp only [Builtin.Str.strSliceIndices, h0, h1, h2, if_false, if_true, Int.min_eq_right h, Int.min_self]
    rw [this]
  rw [e2, slice_ns (by omega) (Int.le_refl _), Int.toNat_natCast, List.take_of_length_le (by rw [len_toList]; exact Nat.le_refl _)]
theorem bool_iff {a b : Bool} (h : a = true ↔ b = true) : a = b := by cases a <;> cases b <;> simp_all
theorem eq_starts {y g : Str} : (Txt.slice y none (some (g.length : Int)) == g) = Txt.startswith y g := by
  refine bool_iff ?_
  rw [starts_fits, beq_iff_eq]
  have hy := len_toList y
  have hg := len_toList g
  rcases Nat.lt_or_ge y.length g.length with q | q
  · rw [slice_to_all (by omega)]
    refine ⟨fun e => absurd (congrArg Str.length e) (by omega), fun f => absurd f.1 (by omega)⟩
  · rw [slice_ns (by omega) (by omega), Int.toNat_natCast]
    refine ⟨fun e => ⟨by omega, Nat.le_refl _, ?_⟩, fun f => ?_⟩
    · have e2 := congrArg (fun z => z.cps.toList) e
      simp only at e2
      rw [hg, e2, List.take_of_length_le (by omega)]
    · have f2 := f.2.2
      rw [hg, List.take_of_length_le (l := g.cps.toList) (by omega)] at f2
      rw [f2]
theorem eq_ends {y g : Str} {d : Int} (hd : (d = y.length - g.length ∧ g.length ≤ y.length) ∨ (d = 0 ∧ y.length ≤ g.length)) : (Txt.slice y (some d) none == g) = Txt.endswith y g := by
  refine bool_iff ?_
  rw [ends_fits, beq_iff_eq]
  have hy := len_toList y
  have hg := len_toList g
  have e0 : Txt.slice y (some d) none = ⟨(y.cps.toList.drop d.toNat).toArray⟩ := slice_sn (by omega) (by omega)
  rw [e0]
  have key : (y.cps.toList.drop d.toNat) = g.cps.toList ↔ Fits y.cps.toList.reverse g.cps.toList.reverse := by
    unfold Fits Sh
    simp only [List.length_reverse, hy, hg, Nat.le_refl, true_and]
    have e1 : g.cps.toList.reverse.take g.length = g.cps.toList.reverse := List.take_of_length_le (by rw [List.length_reverse]; omega)
    rw [e1]
    rcases hd with ⟨h1, h2⟩ | ⟨h1, h2⟩
    · have e2 : y.cps.toList.reverse.take g.length = (y.cps.toList.drop d.toNat).reverse := by
        rw [List.take_reverse, hy]
        congr 2
        omega
      rw [e2, List.reverse_inj]
      exact ⟨fun h => ⟨by omega, h⟩, fun h => h.2⟩
    · subst h1
      simp only [Int.toNat_zero, List.drop_zero]
      constructor
      · intro h
        have hl := congrArg List.length h
        refine ⟨by omega, ?_⟩
        rw [h]; exact e1
      · rintro ⟨h3, h4⟩
        rw [List.take_of_length_le (by rw [List.length_reverse]; omega)] at h4
        exact List.reverse_inj.mp h4
  rw [← key]
  constructor
  · intro e
    have := congrArg (fun z => z.cps.toList) e
    simpa using this
  · intro e; rw [e]


theorem words_jLook_14 : True := by
  k_with_none
  k_with "my own k_all" => first | with_reducible assumption | exact Mine.ne_nil9 | exact Mine.off1_D (by with_reducible assumption) | (refine' Mine.ne_cons9 ?h39209a ?h39209b; (case h39209a => k_ne); (case h39209b => k_all)) | exact Mine.ne_allLt (by with_reducible assumption) | assumption | exact Mine.ne_allLt (by assumption) | exact List.forall_mem_nil _ | (refine' List.forall_mem_cons.mpr ⟨?h39209a, ?h39209b⟩; (case h39209a => k_ne); (case h39209b => k_all))
  k_with "my exec If" => refine wpAny_If ?_
  k_with "my subscriptTail" => (k_here; (with_reducible show wpAny _ _ (subscriptTail _ _ (Value.str _ _) (Value.int _ _)) _ _ _); (refine item_str (fitsSsize_of (N := 9223372036854775808) (by omega) (by omega) (Int.le_refl _)) (by omega) (by omega) ?_); intro _)
  k_with "my subscriptTail" => (k_here; (with_reducible show wpAny _ _ (subscriptTail _ (Expr.Slice none none none _) (Value.str _ _) (Value.ref _)) _ _ _); (with_reducible rename Fr _ _ _ _ => F'); (with_reducible rename News _ _ _ _ => N'); (refine slice_strN_nn_len (hsz := ?he93dfhsz) (s := ⟨_, _, _, _, _⟩) F' N' ?_); (case he93dfhsz => (rw [sizeLine_eq]; omega)); intro _ _ _ _ _ _)
  k_with "my subscriptTail" => (k_here; (with_reducible show wpAny _ _ (subscriptTail _ (Expr.Slice none (some _) none _) (Value.str _ _) (Value.ref _)) _ _ _); (with_reducible rename Fr _ _ _ _ => F'); (with_reducible rename News _ _ _ _ => N'); (refine slice_strN_ns_len (hsz := ?h5ee70hsz) (s := ⟨_, _, _, _, _⟩) F' N' ?_); (case h5ee70hsz => (rw [sizeLine_eq]; omega)); intro _ _ _ _ _ _)
  k_with "my subscriptTail" => (k_here; (with_reducible show wpAny _ _ (subscriptTail _ (Expr.Slice (some _) none none _) (Value.str _ _) (Value.ref _)) _ _ _); (with_reducible rename Fr _ _ _ _ => F'); (with_reducible rename News _ _ _ _ => N'); (refine slice_strN_sn_len (hsz := ?habc6bhsz) (s := ⟨_, _, _, _, _⟩) F' N' ?_); (case habc6bhsz => (rw [sizeLine_eq]; omega)); intro _ _ _ _ _ _)
  k_with "my subscriptTail" => (k_here; (with_reducible show wpAny _ _ (subscriptTail _ (Expr.Slice (some _) (some _) none _) (Value.str _ _) (Value.ref _)) _ _ _); (with_reducible rename Fr _ _ _ _ => F'); (with_reducible rename News _ _ _ _ => N'); (refine slice_strN_ss_len (hsz := ?h78793hsz) (s := ⟨_, _, _, _, _⟩) F' N' ?_); (case h78793hsz => (rw [sizeLine_eq]; omega)); intro _ _ _ _ _ _)
  k_with "my subscriptTail Name Constant ref int" => (k_here; k_dflt (refine' Mine.itemLit_K ?h4db2bzN ?h4db2bzm ?h4db2bz0 ?h4db2bzf ?h4db2bzx ?_ ?h4db2bzs ?h4db2bzg; (case h4db2bzN => k_asm); (case h4db2bzm => k_mem); (case h4db2bz0 => decide); (case h4db2bzf => decide); (case h4db2bzx => exact rfl); (case h4db2bzs => with_unfolding_all rfl); (case h4db2bzg => (intro _; with_unfolding_all rfl)); k_whole))
  k_with "my tail" => first | assumption | exact List.mem_append_left _ (by assumption) | exact List.mem_append_right _ (by assumption) | (refine List.mem_cons_of_mem _ ?_; k_extra "my tail")
  k_with "my sub" => first | exact Mine.all_nil | (refine Mine.all_cons ?h63e88zm ?h63e88zr; (case h63e88zm => k_mem); (case h63e88zr => k_extra "my sub")) | (intro p hp; k_extra "my tail")
  k_with "my own k_in" => first | k_in_fast | (refine' Frag.In.keeps ?hc3b53zX ?hc3b53zF; (case hc3b53zF => (refine' Fr.keep ?hc3b53zG; (case hc3b53zG => with_reducible assumption))); (case hc3b53zX => with_reducible assumption)) | assumption
  k_with "my own k_mem" => ((with_reducible show List.Mem _ _); refine Mine.memL ?_; with_reducible assumption)
  k_with "my onestep" => first | ((with_reducible show wpAny _ _ _ _ _ _); walk1) | (k_unfold; (try dsimp only)) | (with_reducible refine' Mine.seqE_last (by with_reducible assumption) ?_) | (with_reducible refine' Mine.seqE_next (by with_reducible assumption) ?_) | (with_reducible refine' Mine.seqE_ret (by with_reducible assumption) ?_) | (with_reducible refine' Mine.seqE_brk (by with_reducible assumption) ?_) | (with_reducible refine' Mine.seqE_cont (by with_reducible assumption) ?_) | (with_reducible refine Mine.nameQ_end (f := (_ : Flow)) (by with_reducible assumption) ?_) | (k_end; wrow_close) | walk1 | (dsimp only; walk1) | (leave1; walk_say "STEP leave1"; try dsimp only)
  k_with "my upto While" => repeat ((fail_if_success (with_reducible show wpAny _ _ (exec (Stmt.While _ _ _ _) _) _ _ _)); k_extra "my onestep")
  k_with "my upto For" => repeat ((fail_if_success (with_reducible show wpAny _ _ (exec (Stmt.For _ _ _ _ _) _) _ _ _)); k_extra "my onestep")
  k_with "my upto iter" => repeat ((fail_if_success (with_reducible show wpAny _ _ (pyIter _) _ _ _)); k_extra "my onestep")
  k_with "my MwPost" => (dsimp only [Mine.MwPost])
  k_with "my noend" => ((fail_if_success (with_reducible show InvEndN _ _ _ _ _ _ _)); (fail_if_success (with_reducible show Mine.CutPost _ _ _ _ _ _ _ _)); (fail_if_success (with_reducible show Mine.MwEnd _ _ _ _ _ _ _ _ _)); (fail_if_success (with_reducible show LCg.CompEnd _ _ _ _ _ _ _ _ _ _ _ _ _ _)); (fail_if_success (with_reducible show KswEnd _ _ _ _ _ _ _ _ _ _ _ _)))
  k_with "my steps" => repeat' (first | ((with_reducible show wpAny _ _ _ _ _ _); walk1) | (k_extra "my noend"; k_extra "my onestep"))
  k_with "my upto CompSrc" => repeat ((fail_if_success (with_reducible show LCg.CompSrc _ _ _ _ _ _ _ _ _ _ _ _ _ _)); (fail_if_success (with_reducible show LCt.CompSrcT _ _ _ _ _ _ _ _ _ _ _ _ _ _ _)); k_extra "my onestep")
  k_with "my own k_ne" => first | with_reducible (first | assumption | exact Mine.cjg4 (by with_reducible assumption) | exact Mine.cjg3 (by with_reducible assumption) | exact Ne.symm (by assumption) | exact Mine.gt_ne0 (by assumption) | exact Mine.s_ne1 | exact Mine.r_ne1 | exact Mine.lt_ne1 (by assumption) | exact Mine.gt_ne1 (by assumption) | exact Mine.s_ne2 | exact Mine.r_ne2 | exact Mine.lt_ne2 (by assumption) | exact Mine.gt_ne2 (by assumption) | exact Mine.r_ne3 | exact Mine.lt_ne3 (by assumption) | exact Mine.gt_ne3 (by assumption) | exact Mine.lt_ne4 (by assumption) | exact Mine.gt_ne4 (by assumption)) | exact Mine.off3_i1 (by with_reducible assumption) (by k_mem) | exact Mine.off3_c1 (by with_reducible assumption) (by k_mem) | exact Mine.off3_d1 (by with_reducible assumption) (by k_mem) | exact Mine.off1_d1 (by with_reducible assumption) (by k_mem) | exact Mine.ltm_0 (by with_reducible assumption) (by k_mem) | exact Mine.ltm_1 (by with_reducible assumption) (by k_mem) | exact Mine.nem_1 (by with_reducible assumption) (by k_mem) | with_reducible (first | exact Mine.cjl0 (by with_reducible assumption) | exact Mine.cjl1 (by with_reducible assumption) | exact Mine.cjg1 (by with_reducible assumption) | exact Mine.cjl2e (by with_reducible assumption) | exact Mine.cjg2 (by with_reducible assumption) | exact Mine.cjg3 (by with_reducible assumption) | exact Mine.cjg4 (by with_reducible assumption) | exact Mine.cjg6 (by with_reducible assumption) | exact Mine.cjg7 (by with_reducible assumption)) | (refine neN ?_; (try dsimp only); first | omega (config := { splitDisjunctions := false }) | (walk_say "NECONJ"; (repeat (with_reducible rename _ ∧ _ => hcj; obtain ⟨_, _⟩ := hcj)); first | with_reducible assumption | (refine Ne.symm ?_; with_reducible assumption)))
  k_with "my kall1" => first | exact Mine.all_nil | (refine Mine.all_cons ?h6bfabzm ?h6bfabzr; (case h6bfabzm => with_unfolding_all (first | (k_whole; exact Eq.refl (some _)) | rfl)); (case h6bfabzr => k_extra "my kall1"))
  k_with "my kall" => first | (k_whole; k_extra "my kall1") | ((try dsimp only) <;> (k_extra "my kall1"))
  k_with "my cut" => repeat (obtain ⟨hcA, hcj⟩ : _ ∧ _ := hcj; (try (obtain ⟨_, hcA⟩ : _ ∧ _ := hcA; (try (obtain ⟨_, _⟩ : _ ∧ _ := hcA)))))
  k_with "my room" => first | with_reducible assumption | exact Mine.off2 (by with_reducible assumption) (by exact Eq.refl true) | ktr_room
  k_with "my units" => first | with_reducible assumption | exact Mine.off2 (by with_reducible assumption) (by exact Eq.refl true) | ktr_units
  k_with "my num" => first | (k_whole; with_reducible (first | assumption | (show (_ : Int) < _; first | exact Mine.nm_b (by with_reducible assumption) (by with_unfolding_all exact Eq.refl true) | exact Mine.nm_a (by with_reducible assumption) (by with_unfolding_all exact Eq.refl true) | exact Mine.nc_a (by with_reducible assumption) (by with_unfolding_all exact Eq.refl true) | exact Mine.no_a4 (by with_reducible assumption) (by with_unfolding_all exact Eq.refl true) | exact Mine.no_a3 (by with_reducible assumption) (by with_unfolding_all exact Eq.refl true) | exact Mine.no_a2 (by with_reducible assumption) (by with_unfolding_all exact Eq.refl true) | exact Mine.no_a1 (by with_reducible assumption) (by with_unfolding_all exact Eq.refl true)) | (show (_ : Int) ≤ _; first | exact Mine.no_c2 (by with_reducible assumption) (by with_unfolding_all exact Eq.refl true) | exact Mine.no_e2 (by with_unfolding_all exact Eq.refl true) | exact Mine.nm_e (by with_reducible assumption) (by with_unfolding_all exact Eq.refl true) | exact Mine.nm_c (by with_reducible assumption) (by with_unfolding_all exact Eq.refl true) | exact Mine.nc_c (by with_reducible assumption) (by with_unfolding_all exact Eq.refl true) | exact Mine.nc_e (by with_unfolding_all exact Eq.refl true) | exact Mine.nz_e (by with_unfolding_all exact Eq.refl true) | exact Mine.no_c5 (by with_reducible assumption) (by with_unfolding_all exact Eq.refl true) | exact Mine.no_c4 (by with_reducible assumption) (by with_unfolding_all exact Eq.refl true) | exact Mine.no_c3 (by with_reducible assumption) (by with_unfolding_all exact Eq.refl true) | exact Mine.no_c1 (by with_reducible assumption) (by with_unfolding_all exact Eq.refl true) | exact Mine.no_e5 (by with_unfolding_all exact Eq.refl true) | exact Mine.no_e4 (by with_unfolding_all exact Eq.refl true) | exact Mine.no_e3 (by with_unfolding_all exact Eq.refl true) | exact Mine.no_g3 (by with_reducible assumption) (by with_unfolding_all exact Eq.refl true) | exact Mine.no_g2 (by with_reducible assumption) (by with_unfolding_all exact Eq.refl true) | exact Mine.no_g1 (by with_reducible assumption) (by with_unfolding_all exact Eq.refl true)) | (show (_ : Nat) < _; first | exact Mine.nn_b (by with_reducible assumption) (by with_unfolding_all exact Eq.refl true)) | (show (_ : Nat) ≤ _; first | exact Mine.nn_c (by with_reducible assumption) (by with_unfolding_all exact Eq.refl true) | exact Mine.nle_1 | exact Mine.nle_2 | exact Mine.nle_3 | exact Mine.nle_4))) | (decide +kernel) | omega
  k_with "my ev name" => first | (refine' Mine.ev_L ?h6e1a0F ?h6e1a0k ?h6e1a0x ?h6e1a0v ?h6e1a0d; (case h6e1a0x => rfl); (case h6e1a0F => k_asm); (case h6e1a0k => first | exact rfl | assumption); (case h6e1a0v => exact Eq.refl (some _)); (case h6e1a0d => decide)) | (refine' Mine.ev_C ?h6e1a0N ?h6e1a0k ?h6e1a0x ?h6e1a0c ?h6e1a0m ?h6e1a0o ?h6e1a0d; (case h6e1a0k => first | exact rfl | assumption); (case h6e1a0x => rfl); (case h6e1a0N => k_asm); (case h6e1a0c => rfl); (case h6e1a0m => k_mem); (case h6e1a0o => k_asm); (case h6e1a0d => decide))
  k_with "my ev0" => first | (with_reducible exact Mine.ev_int) | ((with_reducible refine' Mine.ev_L ?h84e4cF ?h84e4ck ?h84e4cx ?h84e4cv ?h84e4cd); (case h84e4cx => rfl); (case h84e4cF => k_asm); (case h84e4ck => first | exact rfl | assumption); (case h84e4cv => exact Eq.refl (some _)); (case h84e4cd => decide)) | ((with_reducible refine' Mine.ev_attr ?h84e4cF ?h84e4cX ?h84e4cH ?h84e4cI ?h84e4cg ?h84e4ch ?h84e4ca ?h84e4cn ?h84e4cl ?h84e4cv); (case h84e4cF => k_asm); (case h84e4cX => k_asm); (case h84e4cH => k_extra "my ev name"); (case h84e4cI => k_inst); (case h84e4cg => k_is); (case h84e4ch => k_is); (case h84e4ca => k_is); (case h84e4cn => k_is); (case h84e4cl => k_get); (case h84e4cv => k_handed)) | ((with_reducible refine' Mine.ev_item ?h84e4cN ?h84e4cH ?h84e4cm ?h84e4cz ?h84e4cx); (case h84e4cN => k_asm); (case h84e4cH => k_extra "my ev name"); (case h84e4cm => k_mem); (case h84e4cz => exact rfl); (case h84e4cx => exact rfl)) | ((with_reducible refine' Mine.ev_add ?h84e4cx ?h84e4cy); (case h84e4cx => k_extra "my ev1"); (case h84e4cy => k_extra "my ev1")) | ((with_reducible refine' Mine.ev_sub ?h84e4cx ?h84e4cy); (case h84e4cx => k_extra "my ev1"); (case h84e4cy => k_extra "my ev1")) | ((with_reducible refine' Mine.ev_eq ?h84e4cx ?h84e4cy ?h84e4cz); (case h84e4cx => k_extra "my ev1"); (case h84e4cy => k_extra "my ev1"); (case h84e4cz => with_unfolding_all rfl)) | ((with_reducible refine' Mine.ev_ne ?h84e4cx ?h84e4cy ?h84e4cz); (case h84e4cx => k_extra "my ev1"); (case h84e4cy => k_extra "my ev1"); (case h84e4cz => with_unfolding_all rfl)) | ((with_reducible refine' Mine.ev_lt ?h84e4cx ?h84e4cy ?h84e4cz); (case h84e4cx => k_extra "my ev1"); (case h84e4cy => k_extra "my ev1"); (case h84e4cz => with_unfolding_all rfl)) | ((with_reducible refine' Mine.ev_le ?h84e4cx ?h84e4cy ?h84e4cz); (case h84e4cx => k_extra "my ev1"); (case h84e4cy => k_extra "my ev1"); (case h84e4cz => with_unfolding_all rfl)) | ((with_reducible refine' Mine.ev_gt ?h84e4cx ?h84e4cy ?h84e4cz); (case h84e4cx => k_extra "my ev1"); (case h84e4cy => k_extra "my ev1"); (case h84e4cz => with_unfolding_all rfl)) | ((with_reducible refine' Mine.ev_ge ?h84e4cx ?h84e4cy ?h84e4cz); (case h84e4cx => k_extra "my ev1"); (case h84e4cy => k_extra "my ev1"); (case h84e4cz => with_unfolding_all rfl)) | ((with_reducible refine' Mine.ev_C ?h84e4cN ?h84e4ck ?h84e4cx ?h84e4cc ?h84e4cm ?h84e4co ?h84e4cd); (case h84e4cx => rfl); (case h84e4ck => first | exact rfl | assumption); (case h84e4cN => k_asm); (case h84e4cc => rfl); (case h84e4cm => k_mem); (case h84e4co => k_asm); (case h84e4cd => decide)) | (with_reducible exact Mine.ev_str) | (with_reducible exact Mine.ev_bool) | (with_reducible exact Mine.ev_none)
  k_with "my ev1" => first | (with_reducible exact Mine.ev_int) | ((with_reducible refine' Mine.ev_L ?h1cd45F ?h1cd45k ?h1cd45x ?h1cd45v ?h1cd45d); (case h1cd45x => rfl); (case h1cd45F => k_asm); (case h1cd45k => first | exact rfl | assumption); (case h1cd45v => exact Eq.refl (some _)); (case h1cd45d => decide)) | ((with_reducible refine' Mine.ev_attr ?h1cd45F ?h1cd45X ?h1cd45H ?h1cd45I ?h1cd45g ?h1cd45h ?h1cd45a ?h1cd45n ?h1cd45l ?h1cd45v); (case h1cd45F => k_asm); (case h1cd45X => k_asm); (case h1cd45H => k_extra "my ev name"); (case h1cd45I => k_inst); (case h1cd45g => k_is); (case h1cd45h => k_is); (case h1cd45a => k_is); (case h1cd45n => k_is); (case h1cd45l => k_get); (case h1cd45v => k_handed)) | ((with_reducible refine' Mine.ev_item ?h1cd45N ?h1cd45H ?h1cd45m ?h1cd45z ?h1cd45x); (case h1cd45N => k_asm); (case h1cd45H => k_extra "my ev name"); (case h1cd45m => k_mem); (case h1cd45z => exact rfl); (case h1cd45x => exact rfl)) | ((with_reducible refine' Mine.ev_add ?h1cd45x ?h1cd45y); (case h1cd45x => k_extra "my ev2"); (case h1cd45y => k_extra "my ev2")) | ((with_reducible refine' Mine.ev_sub ?h1cd45x ?h1cd45y); (case h1cd45x => k_extra "my ev2"); (case h1cd45y => k_extra "my ev2")) | ((with_reducible refine' Mine.ev_eq ?h1cd45x ?h1cd45y ?h1cd45z); (case h1cd45x => k_extra "my ev2"); (case h1cd45y => k_extra "my ev2"); (case h1cd45z => with_unfolding_all rfl)) | ((with_reducible refine' Mine.ev_ne ?h1cd45x ?h1cd45y ?h1cd45z); (case h1cd45x => k_extra "my ev2"); (case h1cd45y => k_extra "my ev2"); (case h1cd45z => with_unfolding_all rfl)) | ((with_reducible refine' Mine.ev_lt ?h1cd45x ?h1cd45y ?h1cd45z); (case h1cd45x => k_extra "my ev2"); (case h1cd45y => k_extra "my ev2"); (case h1cd45z => with_unfolding_all rfl)) | ((with_reducible refine' Mine.ev_le ?h1cd45x ?h1cd45y ?h1cd45z); (case h1cd45x => k_extra "my ev2"); (case h1cd45y => k_extra "my ev2"); (case h1cd45z => with_unfolding_all rfl)) | ((with_reducible refine' Mine.ev_gt ?h1cd45x ?h1cd45y ?h1cd45z); (case h1cd45x => k_extra "my ev2"); (case h1cd45y => k_extra "my ev2"); (case h1cd45z => with_unfolding_all rfl)) | ((with_reducible refine' Mine.ev_ge ?h1cd45x ?h1cd45y ?h1cd45z); (case h1cd45x => k_extra "my ev2"); (case h1cd45y => k_extra "my ev2"); (case h1cd45z => with_unfolding_all rfl)) | ((with_reducible refine' Mine.ev_C ?h1cd45N ?h1cd45k ?h1cd45x ?h1cd45c ?h1cd45m ?h1cd45o ?h1cd45d); (case h1cd45x => rfl); (case h1cd45k => first | exact rfl | assumption); (case h1cd45N => k_asm); (case h1cd45c => rfl); (case h1cd45m => k_mem); (case h1cd45o => k_asm); (case h1cd45d => decide)) | (with_reducible exact Mine.ev_str) | (with_reducible exact Mine.ev_bool) | (with_reducible exact Mine.ev_none)
  k_with "my ev2" => first | (with_reducible exact Mine.ev_int) | ((with_reducible refine' Mine.ev_L ?hdef3bF ?hdef3bk ?hdef3bx ?hdef3bv ?hdef3bd); (case hdef3bx => rfl); (case hdef3bF => k_asm); (case hdef3bk => first | exact rfl | assumption); (case hdef3bv => exact Eq.refl (some _)); (case hdef3bd => decide)) | ((with_reducible refine' Mine.ev_attr ?hdef3bF ?hdef3bX ?hdef3bH ?hdef3bI ?hdef3bg ?hdef3bh ?hdef3ba ?hdef3bn ?hdef3bl ?hdef3bv); (case hdef3bF => k_asm); (case hdef3bX => k_asm); (case hdef3bH => k_extra "my ev name"); (case hdef3bI => k_inst); (case hdef3bg => k_is); (case hdef3bh => k_is); (case hdef3ba => k_is); (case hdef3bn => k_is); (case hdef3bl => k_get); (case hdef3bv => k_handed)) | ((with_reducible refine' Mine.ev_item ?hdef3bN ?hdef3bH ?hdef3bm ?hdef3bz ?hdef3bx); (case hdef3bN => k_asm); (case hdef3bH => k_extra "my ev name"); (case hdef3bm => k_mem); (case hdef3bz => exact rfl); (case hdef3bx => exact rfl)) | ((with_reducible refine' Mine.ev_add ?hdef3bx ?hdef3by); (case hdef3bx => k_extra "my ev3"); (case hdef3by => k_extra "my ev3")) | ((with_reducible refine' Mine.ev_sub ?hdef3bx ?hdef3by); (case hdef3bx => k_extra "my ev3"); (case hdef3by => k_extra "my ev3")) | ((with_reducible refine' Mine.ev_eq ?hdef3bx ?hdef3by ?hdef3bz); (case hdef3bx => k_extra "my ev3"); (case hdef3by => k_extra "my ev3"); (case hdef3bz => with_unfolding_all rfl)) | ((with_reducible refine' Mine.ev_ne ?hdef3bx ?hdef3by ?hdef3bz); (case hdef3bx => k_extra "my ev3"); (case hdef3by => k_extra "my ev3"); (case hdef3bz => with_unfolding_all rfl)) | ((with_reducible refine' Mine.ev_lt ?hdef3bx ?hdef3by ?hdef3bz); (case hdef3bx => k_extra "my ev3"); (case hdef3by => k_extra "my ev3"); (case hdef3bz => with_unfolding_all rfl)) | ((with_reducible refine' Mine.ev_le ?hdef3bx ?hdef3by ?hdef3bz); (case hdef3bx => k_extra "my ev3"); (case hdef3by => k_extra "my ev3"); (case hdef3bz => with_unfolding_all rfl)) | ((with_reducible refine' Mine.ev_gt ?hdef3bx ?hdef3by ?hdef3bz); (case hdef3bx => k_extra "my ev3"); (case hdef3by => k_extra "my ev3"); (case hdef3bz => with_unfolding_all rfl)) | ((with_reducible refine' Mine.ev_ge ?hdef3bx ?hdef3by ?hdef3bz); (case hdef3bx => k_extra "my ev3"); (case hdef3by => k_extra "my ev3"); (case hdef3bz => with_unfolding_all rfl)) | ((with_reducible refine' Mine.ev_C ?hdef3bN ?hdef3bk ?hdef3bx ?hdef3bc ?hdef3bm ?hdef3bo ?hdef3bd); (case hdef3bx => rfl); (case hdef3bk => first | exact rfl | assumption); (case hdef3bN => k_asm); (case hdef3bc => rfl); (case hdef3bm => k_mem); (case hdef3bo => k_asm); (case hdef3bd => decide)) | (with_reducible exact Mine.ev_str) | (with_reducible exact Mine.ev_bool) | (with_reducible exact Mine.ev_none)
  k_with "my ev3" => first | (with_reducible exact Mine.ev_int) | ((with_reducible refine' Mine.ev_L ?h1a33cF ?h1a33ck ?h1a33cx ?h1a33cv ?h1a33cd); (case h1a33cx => rfl); (case h1a33cF => k_asm); (case h1a33ck => first | exact rfl | assumption); (case h1a33cv => exact Eq.refl (some _)); (case h1a33cd => decide)) | ((with_reducible refine' Mine.ev_attr ?h1a33cF ?h1a33cX ?h1a33cH ?h1a33cI ?h1a33cg ?h1a33ch ?h1a33ca ?h1a33cn ?h1a33cl ?h1a33cv); (case h1a33cF => k_asm); (case h1a33cX => k_asm); (case h1a33cH => k_extra "my ev name"); (case h1a33cI => k_inst); (case h1a33cg => k_is); (case h1a33ch => k_is); (case h1a33ca => k_is); (case h1a33cn => k_is); (case h1a33cl => k_get); (case h1a33cv => k_handed)) | ((with_reducible refine' Mine.ev_item ?h1a33cN ?h1a33cH ?h1a33cm ?h1a33cz ?h1a33cx); (case h1a33cN => k_asm); (case h1a33cH => k_extra "my ev name"); (case h1a33cm => k_mem); (case h1a33cz => exact rfl); (case h1a33cx => exact rfl)) | ((with_reducible refine' Mine.ev_add ?h1a33cx ?h1a33cy); (case h1a33cx => k_extra "my ev4"); (case h1a33cy => k_extra "my ev4")) | ((with_reducible refine' Mine.ev_sub ?h1a33cx ?h1a33cy); (case h1a33cx => k_extra "my ev4"); (case h1a33cy => k_extra "my ev4")) | ((with_reducible refine' Mine.ev_eq ?h1a33cx ?h1a33cy ?h1a33cz); (case h1a33cx => k_extra "my ev4"); (case h1a33cy => k_extra "my ev4"); (case h1a33cz => with_unfolding_all rfl)) | ((with_reducible refine' Mine.ev_ne ?h1a33cx ?h1a33cy ?h1a33cz); (case h1a33cx => k_extra "my ev4"); (case h1a33cy => k_extra "my ev4"); (case h1a33cz => with_unfolding_all rfl)) | ((with_reducible refine' Mine.ev_lt ?h1a33cx ?h1a33cy ?h1a33cz); (case h1a33cx => k_extra "my ev4"); (case h1a33cy => k_extra "my ev4"); (case h1a33cz => with_unfolding_all rfl)) | ((with_reducible refine' Mine.ev_le ?h1a33cx ?h1a33cy ?h1a33cz); (case h1a33cx => k_extra "my ev4"); (case h1a33cy => k_extra "my ev4"); (case h1a33cz => with_unfolding_all rfl)) | ((with_reducible refine' Mine.ev_gt ?h1a33cx ?h1a33cy ?h1a33cz); (case h1a33cx => k_extra "my ev4"); (case h1a33cy => k_extra "my ev4"); (case h1a33cz => with_unfolding_all rfl)) | ((with_reducible refine' Mine.ev_ge ?h1a33cx ?h1a33cy ?h1a33cz); (case h1a33cx => k_extra "my ev4"); (case h1a33cy => k_extra "my ev4"); (case h1a33cz => with_unfolding_all rfl)) | ((with_reducible refine' Mine.ev_C ?h1a33cN ?h1a33ck ?h1a33cx ?h1a33cc ?h1a33cm ?h1a33co ?h1a33cd); (case h1a33cx => rfl); (case h1a33ck => first | exact rfl | assumption); (case h1a33cN => k_asm); (case h1a33cc => rfl); (case h1a33cm => k_mem); (case h1a33co => k_asm); (case h1a33cd => decide)) | (with_reducible exact Mine.ev_str) | (with_reducible exact Mine.ev_bool) | (with_reducible exact Mine.ev_none)
  k_with "my ev4" => first | (with_reducible exact Mine.ev_int) | ((with_reducible refine' Mine.ev_L ?hb89ebF ?hb89ebk ?hb89ebx ?hb89ebv ?hb89ebd); (case hb89ebx => rfl); (case hb89ebF => k_asm); (case hb89ebk => first | exact rfl | assumption); (case hb89ebv => exact Eq.refl (some _)); (case hb89ebd => decide)) | ((with_reducible refine' Mine.ev_attr ?hb89ebF ?hb89ebX ?hb89ebH ?hb89ebI ?hb89ebg ?hb89ebh ?hb89eba ?hb89ebn ?hb89ebl ?hb89ebv); (case hb89ebF => k_asm); (case hb89ebX => k_asm); (case hb89ebH => k_extra "my ev name"); (case hb89ebI => k_inst); (case hb89ebg => k_is); (case hb89ebh => k_is); (case hb89eba => k_is); (case hb89ebn => k_is); (case hb89ebl => k_get); (case hb89ebv => k_handed)) | ((with_reducible refine' Mine.ev_item ?hb89ebN ?hb89ebH ?hb89ebm ?hb89ebz ?hb89ebx); (case hb89ebN => k_asm); (case hb89ebH => k_extra "my ev name"); (case hb89ebm => k_mem); (case hb89ebz => exact rfl); (case hb89ebx => exact rfl)) | ((with_reducible refine' Mine.ev_add ?hb89ebx ?hb89eby); (case hb89ebx => k_extra "my ev5"); (case hb89eby => k_extra "my ev5")) | ((with_reducible refine' Mine.ev_sub ?hb89ebx ?hb89eby); (case hb89ebx => k_extra "my ev5"); (case hb89eby => k_extra "my ev5")) | ((with_reducible refine' Mine.ev_eq ?hb89ebx ?hb89eby ?hb89ebz); (case hb89ebx => k_extra "my ev5"); (case hb89eby => k_extra "my ev5"); (case hb89ebz => with_unfolding_all rfl)) | ((with_reducible refine' Mine.ev_ne ?hb89ebx ?hb89eby ?hb89ebz); (case hb89ebx => k_extra "my ev5"); (case hb89eby => k_extra "my ev5"); (case hb89ebz => with_unfolding_all rfl)) | ((with_reducible refine' Mine.ev_lt ?hb89ebx ?hb89eby ?hb89ebz); (case hb89ebx => k_extra "my ev5"); (case hb89eby => k_extra "my ev5"); (case hb89ebz => with_unfolding_all rfl)) | ((with_reducible refine' Mine.ev_le ?hb89ebx ?hb89eby ?hb89ebz); (case hb89ebx => k_extra "my ev5"); (case hb89eby => k_extra "my ev5"); (case hb89ebz => with_unfolding_all rfl)) | ((with_reducible refine' Mine.ev_gt ?hb89ebx ?hb89eby ?hb89ebz); (case hb89ebx => k_extra "my ev5"); (case hb89eby => k_extra "my ev5"); (case hb89ebz => with_unfolding_all rfl)) | ((with_reducible refine' Mine.ev_ge ?hb89ebx ?hb89eby ?hb89ebz); (case hb89ebx => k_extra "my ev5"); (case hb89eby => k_extra "my ev5"); (case hb89ebz => with_unfolding_all rfl)) | ((with_reducible refine' Mine.ev_C ?hb89ebN ?hb89ebk ?hb89ebx ?hb89ebc ?hb89ebm ?hb89ebo ?hb89ebd); (case hb89ebx => rfl); (case hb89ebk => first | exact rfl | assumption); (case hb89ebN => k_asm); (case hb89ebc => rfl); (case hb89ebm => k_mem); (case hb89ebo => k_asm); (case hb89ebd => decide)) | (with_reducible exact Mine.ev_str) | (with_reducible exact Mine.ev_bool) | (with_reducible exact Mine.ev_none)
  k_with "my evs" => first | (with_reducible exact Mine.evs_nil) | ((with_reducible refine' Mine.evs_cons ?h3ebe4x ?h3ebe4y ?h3ebe4z); (case h3ebe4x => k_extra "my ev0"); (case h3ebe4y => k_extra "my evs"); (case h3ebe4z => rfl))
  k_with "my execs cons" => (k_here; (try ((first | (with_reducible show wpAny _ _ _ (Mine.MwPost _ _ _ _ _ _ _ _ _) _ _) | (with_reducible show wpAny _ _ _ (Mine.MrPost _ _ _ _ _ _ _ _ _) _ _) | (with_reducible show wpAny _ _ _ (InvPostN _ _ _ _ _ _ _) _ _) | (with_reducible show wpAny _ _ _ (KswPost _ _ _ _ _ _ _ _ _ _ _ _) _ _)); refine Mine.nameQ ?_; intro Qn hQn)); (with_reducible refine Mine.execs_seqE ?_); intro Qk hQk)
  k_with "my eval Name" => (k_here; k_dflt (first | (refine' nameX_L ?hfde63F ?hfde63v ?_ ?hfde63a ?hfde63b; (case hfde63b => rfl); (case hfde63F => k_asm); (case hfde63a => rfl); (case hfde63v => exact Eq.refl (some _)); k_whole) | (refine' nameX_K ?hfde63F ?hfde63X ?hfde63T ?hfde63e ?_ ?hfde63a ?hfde63b; (case hfde63b => rfl); (case hfde63F => k_asm); (case hfde63X => k_asm); (case hfde63T => k_asm); (case hfde63a => rfl); (case hfde63e => k_is); k_whole) | (refine' nameX_B ?hfde63F ?hfde63X ?hfde63T ?hfde63e ?hfde63v ?hfde63n ?_ ?hfde63a ?hfde63b; (case hfde63b => rfl); (case hfde63F => k_asm); (case hfde63X => k_asm); (case hfde63T => k_asm); (case hfde63a => rfl); (case hfde63e => k_is); (case hfde63v => boot_fast); (case hfde63n => decide); k_whole)))
  k_with "my eval BinOp" => (k_here; k_dflt (refine' Mine.ev_use ?hcbeddu ?_; (case hcbeddu => k_extra "my ev0"); k_whole); (try dsimp only))
  k_with "my eval Compare" => (k_here; k_dflt (refine' Mine.ev_use ?h28b78u ?_; (case h28b78u => k_extra "my ev0"); k_whole); (try dsimp only))
  k_with "my eval Subscript" => (k_here; k_dflt (refine' Mine.ev_use ?h772c3u ?_; (case h772c3u => k_extra "my ev0"); k_whole); (try dsimp only))
  k_with "my eval Attribute Name" => (k_here; k_dflt (refine' Mine.ev_use ?he290du ?_; (case he290du => k_extra "my ev0"); k_whole); (try dsimp only))
  k_with "my spliced" => (k_here; (with_reducible show wpAny _ _ (spliced (backTo _ (starEach (_ :: _) _))) _ _ _); k_dflt (refine' Mine.evs_use ?hf8b0eu ?_; (case hf8b0eu => k_extra "my evs"); k_whole); (try dsimp only))
  k_with "my isTrue Compare" => (k_here; k_dflt (first | ((with_reducible refine' Mine.ist_eq ?hdb5ccx ?hdb5ccy ?hdb5ccz ?_); (case hdb5ccx => k_extra "my ev0"); (case hdb5ccy => k_extra "my ev0"); (case hdb5ccz => with_unfolding_all rfl); k_whole) | ((with_reducible refine' Mine.ist_ne ?hdb5ccx ?hdb5ccy ?hdb5ccz ?_); (case hdb5ccx => k_extra "my ev0"); (case hdb5ccy => k_extra "my ev0"); (case hdb5ccz => with_unfolding_all rfl); k_whole) | ((with_reducible refine' Mine.ist_lt ?hdb5ccx ?hdb5ccy ?hdb5ccz ?_); (case hdb5ccx => k_extra "my ev0"); (case hdb5ccy => k_extra "my ev0"); (case hdb5ccz => with_unfolding_all rfl); k_whole) | ((with_reducible refine' Mine.ist_le ?hdb5ccx ?hdb5ccy ?hdb5ccz ?_); (case hdb5ccx => k_extra "my ev0"); (case hdb5ccy => k_extra "my ev0"); (case hdb5ccz => with_unfolding_all rfl); k_whole) | ((with_reducible refine' Mine.ist_gt ?hdb5ccx ?hdb5ccy ?hdb5ccz ?_); (case hdb5ccx => k_extra "my ev0"); (case hdb5ccy => k_extra "my ev0"); (case hdb5ccz => with_unfolding_all rfl); k_whole) | ((with_reducible refine' Mine.ist_ge ?hdb5ccx ?hdb5ccy ?hdb5ccz ?_); (case hdb5ccx => k_extra "my ev0"); (case hdb5ccy => k_extra "my ev0"); (case hdb5ccz => with_unfolding_all rfl); k_whole)); (try dsimp only))
  k_with "my call ref" => (k_here; (with_reducible show wpAny _ _ (call (Value.ref 63) _) _ _ _); k_dflt (refine' Mine.in_grouping_call ?h03145zB ?h03145zF ?h03145zX ?h03145zN ?h03145zT ?h03145zk ?h03145zm ?h03145zU ?h03145zd ?h03145zhx ?h03145zhc0 ?h03145zhcl ?h03145zhl1 ?h03145zhlb ?h03145zhdp ?h03145zhun ?_; (case h03145zB => k_asm); (case h03145zF => k_asm); (case h03145zX => k_asm); (case h03145zN => k_asm); (case h03145zT => k_asm); (case h03145zk => first | exact rfl | assumption); (case h03145zm => k_mem); (case h03145zU => k_updF); (case h03145zd => first | assumption | k_extra "my num"); (case h03145zhx => first | k_extra "my num" | (simp only [List.length_cons] at *; omega)); (case h03145zhc0 => first | k_extra "my num" | (simp only [List.length_cons] at *; omega)); (case h03145zhcl => first | k_extra "my num" | (simp only [List.length_cons] at *; omega)); (case h03145zhl1 => first | k_extra "my num" | (simp only [List.length_cons] at *; omega)); (case h03145zhlb => first | k_extra "my num" | (simp only [List.length_cons] at *; omega)); (case h03145zhdp => k_extra "my room"); (case h03145zhun => k_extra "my units"); k_whole); intro o0' o1' o2' o3' o4' o5' o6' o7' o8' o9' F' N' e0'; (try dsimp only at N'); (try k_sweep); (try dsimp only); (try k_fold))
  k_with "my call ref" => (k_here; (with_reducible show wpAny _ _ (call (Value.ref 70) _) _ _ _); k_dflt (refine' Mine.go_in_grouping_call ?h9b035zB ?h9b035zF ?h9b035zX ?h9b035zN ?h9b035zT ?h9b035zk ?h9b035zm ?h9b035zU ?h9b035zd ?h9b035zhx ?h9b035zhc0 ?h9b035zhcl ?h9b035zhl1 ?h9b035zhlb ?h9b035zhdp ?h9b035zhun ?_; (case h9b035zB => k_asm); (case h9b035zF => k_asm); (case h9b035zX => k_asm); (case h9b035zN => k_asm); (case h9b035zT => k_asm); (case h9b035zk => first | exact rfl | assumption); (case h9b035zm => k_mem); (case h9b035zU => k_updF); (case h9b035zd => first | assumption | k_extra "my num"); (case h9b035zhx => first | k_extra "my num" | (simp only [List.length_cons] at *; omega)); (case h9b035zhc0 => first | k_extra "my num" | (simp only [List.length_cons] at *; omega)); (case h9b035zhcl => first | k_extra "my num" | (simp only [List.length_cons] at *; omega)); (case h9b035zhl1 => first | k_extra "my num" | (simp only [List.length_cons] at *; omega)); (case h9b035zhlb => first | k_extra "my num" | (simp only [List.length_cons] at *; omega)); (case h9b035zhdp => k_extra "my room"); (case h9b035zhun => k_extra "my units"); k_whole); intro o0' o1' o2' o3' o4' o5' o6' o7' o8' o9' F' N' e0'; (try dsimp only at N'); (try k_sweep); (try dsimp only); (try k_fold))
  k_with "my call ref" => (k_here; (with_reducible show wpAny _ _ (call (Value.ref 77) _) _ _ _); k_dflt (refine' Mine.in_grouping_b_call ?hb5934zB ?hb5934zF ?hb5934zX ?hb5934zN ?hb5934zT ?hb5934zk ?hb5934zm ?hb5934zU ?hb5934zd ?hb5934zhx ?hb5934zhc0 ?hb5934zhcl ?hb5934zhl1 ?hb5934zhlb ?hb5934zhdp ?hb5934zhun ?_; (case hb5934zB => k_asm); (case hb5934zF => k_asm); (case hb5934zX => k_asm); (case hb5934zN => k_asm); (case hb5934zT => k_asm); (case hb5934zk => first | exact rfl | assumption); (case hb5934zm => k_mem); (case hb5934zU => k_updF); (case hb5934zd => first | assumption | k_extra "my num"); (case hb5934zhx => first | k_extra "my num" | (simp only [List.length_cons] at *; omega)); (case hb5934zhc0 => first | k_extra "my num" | (simp only [List.length_cons] at *; omega)); (case hb5934zhcl => first | k_extra "my num" | (simp only [List.length_cons] at *; omega)); (case hb5934zhl1 => first | k_extra "my num" | (simp only [List.length_cons] at *; omega)); (case hb5934zhlb => first | k_extra "my num" | (simp only [List.length_cons] at *; omega)); (case hb5934zhdp => k_extra "my room"); (case hb5934zhun => k_extra "my units"); k_whole); intro o0' o1' o2' o3' o4' o5' o6' o7' o8' o9' F' N' e0'; (try dsimp only at N'); (try k_sweep); (try dsimp only); (try k_fold))
  k_with "my call ref" => (k_here; (with_reducible show wpAny _ _ (call (Value.ref 84) _) _ _ _); k_dflt (refine' Mine.go_in_grouping_b_call ?h286b1zB ?h286b1zF ?h286b1zX ?h286b1zN ?h286b1zT ?h286b1zk ?h286b1zm ?h286b1zU ?h286b1zd ?h286b1zhx ?h286b1zhc0 ?h286b1zhcl ?h286b1zhl1 ?h286b1zhlb ?h286b1zhdp ?h286b1zhun ?_; (case h286b1zB => k_asm); (case h286b1zF => k_asm); (case h286b1zX => k_asm); (case h286b1zN => k_asm); (case h286b1zT => k_asm); (case h286b1zk => first | exact rfl | assumption); (case h286b1zm => k_mem); (case h286b1zU => k_updF); (case h286b1zd => first | assumption | k_extra "my num"); (case h286b1zhx => first | k_extra "my num" | (simp only [List.length_cons] at *; omega)); (case h286b1zhc0 => first | k_extra "my num" | (simp only [List.length_cons] at *; omega)); (case h286b1zhcl => first | k_extra "my num" | (simp only [List.length_cons] at *; omega)); (case h286b1zhl1 => first | k_extra "my num" | (simp only [List.length_cons] at *; omega)); (case h286b1zhlb => first | k_extra "my num" | (simp only [List.length_cons] at *; omega)); (case h286b1zhdp => k_extra "my room"); (case h286b1zhun => k_extra "my units"); k_whole); intro o0' o1' o2' o3' o4' o5' o6' o7' o8' o9' F' N' e0'; (try dsimp only at N'); (try k_sweep); (try dsimp only); (try k_fold))
  k_with "my call ref" => (k_here; (with_reducible show wpAny _ _ (call (Value.ref 91) _) _ _ _); k_dflt (refine' Mine.out_grouping_call ?h6b3f7zB ?h6b3f7zF ?h6b3f7zX ?h6b3f7zN ?h6b3f7zT ?h6b3f7zk ?h6b3f7zm ?h6b3f7zU ?h6b3f7zd ?h6b3f7zhx ?h6b3f7zhc0 ?h6b3f7zhcl ?h6b3f7zhl1 ?h6b3f7zhlb ?h6b3f7zhdp ?h6b3f7zhun ?_; (case h6b3f7zB => k_asm); (case h6b3f7zF => k_asm); (case h6b3f7zX => k_asm); (case h6b3f7zN => k_asm); (case h6b3f7zT => k_asm); (case h6b3f7zk => first | exact rfl | assumption); (case h6b3f7zm => k_mem); (case h6b3f7zU => k_updF); (case h6b3f7zd => first | assumption | k_extra "my num"); (case h6b3f7zhx => first | k_extra "my num" | (simp only [List.length_cons] at *; omega)); (case h6b3f7zhc0 => first | k_extra "my num" | (simp only [List.length_cons] at *; omega)); (case h6b3f7zhcl => first | k_extra "my num" | (simp only [List.length_cons] at *; omega)); (case h6b3f7zhl1 => first | k_extra "my num" | (simp only [List.length_cons] at *; omega)); (case h6b3f7zhlb => first | k_extra "my num" | (simp only [List.length_cons] at *; omega)); (case h6b3f7zhdp => k_extra "my room"); (case h6b3f7zhun => k_extra "my units"); k_whole); intro o0' o1' o2' o3' o4' o5' o6' o7' o8' o9' F' N' e0'; (try dsimp only at N'); (try k_sweep); (try dsimp only); (try k_fold))
  k_with "my call ref" => (k_here; (with_reducible show wpAny _ _ (call (Value.ref 98) _) _ _ _); k_dflt (refine' Mine.go_out_grouping_call ?h004e3zB ?h004e3zF ?h004e3zX ?h004e3zN ?h004e3zT ?h004e3zk ?h004e3zm ?h004e3zU ?h004e3zd ?h004e3zhx ?h004e3zhc0 ?h004e3zhcl ?h004e3zhl1 ?h004e3zhlb ?h004e3zhdp ?h004e3zhun ?_; (case h004e3zB => k_asm); (case h004e3zF => k_asm); (case h004e3zX => k_asm); (case h004e3zN => k_asm); (case h004e3zT => k_asm); (case h004e3zk => first | exact rfl | assumption); (case h004e3zm => k_mem); (case h004e3zU => k_updF); (case h004e3zd => first | assumption | k_extra "my num"); (case h004e3zhx => first | k_extra "my num" | (simp only [List.length_cons] at *; omega)); (case h004e3zhc0 => first | k_extra "my num" | (simp only [List.length_cons] at *; omega)); (case h004e3zhcl => first | k_extra "my num" | (simp only [List.length_cons] at *; omega)); (case h004e3zhl1 => first | k_extra "my num" | (simp only [List.length_cons] at *; omega)); (case h004e3zhlb => first | k_extra "my num" | (simp only [List.length_cons] at *; omega)); (case h004e3zhdp => k_extra "my room"); (case h004e3zhun => k_extra "my units"); k_whole); intro o0' o1' o2' o3' o4' o5' o6' o7' o8' o9' F' N' e0'; (try dsimp only at N'); (try k_sweep); (try dsimp only); (try k_fold))
  k_with "my call ref" => (k_here; (with_reducible show wpAny _ _ (call (Value.ref 105) _) _ _ _); k_dflt (refine' Mine.out_grouping_b_call ?h19505zB ?h19505zF ?h19505zX ?h19505zN ?h19505zT ?h19505zk ?h19505zm ?h19505zU ?h19505zd ?h19505zhx ?h19505zhc0 ?h19505zhcl ?h19505zhl1 ?h19505zhlb ?h19505zhdp ?h19505zhun ?_; (case h19505zB => k_asm); (case h19505zF => k_asm); (case h19505zX => k_asm); (case h19505zN => k_asm); (case h19505zT => k_asm); (case h19505zk => first | exact rfl | assumption); (case h19505zm => k_mem); (case h19505zU => k_updF); (case h19505zd => first | assumption | k_extra "my num"); (case h19505zhx => first | k_extra "my num" | (simp only [List.length_cons] at *; omega)); (case h19505zhc0 => first | k_extra "my num" | (simp only [List.length_cons] at *; omega)); (case h19505zhcl => first | k_extra "my num" | (simp only [List.length_cons] at *; omega)); (case h19505zhl1 => first | k_extra "my num" | (simp only [List.length_cons] at *; omega)); (case h19505zhlb => first | k_extra "my num" | (simp only [List.length_cons] at *; omega)); (case h19505zhdp => k_extra "my room"); (case h19505zhun => k_extra "my units"); k_whole); intro o0' o1' o2' o3' o4' o5' o6' o7' o8' o9' F' N' e0'; (try dsimp only at N'); (try k_sweep); (try dsimp only); (try k_fold))
  k_with "my call ref" => (k_here; (with_reducible show wpAny _ _ (call (Value.ref 112) _) _ _ _); k_dflt (refine' Mine.go_out_grouping_b_call ?h91105zB ?h91105zF ?h91105zX ?h91105zN ?h91105zT ?h91105zk ?h91105zm ?h91105zU ?h91105zd ?h91105zhx ?h91105zhc0 ?h91105zhcl ?h91105zhl1 ?h91105zhlb ?h91105zhdp ?h91105zhun ?_; (case h91105zB => k_asm); (case h91105zF => k_asm); (case h91105zX => k_asm); (case h91105zN => k_asm); (case h91105zT => k_asm); (case h91105zk => first | exact rfl | assumption); (case h91105zm => k_mem); (case h91105zU => k_updF); (case h91105zd => first | assumption | k_extra "my num"); (case h91105zhx => first | k_extra "my num" | (simp only [List.length_cons] at *; omega)); (case h91105zhc0 => first | k_extra "my num" | (simp only [List.length_cons] at *; omega)); (case h91105zhcl => first | k_extra "my num" | (simp only [List.length_cons] at *; omega)); (case h91105zhl1 => first | k_extra "my num" | (simp only [List.length_cons] at *; omega)); (case h91105zhlb => first | k_extra "my num" | (simp only [List.length_cons] at *; omega)); (case h91105zhdp => k_extra "my room"); (case h91105zhun => k_extra "my units"); k_whole); intro o0' o1' o2' o3' o4' o5' o6' o7' o8' o9' F' N' e0'; (try dsimp only at N'); (try k_sweep); (try dsimp only); (try k_fold))
  k_with "my call ref" => (k_here; (with_reducible show wpAny _ _ (call (Value.ref 119) _) _ _ _); k_dflt (refine' Mine.eq_s_call ?h87e6dzB ?h87e6dzF ?h87e6dzX ?h87e6dzN ?h87e6dzT ?h87e6dzk ?h87e6dzm ?h87e6dzU ?h87e6dzd ?h87e6dzhx ?h87e6dzhc0 ?h87e6dzhcl ?h87e6dzhl1 ?h87e6dzhg ?h87e6dzhdp ?h87e6dzhun ?_; (case h87e6dzB => k_asm); (case h87e6dzF => k_asm); (case h87e6dzX => k_asm); (case h87e6dzN => k_asm); (case h87e6dzT => k_asm); (case h87e6dzk => first | exact rfl | assumption); (case h87e6dzm => k_mem); (case h87e6dzU => k_updF); (case h87e6dzd => first | assumption | k_extra "my num"); (case h87e6dzhx => first | k_extra "my num" | (simp only [List.length_cons] at *; omega)); (case h87e6dzhc0 => first | k_extra "my num" | (simp only [List.length_cons] at *; omega)); (case h87e6dzhcl => first | k_extra "my num" | (simp only [List.length_cons] at *; omega)); (case h87e6dzhl1 => first | k_extra "my num" | (simp only [List.length_cons] at *; omega)); (case h87e6dzhg => first | k_extra "my num" | (simp only [List.length_cons] at *; omega)); (case h87e6dzhdp => k_extra "my room"); (case h87e6dzhun => k_extra "my units"); k_whole); intro o0' o1' o2' o3' o4' o5' o6' o7' o8' o9' F' N' e0' e1'; (try dsimp only at N'); (try k_sweep); (try dsimp only); (try k_fold))
  k_with "my call ref" => (k_here; (with_reducible show wpAny _ _ (call (Value.ref 126) _) _ _ _); k_dflt (refine' Mine.eq_s_b_call ?ha43c0zB ?ha43c0zF ?ha43c0zX ?ha43c0zN ?ha43c0zT ?ha43c0zk ?ha43c0zm ?ha43c0zU ?ha43c0zd ?ha43c0zhx ?ha43c0zhc0 ?ha43c0zhcl ?ha43c0zhl1 ?ha43c0zhg ?ha43c0zhdp ?ha43c0zhun ?_; (case ha43c0zB => k_asm); (case ha43c0zF => k_asm); (case ha43c0zX => k_asm); (case ha43c0zN => k_asm); (case ha43c0zT => k_asm); (case ha43c0zk => first | exact rfl | assumption); (case ha43c0zm => k_mem); (case ha43c0zU => k_updF); (case ha43c0zd => first | assumption | k_extra "my num"); (case ha43c0zhx => first | k_extra "my num" | (simp only [List.length_cons] at *; omega)); (case ha43c0zhc0 => first | k_extra "my num" | (simp only [List.length_cons] at *; omega)); (case ha43c0zhcl => first | k_extra "my num" | (simp only [List.length_cons] at *; omega)); (case ha43c0zhl1 => first | k_extra "my num" | (simp only [List.length_cons] at *; omega)); (case ha43c0zhg => first | k_extra "my num" | (simp only [List.length_cons] at *; omega)); (case ha43c0zhdp => k_extra "my room"); (case ha43c0zhun => k_extra "my units"); k_whole); intro o0' o1' o2' o3' o4' o5' o6' o7' o8' o9' F' N' e0' e1'; (try dsimp only at N'); (try k_sweep); (try dsimp only); (try k_fold))
  k_with "my call ref" => (k_here; (with_reducible show wpAny _ _ (call (Value.ref 147) _) _ _ _); k_dflt (refine' Mine.replace_s_call ?hccaaazB ?hccaaazF ?hccaaazX ?hccaaazN ?hccaaazT ?hccaaazk ?hccaaazm ?hccaaazU ?hccaaazd ?hccaaazhx ?hccaaazhc0 ?hccaaazhcl ?hccaaazhl1 ?hccaaazhg ?hccaaazhi ?hccaaazhij ?hccaaazhj ?hccaaazhdp ?hccaaazhun ?_; (case hccaaazB => k_asm); (case hccaaazF => k_asm); (case hccaaazX => k_asm); (case hccaaazN => k_asm); (case hccaaazT => k_asm); (case hccaaazk => first | exact rfl | assumption); (case hccaaazm => k_mem); (case hccaaazU => k_updF); (case hccaaazd => first | assumption | k_extra "my num"); (case hccaaazhx => first | k_extra "my num" | (simp only [List.length_cons] at *; omega)); (case hccaaazhc0 => first | k_extra "my num" | (simp only [List.length_cons] at *; omega)); (case hccaaazhcl => first | k_extra "my num" | (simp only [List.length_cons] at *; omega)); (case hccaaazhl1 => first | k_extra "my num" | (simp only [List.length_cons] at *; omega)); (case hccaaazhg => first | k_extra "my num" | (simp only [List.length_cons] at *; omega)); (case hccaaazhi => first | k_extra "my num" | (simp only [List.length_cons] at *; omega)); (case hccaaazhij => first | k_extra "my num" | (simp only [List.length_cons] at *; omega)); (case hccaaazhj => first | k_extra "my num" | (simp only [List.length_cons] at *; omega)); (case hccaaazhdp => k_extra "my room"); (case hccaaazhun => k_extra "my units"); k_whole); intro o0' o1' o2' o3' o4' o5' o6' o7' o8' o9' F' N' e0'; (try dsimp only at N'); (try k_sweep); (try dsimp only); (try k_fold))
  k_with "my call type:list" => (k_here; (with_reducible show wpAny _ _ (call (Value.type _) [Value.str _ _]) _ _ _); k_dflt (refine' Mine.listStr_K ?h1c1ddzh ?h1c1ddzF ?h1c1ddzN ?h1c1ddzs ?_; (case h1c1ddzh => exact rfl); (case h1c1ddzF => k_asm); (case h1c1ddzN => k_asm); (case h1c1ddzs => (rw [sizeLine_eq]; omega)); k_whole); intro h' tk' vs' n' F' N' l1 hS'; (have hltm := l1); (try k_lt l1); (try k_sweep))
  k_with "my call builtin:len" => (k_here; (with_reducible show wpAny _ _ (call (Value.builtin "len") [Value.ref _]) _ _ _); k_dflt (refine' Mine.lenStrs_K ?h9c18czN ?h9c18czm ?h9c18czi ?h9c18czf ?_; (case h9c18czN => k_asm); (case h9c18czm => k_mem); (case h9c18czi => with_reducible assumption); (case h9c18czf => omega); k_whole))
  k_with "my subscriptTail" => (k_here; (with_reducible show wpAny _ _ (subscriptTail _ _ (Value.ref _) (Value.int _ _)) _ _ _); k_dflt (refine' Mine.itemStrs_K ?hda686zN ?hda686zm ?hda686zi ?hda686z0 ?hda686z1 ?hda686zf ?_ ?hda686zs ?hda686zg; (case hda686zN => k_asm); (case hda686zm => k_mem); (case hda686zi => with_reducible assumption); (case hda686z0 => omega); (case hda686z1 => omega); (case hda686zf => omega); (case hda686zs => with_unfolding_all rfl); (case hda686zg => (intro _; with_unfolding_all rfl)); k_whole); intro _)
  k_with "my subscriptTail Name Slice ref ref" => (k_here; (with_reducible show wpAny _ _ (subscriptTail _ (PySem.Expr.Slice none none (some _) _) (Value.ref _) (Value.ref _)) _ _ _); k_dflt (refine' Mine.revStrs_K ?hab3ffF ?hab3ffN ?hab3ffm ?hab3ffk ?hab3ffi ?hab3ffy ?_ ?hab3ffs ?hab3fft; (case hab3ffF => k_asm); (case hab3ffN => k_asm); (case hab3ffm => k_mem); (case hab3ffk => exact IsPart.int _ _); (case hab3ffi => first | with_reducible assumption | exact StrsAre.nil); (case hab3ffy => first | omega | (simp only [PyProof.Rows.signs_length, List.length_nil] at *; omega)); (case hab3ffs => with_unfolding_all rfl); (case hab3fft => kmk_pure)); intro D' ws' h' F' N' l1 hS'; (have hltm := l1); (try k_lt l1); (try k_sweep))
  k_with "my call ref" => (k_here; (with_reducible show wpAny _ _ (call (Value.ref 252) _) _ _ _); k_dflt (refine' Mine.run_spec ?h7cc04zB ?h7cc04zF ?h7cc04zX ?h7cc04zN ?h7cc04zT ?h7cc04zk ?h7cc04zm ?h7cc04zi ?h7cc04zy ?h7cc04zdp ?h7cc04zun ?_; (case h7cc04zB => k_asm); (case h7cc04zF => k_asm); (case h7cc04zX => k_asm); (case h7cc04zN => k_asm); (case h7cc04zT => k_asm); (case h7cc04zk => first | exact rfl | assumption); (case h7cc04zm => k_mem); (case h7cc04zi => first | with_reducible assumption | exact StrsAre.nil); (case h7cc04zy => first | omega | (simp only [List.length_reverse, PyProof.Rows.signs_length, List.length_nil] at *; omega)); (case h7cc04zdp => k_extra "my room"); (case h7cc04zun => k_extra "my units"); k_whole); intro o0' o1' o2' o3' o4' o5' o6' F' N' e0' e1'; (try dsimp only at N'); (try k_sweep); (try k_lt e0'); (try dsimp only); (try k_fold))
  trivial
theorem look_spec {prog : Program} {w : World} {p : Program} {loose : List Str} {mean : ExcName → Option Value} {mg mb : Str → Option Value}
  {dp un : Nat} {gd : Option (List Code)} {cn : Str} {cs : Scope} {a : Addr} {ccd : Value} {cl : List (Str × Addr)} {outer : List Env} {A₀ : Around} {base h₀ : Heap} {L : Addr} {m : Str → Option Value} {s : Shared} {Q E : Value → Shared → Prop}
  {mx dx tw : Nat} {H : Nat → Int} {KT : Nat → Tok} {x g : Str} {c l lb b k ch : Int} {τ0 τ1 τ2 τ3 τ4 τ5 σ0 σ1 σ2 σ3 σ4 σ5 tg tc : Tok} {n : Nat} {rest : List (Addr × Obj)}
  (B : Below A₀ base outer h₀) (F : Fr h₀ L s.heap m) (X : (hd0.heap_1_1 w.params).In h₀) (N : News h₀ L s.heap ((mx, instObj 199 dx) :: (dx, machD H KT x τ0 c τ1 l τ2 lb τ3 b τ4 k τ5) :: (tw, twinO x σ0 c σ1 l σ2 lb σ3 b σ4 k σ5 n) :: rest)) (T : Top p loose mean mg mb h₀) (hk : cs.kind = .function)
  (hmd : mx ≠ dx) (hmt : mx ≠ tw) (hdt : dx ≠ tw) (hr1 : ∀ p ∈ rest, p.1 ≠ dx) (hr2 : ∀ p ∈ rest, p.1 ≠ tw) (hx : x.length ≤ 1000) (hg : g.length ≤ 1000) (hc0 : 0 ≤ c) (hcl : c ≤ l) (hl1 : l ≤ x.length) (hlb : 0 ≤ lb)
  (hch0 : 0 ≤ ch) (hch1 : ch < 8) (hdp : dp + 2 < recursionLimit) (hun : un + 16 < cLine)
  (hret : ∀ (c' : Int) (τ0 τ1 τ2 τ3 τ4 τ5 σ0 σ1 σ2 σ3 σ4 σ5 : Tok) (h' : Heap) (tk' : Nat), Fr h₀ L h' m → News h₀ L h' ((mx, instObj 199 dx) :: (dx, machD H KT x τ0 c' τ1 l τ2 lb τ3 b τ4 k τ5) :: (tw, twinO x σ0 c' σ1 l σ2 lb σ3 b σ4 k σ5 n) :: rest) →
    0 ≤ c' → c' ≤ l → Q (.bool true) { s with heap := h', toks := tk' }) :
  wpAny (model prog w) (ktrTop dp un gd cn cs L a ccd cl outer) (call (.ref 259) [.int ch tc, .ref mx, .ref tw, .str g tg]) Q E s := by
 exact Mine.quiet _ (type_of% (Mine.aside (by
  refine wpAny_call ?_
  k_dflt ktr_enter
  k_extra "my steps"
  all_goals (
    with_reducible rename RunIs _ _ _ _ _ _ => hR
    (first
      | (with_reducible rename LookF _ _ _ _ _ _ _ => hL; have hz := fin_LF hc0 hcl hl1 (by first | exact beq_iff_eq.mpr (by with_reducible assumption) | exact beq_eq_false_iff_ne.mpr (by with_reducible assumption)) (by exact decide_eq_true (by with_reducible assumption)) hL hR)
      | (with_reducible rename GoF _ _ _ _ _ _ _ => hL; have hz := fin_GF hc0 hcl hl1 (by first | exact beq_iff_eq.mpr (by with_reducible assumption) | exact beq_eq_false_iff_ne.mpr (by with_reducible assumption)) (by exact decide_eq_false (by with_reducible assumption)) hL hR)
      | (with_reducible rename LookB _ _ _ _ _ _ _ => hL; have hz := fin_LB hlb (by with_reducible assumption) hcl hl1 (by first | exact beq_iff_eq.mpr (by with_reducible assumption) | exact beq_eq_false_iff_ne.mpr (by with_reducible assumption)) (by exact decide_eq_true (by with_reducible assumption)) hL hR)
      | (with_reducible rename GoB _ _ _ _ _ _ _ => hL; have hz := fin_GB hlb (by with_reducible assumption) hcl hl1 (by first | exact beq_iff_eq.mpr (by with_reducible assumption) | exact beq_eq_false_iff_ne.mpr (by with_reducible assumption)) (by exact decide_eq_false (by with_reducible assumption)) hL hR)
      | (with_reducible rename LookB _ _ _ _ _ _ _ => hL; have hz := fin_L0 hc0 (by with_reducible assumption) hcl (by exact decide_eq_true (by with_reducible assumption)) hL hR)
      | (with_reducible rename GoB _ _ _ _ _ _ _ => hL; have hz := fin_G0 hc0 (by with_reducible assumption) hcl (by exact decide_eq_false (by with_reducible assumption)) hL hR))
    obtain ⟨q1, q2, q3, q4⟩ := hz
    subst q2
    rw [beq_iff_eq.mpr q1]
    exact hret _ _ _ _ _ _ _ _ _ _ _ _ _ _ _ (by k_asm) (news_sub (by k_asm) (by k_extra "my sub")) q3 q4)
 ) (by exact Nat) _))

theorem words_jDeed_15 : True := by
  k_with_none
  k_with "my own k_all" => first | with_reducible assumption | exact Mine.ne_nil9 | exact Mine.off1_D (by with_reducible assumption) | (refine' Mine.ne_cons9 ?h39209a ?h39209b; (case h39209a => k_ne); (case h39209b => k_all)) | exact Mine.ne_allLt (by with_reducible assumption) | assumption | exact Mine.ne_allLt (by assumption) | exact List.forall_mem_nil _ | (refine' List.forall_mem_cons.mpr ⟨?h39209a, ?h39209b⟩; (case h39209a => k_ne); (case h39209b => k_all))
  k_with "my exec If" => refine wpAny_If ?_
  k_with "my subscriptTail" => (k_here; (with_reducible show wpAny _ _ (subscriptTail _ _ (Value.str _ _) (Value.int _ _)) _ _ _); (refine item_str (fitsSsize_of (N := 9223372036854775808) (by omega) (by omega) (Int.le_refl _)) (by omega) (by omega) ?_); intro _)
  k_with "my subscriptTail" => (k_here; (with_reducible show wpAny _ _ (subscriptTail _ (Expr.Slice none none none _) (Value.str _ _) (Value.ref _)) _ _ _); (with_reducible rename Fr _ _ _ _ => F'); (with_reducible rename News _ _ _ _ => N'); (refine slice_strN_nn_len (hsz := ?he93dfhsz) (s := ⟨_, _, _, _, _⟩) F' N' ?_); (case he93dfhsz => (rw [sizeLine_eq]; omega)); intro _ _ _ _ _ _)
  k_with "my subscriptTail" => (k_here; (with_reducible show wpAny _ _ (subscriptTail _ (Expr.Slice none (some _) none _) (Value.str _ _) (Value.ref _)) _ _ _); (with_reducible rename Fr _ _ _ _ => F'); (with_reducible rename News _ _ _ _ => N'); (refine slice_strN_ns_len (hsz := ?h5ee70hsz) (s := ⟨_, _, _, _, _⟩) F' N' ?_); (case h5ee70hsz => (rw [sizeLine_eq]; omega)); intro _ _ _ _ _ _)
  k_with "my subscriptTail" => (k_here; (with_reducible show wpAny _ _ (subscriptTail _ (Expr.Slice (some _) none none _) (Value.str _ _) (Value.ref _)) _ _ _); (with_reducible rename Fr _ _ _ _ => F'); (with_reducible rename News _ _ _ _ => N'); (refine slice_strN_sn_len (hsz := ?habc6bhsz) (s := ⟨_, _, _, _, _⟩) F' N' ?_); (case habc6bhsz => (rw [sizeLine_eq]; omega)); intro _ _ _ _ _ _)
  k_with "my subscriptTail" => (k_here; (with_reducible show wpAny _ _ (subscriptTail _ (Expr.Slice (some _) (some _) none _) (Value.str _ _) (Value.ref _)) _ _ _); (with_reducible rename Fr _ _ _ _ => F'); (with_reducible rename News _ _ _ _ => N'); (refine slice_strN_ss_len (hsz := ?h78793hsz) (s := ⟨_, _, _, _, _⟩) F' N' ?_); (case h78793hsz => (rw [sizeLine_eq]; omega)); intro _ _ _ _ _ _)
  k_with "my subscriptTail Name Constant ref int" => (k_here; k_dflt (refine' Mine.itemLit_K ?h4db2bzN ?h4db2bzm ?h4db2bz0 ?h4db2bzf ?h4db2bzx ?_ ?h4db2bzs ?h4db2bzg; (case h4db2bzN => k_asm); (case h4db2bzm => k_mem); (case h4db2bz0 => decide); (case h4db2bzf => decide); (case h4db2bzx => exact rfl); (case h4db2bzs => with_unfolding_all rfl); (case h4db2bzg => (intro _; with_unfolding_all rfl)); k_whole))
  k_with "my tail" => first | assumption | exact List.mem_append_left _ (by assumption) | exact List.mem_append_right _ (by assumption) | (refine List.mem_cons_of_mem _ ?_; k_extra "my tail")
  k_with "my sub" => first | exact Mine.all_nil | (refine Mine.all_cons ?h63e88zm ?h63e88zr; (case h63e88zm => k_mem); (case h63e88zr => k_extra "my sub")) | (intro p hp; k_extra "my tail")
  k_with "my own k_in" => first | k_in_fast | (refine' Frag.In.keeps ?hc3b53zX ?hc3b53zF; (case hc3b53zF => (refine' Fr.keep ?hc3b53zG; (case hc3b53zG => with_reducible assumption))); (case hc3b53zX => with_reducible assumption)) | assumption
  k_with "my own k_mem" => ((with_reducible show List.Mem _ _); refine Mine.memL ?_; with_reducible assumption)
  k_with "my onestep" => first | ((with_reducible show wpAny _ _ _ _ _ _); walk1) | (k_unfold; (try dsimp only)) | (with_reducible refine' Mine.seqE_last (by with_reducible assumption) ?_) | (with_reducible refine' Mine.seqE_next (by with_reducible assumption) ?_) | (with_reducible refine' Mine.seqE_ret (by with_reducible assumption) ?_) | (with_reducible refine' Mine.seqE_brk (by with_reducible assumption) ?_) | (with_reducible refine' Mine.seqE_cont (by with_reducible assumption) ?_) | (with_reducible refine Mine.nameQ_end (f := (_ : Flow)) (by with_reducible assumption) ?_) | (k_end; wrow_close) | walk1 | (dsimp only; walk1) | (leave1; walk_say "STEP leave1"; try dsimp only)
  k_with "my upto While" => repeat ((fail_if_success (with_reducible show wpAny _ _ (exec (Stmt.While _ _ _ _) _) _ _ _)); k_extra "my onestep")
  k_with "my upto For" => repeat ((fail_if_success (with_reducible show wpAny _ _ (exec (Stmt.For _ _ _ _ _) _) _ _ _)); k_extra "my onestep")
  k_with "my upto iter" => repeat ((fail_if_success (with_reducible show wpAny _ _ (pyIter _) _ _ _)); k_extra "my onestep")
  k_with "my MwPost" => (dsimp only [Mine.MwPost])
  k_with "my noend" => ((fail_if_success (with_reducible show InvEndN _ _ _ _ _ _ _)); (fail_if_success (with_reducible show Mine.CutPost _ _ _ _ _ _ _ _)); (fail_if_success (with_reducible show Mine.MwEnd _ _ _ _ _ _ _ _ _)); (fail_if_success (with_reducible show LCg.CompEnd _ _ _ _ _ _ _ _ _ _ _ _ _ _)); (fail_if_success (with_reducible show KswEnd _ _ _ _ _ _ _ _ _ _ _ _)))
  k_with "my steps" => repeat' (first | ((with_reducible show wpAny _ _ _ _ _ _); walk1) | (k_extra "my noend"; k_extra "my onestep"))
  k_with "my upto CompSrc" => repeat ((fail_if_success (with_reducible show LCg.CompSrc _ _ _ _ _ _ _ _ _ _ _ _ _ _)); (fail_if_success (with_reducible show LCt.CompSrcT _ _ _ _ _ _ _ _ _ _ _ _ _ _ _)); k_extra "my onestep")
  k_with "my own k_ne" => first | with_reducible (first | assumption | exact Mine.cjg4 (by with_reducible assumption) | exact Mine.cjg3 (by with_reducible assumption) | exact Ne.symm (by assumption) | exact Mine.gt_ne0 (by assumption) | exact Mine.s_ne1 | exact Mine.r_ne1 | exact Mine.lt_ne1 (by assumption) | exact Mine.gt_ne1 (by assumption) | exact Mine.s_ne2 | exact Mine.r_ne2 | exact Mine.lt_ne2 (by assumption) | exact Mine.gt_ne2 (by assumption) | exact Mine.r_ne3 | exact Mine.lt_ne3 (by assumption) | exact Mine.gt_ne3 (by assumption) | exact Mine.lt_ne4 (by assumption) | exact Mine.gt_ne4 (by assumption)) | exact Mine.off3_i1 (by with_reducible assumption) (by k_mem) | exact Mine.off3_c1 (by with_reducible assumption) (by k_mem) | exact Mine.off3_d1 (by with_reducible assumption) (by k_mem) | exact Mine.off1_d1 (by with_reducible assumption) (by k_mem) | exact Mine.ltm_0 (by with_reducible assumption) (by k_mem) | exact Mine.ltm_1 (by with_reducible assumption) (by k_mem) | exact Mine.nem_1 (by with_reducible assumption) (by k_mem) | with_reducible (first | exact Mine.cjl0 (by with_reducible assumption) | exact Mine.cjl1 (by with_reducible assumption) | exact Mine.cjg1 (by with_reducible assumption) | exact Mine.cjl2e (by with_reducible assumption) | exact Mine.cjg2 (by with_reducible assumption) | exact Mine.cjg3 (by with_reducible assumption) | exact Mine.cjg4 (by with_reducible assumption) | exact Mine.cjg6 (by with_reducible assumption) | exact Mine.cjg7 (by with_reducible assumption)) | (refine neN ?_; (try dsimp only); first | omega (config := { splitDisjunctions := false }) | (walk_say "NECONJ"; (repeat (with_reducible rename _ ∧ _ => hcj; obtain ⟨_, _⟩ := hcj)); first | with_reducible assumption | (refine Ne.symm ?_; with_reducible assumption)))
  k_with "my kall1" => first | exact Mine.all_nil | (refine Mine.all_cons ?h6bfabzm ?h6bfabzr; (case h6bfabzm => with_unfolding_all (first | (k_whole; exact Eq.refl (some _)) | rfl)); (case h6bfabzr => k_extra "my kall1"))
  k_with "my kall" => first | (k_whole; k_extra "my kall1") | ((try dsimp only) <;> (k_extra "my kall1"))
  k_with "my cut" => repeat (obtain ⟨hcA, hcj⟩ : _ ∧ _ := hcj; (try (obtain ⟨_, hcA⟩ : _ ∧ _ := hcA; (try (obtain ⟨_, _⟩ : _ ∧ _ := hcA)))))
  k_with "my room" => first | with_reducible assumption | exact Mine.off2 (by with_reducible assumption) (by exact Eq.refl true) | ktr_room
  k_with "my units" => first | with_reducible assumption | exact Mine.off2 (by with_reducible assumption) (by exact Eq.refl true) | ktr_units
  k_with "my num" => first | (k_whole; with_reducible (first | assumption | (show (_ : Int) < _; first | exact Mine.nm_b (by with_reducible assumption) (by with_unfolding_all exact Eq.refl true) | exact Mine.nm_a (by with_reducible assumption) (by with_unfolding_all exact Eq.refl true) | exact Mine.nc_a (by with_reducible assumption) (by with_unfolding_all exact Eq.refl true) | exact Mine.no_a4 (by with_reducible assumption) (by with_unfolding_all exact Eq.refl true) | exact Mine.no_a3 (by with_reducible assumption) (by with_unfolding_all exact Eq.refl true) | exact Mine.no_a2 (by with_reducible assumption) (by with_unfolding_all exact Eq.refl true) | exact Mine.no_a1 (by with_reducible assumption) (by with_unfolding_all exact Eq.refl true)) | (show (_ : Int) ≤ _; first | exact Mine.no_c2 (by with_reducible assumption) (by with_unfolding_all exact Eq.refl true) | exact Mine.no_e2 (by with_unfolding_all exact Eq.refl true) | exact Mine.nm_e (by with_reducible assumption) (by with_unfolding_all exact Eq.refl true) | exact Mine.nm_c (by with_reducible assumption) (by with_unfolding_all exact Eq.refl true) | exact Mine.nc_c (by with_reducible assumption) (by with_unfolding_all exact Eq.refl true) | exact Mine.nc_e (by with_unfolding_all exact Eq.refl true) | exact Mine.nz_e (by with_unfolding_all exact Eq.refl true) | exact Mine.no_c5 (by with_reducible assumption) (by with_unfolding_all exact Eq.refl true) | exact Mine.no_c4 (by with_reducible assumption) (by with_unfolding_all exact Eq.refl true) | exact Mine.no_c3 (by with_reducible assumption) (by with_unfolding_all exact Eq.refl true) | exact Mine.no_c1 (by with_reducible assumption) (by with_unfolding_all exact Eq.refl true) | exact Mine.no_e5 (by with_unfolding_all exact Eq.refl true) | exact Mine.no_e4 (by with_unfolding_all exact Eq.refl true) | exact Mine.no_e3 (by with_unfolding_all exact Eq.refl true) | exact Mine.no_g3 (by with_reducible assumption) (by with_unfolding_all exact Eq.refl true) | exact Mine.no_g2 (by with_reducible assumption) (by with_unfolding_all exact Eq.refl true) | exact Mine.no_g1 (by with_reducible assumption) (by with_unfolding_all exact Eq.refl true)) | (show (_ : Nat) < _; first | exact Mine.nn_b (by with_reducible assumption) (by with_unfolding_all exact Eq.refl true)) | (show (_ : Nat) ≤ _; first | exact Mine.nn_c (by with_reducible assumption) (by with_unfolding_all exact Eq.refl true) | exact Mine.nle_1 | exact Mine.nle_2 | exact Mine.nle_3 | exact Mine.nle_4))) | (decide +kernel) | omega
  k_with "my ev name" => first | (refine' Mine.ev_L ?h6e1a0F ?h6e1a0k ?h6e1a0x ?h6e1a0v ?h6e1a0d; (case h6e1a0x => rfl); (case h6e1a0F => k_asm); (case h6e1a0k => first | exact rfl | assumption); (case h6e1a0v => exact Eq.refl (some _)); (case h6e1a0d => decide)) | (refine' Mine.ev_C ?h6e1a0N ?h6e1a0k ?h6e1a0x ?h6e1a0c ?h6e1a0m ?h6e1a0o ?h6e1a0d; (case h6e1a0k => first | exact rfl | assumption); (case h6e1a0x => rfl); (case h6e1a0N => k_asm); (case h6e1a0c => rfl); (case h6e1a0m => k_mem); (case h6e1a0o => k_asm); (case h6e1a0d => decide))
  k_with "my ev0" => first | (with_reducible exact Mine.ev_int) | ((with_reducible refine' Mine.ev_L ?h84e4cF ?h84e4ck ?h84e4cx ?h84e4cv ?h84e4cd); (case h84e4cx => rfl); (case h84e4cF => k_asm); (case h84e4ck => first | exact rfl | assumption); (case h84e4cv => exact Eq.refl (some _)); (case h84e4cd => decide)) | ((with_reducible refine' Mine.ev_attr ?h84e4cF ?h84e4cX ?h84e4cH ?h84e4cI ?h84e4cg ?h84e4ch ?h84e4ca ?h84e4cn ?h84e4cl ?h84e4cv); (case h84e4cF => k_asm); (case h84e4cX => k_asm); (case h84e4cH => k_extra "my ev name"); (case h84e4cI => k_inst); (case h84e4cg => k_is); (case h84e4ch => k_is); (case h84e4ca => k_is); (case h84e4cn => k_is); (case h84e4cl => k_get); (case h84e4cv => k_handed)) | ((with_reducible refine' Mine.ev_item ?h84e4cN ?h84e4cH ?h84e4cm ?h84e4cz ?h84e4cx); (case h84e4cN => k_asm); (case h84e4cH => k_extra "my ev name"); (case h84e4cm => k_mem); (case h84e4cz => exact rfl); (case h84e4cx => exact rfl)) | ((with_reducible refine' Mine.ev_add ?h84e4cx ?h84e4cy); (case h84e4cx => k_extra "my ev1"); (case h84e4cy => k_extra "my ev1")) | ((with_reducible refine' Mine.ev_sub ?h84e4cx ?h84e4cy); (case h84e4cx => k_extra "my ev1"); (case h84e4cy => k_extra "my ev1")) | ((with_reducible refine' Mine.ev_eq ?h84e4cx ?h84e4cy ?h84e4cz); (case h84e4cx => k_extra "my ev1"); (case h84e4cy => k_extra "my ev1"); (case h84e4cz => with_unfolding_all rfl)) | ((with_reducible refine' Mine.ev_ne ?h84e4cx ?h84e4cy ?h84e4cz); (case h84e4cx => k_extra "my ev1"); (case h84e4cy => k_extra "my ev1"); (case h84e4cz => with_unfolding_all rfl)) | ((with_reducible refine' Mine.ev_lt ?h84e4cx ?h84e4cy ?h84e4cz); (case h84e4cx => k_extra "my ev1"); (case h84e4cy => k_extra "my ev1"); (case h84e4cz => with_unfolding_all rfl)) | ((with_reducible refine' Mine.ev_le ?h84e4cx ?h84e4cy ?h84e4cz); (case h84e4cx => k_extra "my ev1"); (case h84e4cy => k_extra "my ev1"); (case h84e4cz => with_unfolding_all rfl)) | ((with_reducible refine' Mine.ev_gt ?h84e4cx ?h84e4cy ?h84e4cz); (case h84e4cx => k_extra "my ev1"); (case h84e4cy => k_extra "my ev1"); (case h84e4cz => with_unfolding_all rfl)) | ((with_reducible refine' Mine.ev_ge ?h84e4cx ?h84e4cy ?h84e4cz); (case h84e4cx => k_extra "my ev1"); (case h84e4cy => k_extra "my ev1"); (case h84e4cz => with_unfolding_all rfl)) | ((with_reducible refine' Mine.ev_C ?h84e4cN ?h84e4ck ?h84e4cx ?h84e4cc ?h84e4cm ?h84e4co ?h84e4cd); (case h84e4cx => rfl); (case h84e4ck => first | exact rfl | assumption); (case h84e4cN => k_asm); (case h84e4cc => rfl); (case h84e4cm => k_mem); (case h84e4co => k_asm); (case h84e4cd => decide)) | (with_reducible exact Mine.ev_str) | (with_reducible exact Mine.ev_bool) | (with_reducible exact Mine.ev_none)
  k_with "my ev1" => first | (with_reducible exact Mine.ev_int) | ((with_reducible refine' Mine.ev_L ?h1cd45F ?h1cd45k ?h1cd45x ?h1cd45v ?h1cd45d); (case h1cd45x => rfl); (case h1cd45F => k_asm); (case h1cd45k => first | exact rfl | assumption); (case h1cd45v => exact Eq.refl (some _)); (case h1cd45d => decide)) | ((with_reducible refine' Mine.ev_attr ?h1cd45F ?h1cd45X ?h1cd45H ?h1cd45I ?h1cd45g ?h1cd45h ?h1cd45a ?h1cd45n ?h1cd45l ?h1cd45v); (case h1cd45F => k_asm); (case h1cd45X => k_asm); (case h1cd45H => k_extra "my ev name"); (case h1cd45I => k_inst); (case h1cd45g => k_is); (case h1cd45h => k_is); (case h1cd45a => k_is); (case h1cd45n => k_is); (case h1cd45l => k_get); (case h1cd45v => k_handed)) | ((with_reducible refine' Mine.ev_item ?h1cd45N ?h1cd45H ?h1cd45m ?h1cd45z ?h1cd45x); (case h1cd45N => k_asm); (case h1cd45H => k_extra "my ev name"); (case h1cd45m => k_mem); (case h1cd45z => exact rfl); (case h1cd45x => exact rfl)) | ((with_reducible refine' Mine.ev_add ?h1cd45x ?h1cd45y); (case h1cd45x => k_extra "my ev2"); (case h1cd45y => k_extra "my ev2")) | ((with_reducible refine' Mine.ev_sub ?h1cd45x ?h1cd45y); (case h1cd45x => k_extra "my ev2"); (case h1cd45y => k_extra "my ev2")) | ((with_reducible refine' Mine.ev_eq ?h1cd45x ?h1cd45y ?h1cd45z); (case h1cd45x => k_extra "my ev2"); (case h1cd45y => k_extra "my ev2"); (case h1cd45z => with_unfolding_all rfl)) | ((with_reducible refine' Mine.ev_ne ?h1cd45x ?h1cd45y ?h1cd45z); (case h1cd45x => k_extra "my ev2"); (case h1cd45y => k_extra "my ev2"); (case h1cd45z => with_unfolding_all rfl)) | ((with_reducible refine' Mine.ev_lt ?h1cd45x ?h1cd45y ?h1cd45z); (case h1cd45x => k_extra "my ev2"); (case h1cd45y => k_extra "my ev2"); (case h1cd45z => with_unfolding_all rfl)) | ((with_reducible refine' Mine.ev_le ?h1cd45x ?h1cd45y ?h1cd45z); (case h1cd45x => k_extra "my ev2"); (case h1cd45y => k_extra "my ev2"); (case h1cd45z => with_unfolding_all rfl)) | ((with_reducible refine' Mine.ev_gt ?h1cd45x ?h1cd45y ?h1cd45z); (case h1cd45x => k_extra "my ev2"); (case h1cd45y => k_extra "my ev2"); (case h1cd45z => with_unfolding_all rfl)) | ((with_reducible refine' Mine.ev_ge ?h1cd45x ?h1cd45y ?h1cd45z); (case h1cd45x => k_extra "my ev2"); (case h1cd45y => k_extra "my ev2"); (case h1cd45z => with_unfolding_all rfl)) | ((with_reducible refine' Mine.ev_C ?h1cd45N ?h1cd45k ?h1cd45x ?h1cd45c ?h1cd45m ?h1cd45o ?h1cd45d); (case h1cd45x => rfl); (case h1cd45k => first | exact rfl | assumption); (case h1cd45N => k_asm); (case h1cd45c => rfl); (case h1cd45m => k_mem); (case h1cd45o => k_asm); (case h1cd45d => decide)) | (with_reducible exact Mine.ev_str) | (with_reducible exact Mine.ev_bool) | (with_reducible exact Mine.ev_none)
  k_with "my ev2" => first | (with_reducible exact Mine.ev_int) | ((with_reducible refine' Mine.ev_L ?hdef3bF ?hdef3bk ?hdef3bx ?hdef3bv ?hdef3bd); (case hdef3bx => rfl); (case hdef3bF => k_asm); (case hdef3bk => first | exact rfl | assumption); (case hdef3bv => exact Eq.refl (some _)); (case hdef3bd => decide)) | ((with_reducible refine' Mine.ev_attr ?hdef3bF ?hdef3bX ?hdef3bH ?hdef3bI ?hdef3bg ?hdef3bh ?hdef3ba ?hdef3bn ?hdef3bl ?hdef3bv); (case hdef3bF => k_asm); (case hdef3bX => k_asm); (case hdef3bH => k_extra "my ev name"); (case hdef3bI => k_inst); (case hdef3bg => k_is); (case hdef3bh => k_is); (case hdef3ba => k_is); (case hdef3bn => k_is); (case hdef3bl => k_get); (case hdef3bv => k_handed)) | ((with_reducible refine' Mine.ev_item ?hdef3bN ?hdef3bH ?hdef3bm ?hdef3bz ?hdef3bx); (case hdef3bN => k_asm); (case hdef3bH => k_extra "my ev name"); (case hdef3bm => k_mem); (case hdef3bz => exact rfl); (case hdef3bx => exact rfl)) | ((with_reducible refine' Mine.ev_add ?hdef3bx ?hdef3by); (case hdef3bx => k_extra "my ev3"); (case hdef3by => k_extra "my ev3")) | ((with_reducible refine' Mine.ev_sub ?hdef3bx ?hdef3by); (case hdef3bx => k_extra "my ev3"); (case hdef3by => k_extra "my ev3")) | ((with_reducible refine' Mine.ev_eq ?hdef3bx ?hdef3by ?hdef3bz); (case hdef3bx => k_extra "my ev3"); (case hdef3by => k_extra "my ev3"); (case hdef3bz => with_unfolding_all rfl)) | ((with_reducible refine' Mine.ev_ne ?hdef3bx ?hdef3by ?hdef3bz); (case hdef3bx => k_extra "my ev3"); (case hdef3by => k_extra "my ev3"); (case hdef3bz => with_unfolding_all rfl)) | ((with_reducible refine' Mine.ev_lt ?hdef3bx ?hdef3by ?hdef3bz); (case hdef3bx => k_extra "my ev3"); (case hdef3by => k_extra "my ev3"); (case hdef3bz => with_unfolding_all rfl)) | ((with_reducible refine' Mine.ev_le ?hdef3bx ?hdef3by ?hdef3bz); (case hdef3bx => k_extra "my ev3"); (case hdef3by => k_extra "my ev3"); (case hdef3bz => with_unfolding_all rfl)) | ((with_reducible refine' Mine.ev_gt ?hdef3bx ?hdef3by ?hdef3bz); (case hdef3bx => k_extra "my ev3"); (case hdef3by => k_extra "my ev3"); (case hdef3bz => with_unfolding_all rfl)) | ((with_reducible refine' Mine.ev_ge ?hdef3bx ?hdef3by ?hdef3bz); (case hdef3bx => k_extra "my ev3"); (case hdef3by => k_extra "my ev3"); (case hdef3bz => with_unfolding_all rfl)) | ((with_reducible refine' Mine.ev_C ?hdef3bN ?hdef3bk ?hdef3bx ?hdef3bc ?hdef3bm ?hdef3bo ?hdef3bd); (case hdef3bx => rfl); (case hdef3bk => first | exact rfl | assumption); (case hdef3bN => k_asm); (case hdef3bc => rfl); (case hdef3bm => k_mem); (case hdef3bo => k_asm); (case hdef3bd => decide)) | (with_reducible exact Mine.ev_str) | (with_reducible exact Mine.ev_bool) | (with_reducible exact Mine.ev_none)
  k_with "my ev3" => first | (with_reducible exact Mine.ev_int) | ((with_reducible refine' Mine.ev_L ?h1a33cF ?h1a33ck ?h1a33cx ?h1a33cv ?h1a33cd); (case h1a33cx => rfl); (case h1a33cF => k_asm); (case h1a33ck => first | exact rfl | assumption); (case h1a33cv => exact Eq.refl (some _)); (case h1a33cd => decide)) | ((with_reducible refine' Mine.ev_attr ?h1a33cF ?h1a33cX ?h1a33cH ?h1a33cI ?h1a33cg ?h1a33ch ?h1a33ca ?h1a33cn ?h1a33cl ?h1a33cv); (case h1a33cF => k_asm); (case h1a33cX => k_asm); (case h1a33cH => k_extra "my ev name"); (case h1a33cI => k_inst); (case h1a33cg => k_is); (case h1a33ch => k_is); (case h1a33ca => k_is); (case h1a33cn => k_is); (case h1a33cl => k_get); (case h1a33cv => k_handed)) | ((with_reducible refine' Mine.ev_item ?h1a33cN ?h1a33cH ?h1a33cm ?h1a33cz ?h1a33cx); (case h1a33cN => k_asm); (case h1a33cH => k_extra "my ev name"); (case h1a33cm => k_mem); (case h1a33cz => exact rfl); (case h1a33cx => exact rfl)) | ((with_reducible refine' Mine.ev_add ?h1a33cx ?h1a33cy); (case h1a33cx => k_extra "my ev4"); (case h1a33cy => k_extra "my ev4")) | ((with_reducible refine' Mine.ev_sub ?h1a33cx ?h1a33cy); (case h1a33cx => k_extra "my ev4"); (case h1a33cy => k_extra "my ev4")) | ((with_reducible refine' Mine.ev_eq ?h1a33cx ?h1a33cy ?h1a33cz); (case h1a33cx => k_extra "my ev4"); (case h1a33cy => k_extra "my ev4"); (case h1a33cz => with_unfolding_all rfl)) | ((with_reducible refine' Mine.ev_ne ?h1a33cx ?h1a33cy ?h1a33cz); (case h1a33cx => k_extra "my ev4"); (case h1a33cy => k_extra "my ev4"); (case h1a33cz => with_unfolding_all rfl)) | ((with_reducible refine' Mine.ev_lt ?h1a33cx ?h1a33cy ?h1a33cz); (case h1a33cx => k_extra "my ev4"); (case h1a33cy => k_extra "my ev4"); (case h1a33cz => with_unfolding_all rfl)) | ((with_reducible refine' Mine.ev_le ?h1a33cx ?h1a33cy ?h1a33cz); (case h1a33cx => k_extra "my ev4"); (case h1a33cy => k_extra "my ev4"); (case h1a33cz => with_unfolding_all rfl)) | ((with_reducible refine' Mine.ev_gt ?h1a33cx ?h1a33cy ?h1a33cz); (case h1a33cx => k_extra "my ev4"); (case h1a33cy => k_extra "my ev4"); (case h1a33cz => with_unfolding_all rfl)) | ((with_reducible refine' Mine.ev_ge ?h1a33cx ?h1a33cy ?h1a33cz); (case h1a33cx => k_extra "my ev4"); (case h1a33cy => k_extra "my ev4"); (case h1a33cz => with_unfolding_all rfl)) | ((with_reducible refine' Mine.ev_C ?h1a33cN ?h1a33ck ?h1a33cx ?h1a33cc ?h1a33cm ?h1a33co ?h1a33cd); (case h1a33cx => rfl); (case h1a33ck => first | exact rfl | assumption); (case h1a33cN => k_asm); (case h1a33cc => rfl); (case h1a33cm => k_mem); (case h1a33co => k_asm); (case h1a33cd => decide)) | (with_reducible exact Mine.ev_str) | (with_reducible exact Mine.ev_bool) | (with_reducible exact Mine.ev_none)
  k_with "my ev4" => first | (with_reducible exact Mine.ev_int) | ((with_reducible refine' Mine.ev_L ?hb89ebF ?hb89ebk ?hb89ebx ?hb89ebv ?hb89ebd); (case hb89ebx => rfl); (case hb89ebF => k_asm); (case hb89ebk => first | exact rfl | assumption); (case hb89ebv => exact Eq.refl (some _)); (case hb89ebd => decide)) | ((with_reducible refine' Mine.ev_attr ?hb89ebF ?hb89ebX ?hb89ebH ?hb89ebI ?hb89ebg ?hb89ebh ?hb89eba ?hb89ebn ?hb89ebl ?hb89ebv); (case hb89ebF => k_asm); (case hb89ebX => k_asm); (case hb89ebH => k_extra "my ev name"); (case hb89ebI => k_inst); (case hb89ebg => k_is); (case hb89ebh => k_is); (case hb89eba => k_is); (case hb89ebn => k_is); (case hb89ebl => k_get); (case hb89ebv => k_handed)) | ((with_reducible refine' Mine.ev_item ?hb89ebN ?hb89ebH ?hb89ebm ?hb89ebz ?hb89ebx); (case hb89ebN => k_asm); (case hb89ebH => k_extra "my ev name"); (case hb89ebm => k_mem); (case hb89ebz => exact rfl); (case hb89ebx => exact rfl)) | ((with_reducible refine' Mine.ev_add ?hb89ebx ?hb89eby); (case hb89ebx => k_extra "my ev5"); (case hb89eby => k_extra "my ev5")) | ((with_reducible refine' Mine.ev_sub ?hb89ebx ?hb89eby); (case hb89ebx => k_extra "my ev5"); (case hb89eby => k_extra "my ev5")) | ((with_reducible refine' Mine.ev_eq ?hb89ebx ?hb89eby ?hb89ebz); (case hb89ebx => k_extra "my ev5"); (case hb89eby => k_extra "my ev5"); (case hb89ebz => with_unfolding_all rfl)) | ((with_reducible refine' Mine.ev_ne ?hb89ebx ?hb89eby ?hb89ebz); (case hb89ebx => k_extra "my ev5"); (case hb89eby => k_extra "my ev5"); (case hb89ebz => with_unfolding_all rfl)) | ((with_reducible refine' Mine.ev_lt ?hb89ebx ?hb89eby ?hb89ebz); (case hb89ebx => k_extra "my ev5"); (case hb89eby => k_extra "my ev5"); (case hb89ebz => with_unfolding_all rfl)) | ((with_reducible refine' Mine.ev_le ?hb89ebx ?hb89eby ?hb89ebz); (case hb89ebx => k_extra "my ev5"); (case hb89eby => k_extra "my ev5"); (case hb89ebz => with_unfolding_all rfl)) | ((with_reducible refine' Mine.ev_gt ?hb89ebx ?hb89eby ?hb89ebz); (case hb89ebx => k_extra "my ev5"); (case hb89eby => k_extra "my ev5"); (case hb89ebz => with_unfolding_all rfl)) | ((with_reducible refine' Mine.ev_ge ?hb89ebx ?hb89eby ?hb89ebz); (case hb89ebx => k_extra "my ev5"); (case hb89eby => k_extra "my ev5"); (case hb89ebz => with_unfolding_all rfl)) | ((with_reducible refine' Mine.ev_C ?hb89ebN ?hb89ebk ?hb89ebx ?hb89ebc ?hb89ebm ?hb89ebo ?hb89ebd); (case hb89ebx => rfl); (case hb89ebk => first | exact rfl | assumption); (case hb89ebN => k_asm); (case hb89ebc => rfl); (case hb89ebm => k_mem); (case hb89ebo => k_asm); (case hb89ebd => decide)) | (with_reducible exact Mine.ev_str) | (with_reducible exact Mine.ev_bool) | (with_reducible exact Mine.ev_none)
  k_with "my evs" => first | (with_reducible exact Mine.evs_nil) | ((with_reducible refine' Mine.evs_cons ?h3ebe4x ?h3ebe4y ?h3ebe4z); (case h3ebe4x => k_extra "my ev0"); (case h3ebe4y => k_extra "my evs"); (case h3ebe4z => rfl))
  k_with "my execs cons" => (k_here; (try ((first | (with_reducible show wpAny _ _ _ (Mine.MwPost _ _ _ _ _ _ _ _ _) _ _) | (with_reducible show wpAny _ _ _ (Mine.MrPost _ _ _ _ _ _ _ _ _) _ _) | (with_reducible show wpAny _ _ _ (InvPostN _ _ _ _ _ _ _) _ _) | (with_reducible show wpAny _ _ _ (KswPost _ _ _ _ _ _ _ _ _ _ _ _) _ _)); refine Mine.nameQ ?_; intro Qn hQn)); (with_reducible refine Mine.execs_seqE ?_); intro Qk hQk)
  k_with "my eval Name" => (k_here; k_dflt (first | (refine' nameX_L ?hfde63F ?hfde63v ?_ ?hfde63a ?hfde63b; (case hfde63b => rfl); (case hfde63F => k_asm); (case hfde63a => rfl); (case hfde63v => exact Eq.refl (some _)); k_whole) | (refine' nameX_K ?hfde63F ?hfde63X ?hfde63T ?hfde63e ?_ ?hfde63a ?hfde63b; (case hfde63b => rfl); (case hfde63F => k_asm); (case hfde63X => k_asm); (case hfde63T => k_asm); (case hfde63a => rfl); (case hfde63e => k_is); k_whole) | (refine' nameX_B ?hfde63F ?hfde63X ?hfde63T ?hfde63e ?hfde63v ?hfde63n ?_ ?hfde63a ?hfde63b; (case hfde63b => rfl); (case hfde63F => k_asm); (case hfde63X => k_asm); (case hfde63T => k_asm); (case hfde63a => rfl); (case hfde63e => k_is); (case hfde63v => boot_fast); (case hfde63n => decide); k_whole)))
  k_with "my eval BinOp" => (k_here; k_dflt (refine' Mine.ev_use ?hcbeddu ?_; (case hcbeddu => k_extra "my ev0"); k_whole); (try dsimp only))
  k_with "my eval Compare" => (k_here; k_dflt (refine' Mine.ev_use ?h28b78u ?_; (case h28b78u => k_extra "my ev0"); k_whole); (try dsimp only))
  k_with "my eval Subscript" => (k_here; k_dflt (refine' Mine.ev_use ?h772c3u ?_; (case h772c3u => k_extra "my ev0"); k_whole); (try dsimp only))
  k_with "my eval Attribute Name" => (k_here; k_dflt (refine' Mine.ev_use ?he290du ?_; (case he290du => k_extra "my ev0"); k_whole); (try dsimp only))
  k_with "my spliced" => (k_here; (with_reducible show wpAny _ _ (spliced (backTo _ (starEach (_ :: _) _))) _ _ _); k_dflt (refine' Mine.evs_use ?hf8b0eu ?_; (case hf8b0eu => k_extra "my evs"); k_whole); (try dsimp only))
  k_with "my isTrue Compare" => (k_here; k_dflt (first | ((with_reducible refine' Mine.ist_eq ?hdb5ccx ?hdb5ccy ?hdb5ccz ?_); (case hdb5ccx => k_extra "my ev0"); (case hdb5ccy => k_extra "my ev0"); (case hdb5ccz => with_unfolding_all rfl); k_whole) | ((with_reducible refine' Mine.ist_ne ?hdb5ccx ?hdb5ccy ?hdb5ccz ?_); (case hdb5ccx => k_extra "my ev0"); (case hdb5ccy => k_extra "my ev0"); (case hdb5ccz => with_unfolding_all rfl); k_whole) | ((with_reducible refine' Mine.ist_lt ?hdb5ccx ?hdb5ccy ?hdb5ccz ?_); (case hdb5ccx => k_extra "my ev0"); (case hdb5ccy => k_extra "my ev0"); (case hdb5ccz => with_unfolding_all rfl); k_whole) | ((with_reducible refine' Mine.ist_le ?hdb5ccx ?hdb5ccy ?hdb5ccz ?_); (case hdb5ccx => k_extra "my ev0"); (case hdb5ccy => k_extra "my ev0"); (case hdb5ccz => with_unfolding_all rfl); k_whole) | ((with_reducible refine' Mine.ist_gt ?hdb5ccx ?hdb5ccy ?hdb5ccz ?_); (case hdb5ccx => k_extra "my ev0"); (case hdb5ccy => k_extra "my ev0"); (case hdb5ccz => with_unfolding_all rfl); k_whole) | ((with_reducible refine' Mine.ist_ge ?hdb5ccx ?hdb5ccy ?hdb5ccz ?_); (case hdb5ccx => k_extra "my ev0"); (case hdb5ccy => k_extra "my ev0"); (case hdb5ccz => with_unfolding_all rfl); k_whole)); (try dsimp only))
  k_with "my call ref" => (k_here; (with_reducible show wpAny _ _ (call (Value.ref 245) _) _ _ _); k_dflt (refine' Mine.next_call ?ha4751zB ?ha4751zF ?ha4751zX ?ha4751zN ?ha4751zT ?ha4751zk ?ha4751zU ?ha4751zn ?ha4751zI ?ha4751ztn ?ha4751zlen ?ha4751zc0 ?ha4751zc1 ?ha4751zs0 ?ha4751zs1 ?ha4751zm0 ?ha4751zm1 ?ha4751zdp ?ha4751zun ?_; (case ha4751zB => k_asm); (case ha4751zF => k_asm); (case ha4751zX => k_asm); (case ha4751zN => k_asm); (case ha4751zT => k_asm); (case ha4751zk => first | exact rfl | assumption); (case ha4751zU => k_updF); (case ha4751zn => k_mem); (case ha4751zI => assumption); (case ha4751ztn => first | assumption | k_extra "my num"); (case ha4751zlen => first | k_extra "my num" | (simp only [List.length_cons] at *; omega)); (case ha4751zc0 => first | k_extra "my num" | (simp only [List.length_cons] at *; omega)); (case ha4751zc1 => first | k_extra "my num" | (simp only [List.length_cons] at *; omega)); (case ha4751zs0 => first | k_extra "my num" | (simp only [List.length_cons] at *; omega)); (case ha4751zs1 => first | k_extra "my num" | (simp only [List.length_cons] at *; omega)); (case ha4751zm0 => first | k_extra "my num" | (simp only [List.length_cons] at *; omega)); (case ha4751zm1 => first | k_extra "my num" | (simp only [List.length_cons] at *; omega)); (case ha4751zdp => k_extra "my room"); (case ha4751zun => k_extra "my units"); k_whole); intro o0' o1' o2' o3' o4' o5' o6' F' N' e0' e1' e2' e3'; (try dsimp only at N'); (try k_sweep); (try dsimp only); (try k_fold))
  k_with "my call ref" => (k_here; (with_reducible show wpAny _ _ (call (Value.ref 63) _) _ _ _); k_dflt (refine' Mine.in_grouping_call ?h03145zB ?h03145zF ?h03145zX ?h03145zN ?h03145zT ?h03145zk ?h03145zm ?h03145zU ?h03145zd ?h03145zhx ?h03145zhc0 ?h03145zhcl ?h03145zhl1 ?h03145zhlb ?h03145zhdp ?h03145zhun ?_; (case h03145zB => k_asm); (case h03145zF => k_asm); (case h03145zX => k_asm); (case h03145zN => k_asm); (case h03145zT => k_asm); (case h03145zk => first | exact rfl | assumption); (case h03145zm => k_mem); (case h03145zU => k_updF); (case h03145zd => first | assumption | k_extra "my num"); (case h03145zhx => first | k_extra "my num" | (simp only [List.length_cons] at *; omega)); (case h03145zhc0 => first | k_extra "my num" | (simp only [List.length_cons] at *; omega)); (case h03145zhcl => first | k_extra "my num" | (simp only [List.length_cons] at *; omega)); (case h03145zhl1 => first | k_extra "my num" | (simp only [List.length_cons] at *; omega)); (case h03145zhlb => first | k_extra "my num" | (simp only [List.length_cons] at *; omega)); (case h03145zhdp => k_extra "my room"); (case h03145zhun => k_extra "my units"); k_whole); intro o0' o1' o2' o3' o4' o5' o6' o7' o8' o9' F' N' e0'; (try dsimp only at N'); (try k_sweep); (try dsimp only); (try k_fold))
  k_with "my call ref" => (k_here; (with_reducible show wpAny _ _ (call (Value.ref 70) _) _ _ _); k_dflt (refine' Mine.go_in_grouping_call ?h9b035zB ?h9b035zF ?h9b035zX ?h9b035zN ?h9b035zT ?h9b035zk ?h9b035zm ?h9b035zU ?h9b035zd ?h9b035zhx ?h9b035zhc0 ?h9b035zhcl ?h9b035zhl1 ?h9b035zhlb ?h9b035zhdp ?h9b035zhun ?_; (case h9b035zB => k_asm); (case h9b035zF => k_asm); (case h9b035zX => k_asm); (case h9b035zN => k_asm); (case h9b035zT => k_asm); (case h9b035zk => first | exact rfl | assumption); (case h9b035zm => k_mem); (case h9b035zU => k_updF); (case h9b035zd => first | assumption | k_extra "my num"); (case h9b035zhx => first | k_extra "my num" | (simp only [List.length_cons] at *; omega)); (case h9b035zhc0 => first | k_extra "my num" | (simp only [List.length_cons] at *; omega)); (case h9b035zhcl => first | k_extra "my num" | (simp only [List.length_cons] at *; omega)); (case h9b035zhl1 => first | k_extra "my num" | (simp only [List.length_cons] at *; omega)); (case h9b035zhlb => first | k_extra "my num" | (simp only [List.length_cons] at *; omega)); (case h9b035zhdp => k_extra "my room"); (case h9b035zhun => k_extra "my units"); k_whole); intro o0' o1' o2' o3' o4' o5' o6' o7' o8' o9' F' N' e0'; (try dsimp only at N'); (try k_sweep); (try dsimp only); (try k_fold))
  k_with "my call ref" => (k_here; (with_reducible show wpAny _ _ (call (Value.ref 77) _) _ _ _); k_dflt (refine' Mine.in_grouping_b_call ?hb5934zB ?hb5934zF ?hb5934zX ?hb5934zN ?hb5934zT ?hb5934zk ?hb5934zm ?hb5934zU ?hb5934zd ?hb5934zhx ?hb5934zhc0 ?hb5934zhcl ?hb5934zhl1 ?hb5934zhlb ?hb5934zhdp ?hb5934zhun ?_; (case hb5934zB => k_asm); (case hb5934zF => k_asm); (case hb5934zX => k_asm); (case hb5934zN => k_asm); (case hb5934zT => k_asm); (case hb5934zk => first | exact rfl | assumption); (case hb5934zm => k_mem); (case hb5934zU => k_updF); (case hb5934zd => first | assumption | k_extra "my num"); (case hb5934zhx => first | k_extra "my num" | (simp only [List.length_cons] at *; omega)); (case hb5934zhc0 => first | k_extra "my num" | (simp only [List.length_cons] at *; omega)); (case hb5934zhcl => first | k_extra "my num" | (simp only [List.length_cons] at *; omega)); (case hb5934zhl1 => first | k_extra "my num" | (simp only [List.length_cons] at *; omega)); (case hb5934zhlb => first | k_extra "my num" | (simp only [List.length_cons] at *; omega)); (case hb5934zhdp => k_extra "my room"); (case hb5934zhun => k_extra "my units"); k_whole); intro o0' o1' o2' o3' o4' o5' o6' o7' o8' o9' F' N' e0'; (try dsimp only at N'); (try k_sweep); (try dsimp only); (try k_fold))
  k_with "my call ref" => (k_here; (with_reducible show wpAny _ _ (call (Value.ref 84) _) _ _ _); k_dflt (refine' Mine.go_in_grouping_b_call ?h286b1zB ?h286b1zF ?h286b1zX ?h286b1zN ?h286b1zT ?h286b1zk ?h286b1zm ?h286b1zU ?h286b1zd ?h286b1zhx ?h286b1zhc0 ?h286b1zhcl ?h286b1zhl1 ?h286b1zhlb ?h286b1zhdp ?h286b1zhun ?_; (case h286b1zB => k_asm); (case h286b1zF => k_asm); (case h286b1zX => k_asm); (case h286b1zN => k_asm); (case h286b1zT => k_asm); (case h286b1zk => first | exact rfl | assumption); (case h286b1zm => k_mem); (case h286b1zU => k_updF); (case h286b1zd => first | assumption | k_extra "my num"); (case h286b1zhx => first | k_extra "my num" | (simp only [List.length_cons] at *; omega)); (case h286b1zhc0 => first | k_extra "my num" | (simp only [List.length_cons] at *; omega)); (case h286b1zhcl => first | k_extra "my num" | (simp only [List.length_cons] at *; omega)); (case h286b1zhl1 => first | k_extra "my num" | (simp only [List.length_cons] at *; omega)); (case h286b1zhlb => first | k_extra "my num" | (simp only [List.length_cons] at *; omega)); (case h286b1zhdp => k_extra "my room"); (case h286b1zhun => k_extra "my units"); k_whole); intro o0' o1' o2' o3' o4' o5' o6' o7' o8' o9' F' N' e0'; (try dsimp only at N'); (try k_sweep); (try dsimp only); (try k_fold))
  k_with "my call ref" => (k_here; (with_reducible show wpAny _ _ (call (Value.ref 91) _) _ _ _); k_dflt (refine' Mine.out_grouping_call ?h6b3f7zB ?h6b3f7zF ?h6b3f7zX ?h6b3f7zN ?h6b3f7zT ?h6b3f7zk ?h6b3f7zm ?h6b3f7zU ?h6b3f7zd ?h6b3f7zhx ?h6b3f7zhc0 ?h6b3f7zhcl ?h6b3f7zhl1 ?h6b3f7zhlb ?h6b3f7zhdp ?h6b3f7zhun ?_; (case h6b3f7zB => k_asm); (case h6b3f7zF => k_asm); (case h6b3f7zX => k_asm); (case h6b3f7zN => k_asm); (case h6b3f7zT => k_asm); (case h6b3f7zk => first | exact rfl | assumption); (case h6b3f7zm => k_mem); (case h6b3f7zU => k_updF); (case h6b3f7zd => first | assumption | k_extra "my num"); (case h6b3f7zhx => first | k_extra "my num" | (simp only [List.length_cons] at *; omega)); (case h6b3f7zhc0 => first | k_extra "my num" | (simp only [List.length_cons] at *; omega)); (case h6b3f7zhcl => first | k_extra "my num" | (simp only [List.length_cons] at *; omega)); (case h6b3f7zhl1 => first | k_extra "my num" | (simp only [List.length_cons] at *; omega)); (case h6b3f7zhlb => first | k_extra "my num" | (simp only [List.length_cons] at *; omega)); (case h6b3f7zhdp => k_extra "my room"); (case h6b3f7zhun => k_extra "my units"); k_whole); intro o0' o1' o2' o3' o4' o5' o6' o7' o8' o9' F' N' e0'; (try dsimp only at N'); (try k_sweep); (try dsimp only); (try k_fold))
  k_with "my call ref" => (k_here; (with_reducible show wpAny _ _ (call (Value.ref 98) _) _ _ _); k_dflt (refine' Mine.go_out_grouping_call ?h004e3zB ?h004e3zF ?h004e3zX ?h004e3zN ?h004e3zT ?h004e3zk ?h004e3zm ?h004e3zU ?h004e3zd ?h004e3zhx ?h004e3zhc0 ?h004e3zhcl ?h004e3zhl1 ?h004e3zhlb ?h004e3zhdp ?h004e3zhun ?_; (case h004e3zB => k_asm); (case h004e3zF => k_asm); (case h004e3zX => k_asm); (case h004e3zN => k_asm); (case h004e3zT => k_asm); (case h004e3zk => first | exact rfl | assumption); (case h004e3zm => k_mem); (case h004e3zU => k_updF); (case h004e3zd => first | assumption | k_extra "my num"); (case h004e3zhx => first | k_extra "my num" | (simp only [List.length_cons] at *; omega)); (case h004e3zhc0 => first | k_extra "my num" | (simp only [List.length_cons] at *; omega)); (case h004e3zhcl => first | k_extra "my num" | (simp only [List.length_cons] at *; omega)); (case h004e3zhl1 => first | k_extra "my num" | (simp only [List.length_cons] at *; omega)); (case h004e3zhlb => first | k_extra "my num" | (simp only [List.length_cons] at *; omega)); (case h004e3zhdp => k_extra "my room"); (case h004e3zhun => k_extra "my units"); k_whole); intro o0' o1' o2' o3' o4' o5' o6' o7' o8' o9' F' N' e0'; (try dsimp only at N'); (try k_sweep); (try dsimp only); (try k_fold))
  k_with "my call ref" => (k_here; (with_reducible show wpAny _ _ (call (Value.ref 105) _) _ _ _); k_dflt (refine' Mine.out_grouping_b_call ?h19505zB ?h19505zF ?h19505zX ?h19505zN ?h19505zT ?h19505zk ?h19505zm ?h19505zU ?h19505zd ?h19505zhx ?h19505zhc0 ?h19505zhcl ?h19505zhl1 ?h19505zhlb ?h19505zhdp ?h19505zhun ?_; (case h19505zB => k_asm); (case h19505zF => k_asm); (case h19505zX => k_asm); (case h19505zN => k_asm); (case h19505zT => k_asm); (case h19505zk => first | exact rfl | assumption); (case h19505zm => k_mem); (case h19505zU => k_updF); (case h19505zd => first | assumption | k_extra "my num"); (case h19505zhx => first | k_extra "my num" | (simp only [List.length_cons] at *; omega)); (case h19505zhc0 => first | k_extra "my num" | (simp only [List.length_cons] at *; omega)); (case h19505zhcl => first | k_extra "my num" | (simp only [List.length_cons] at *; omega)); (case h19505zhl1 => first | k_extra "my num" | (simp only [List.length_cons] at *; omega)); (case h19505zhlb => first | k_extra "my num" | (simp only [List.length_cons] at *; omega)); (case h19505zhdp => k_extra "my room"); (case h19505zhun => k_extra "my units"); k_whole); intro o0' o1' o2' o3' o4' o5' o6' o7' o8' o9' F' N' e0'; (try dsimp only at N'); (try k_sweep); (try dsimp only); (try k_fold))
  k_with "my call ref" => (k_here; (with_reducible show wpAny _ _ (call (Value.ref 112) _) _ _ _); k_dflt (refine' Mine.go_out_grouping_b_call ?h91105zB ?h91105zF ?h91105zX ?h91105zN ?h91105zT ?h91105zk ?h91105zm ?h91105zU ?h91105zd ?h91105zhx ?h91105zhc0 ?h91105zhcl ?h91105zhl1 ?h91105zhlb ?h91105zhdp ?h91105zhun ?_; (case h91105zB => k_asm); (case h91105zF => k_asm); (case h91105zX => k_asm); (case h91105zN => k_asm); (case h91105zT => k_asm); (case h91105zk => first | exact rfl | assumption); (case h91105zm => k_mem); (case h91105zU => k_updF); (case h91105zd => first | assumption | k_extra "my num"); (case h91105zhx => first | k_extra "my num" | (simp only [List.length_cons] at *; omega)); (case h91105zhc0 => first | k_extra "my num" | (simp only [List.length_cons] at *; omega)); (case h91105zhcl => first | k_extra "my num" | (simp only [List.length_cons] at *; omega)); (case h91105zhl1 => first | k_extra "my num" | (simp only [List.length_cons] at *; omega)); (case h91105zhlb => first | k_extra "my num" | (simp only [List.length_cons] at *; omega)); (case h91105zhdp => k_extra "my room"); (case h91105zhun => k_extra "my units"); k_whole); intro o0' o1' o2' o3' o4' o5' o6' o7' o8' o9' F' N' e0'; (try dsimp only at N'); (try k_sweep); (try dsimp only); (try k_fold))
  k_with "my call ref" => (k_here; (with_reducible show wpAny _ _ (call (Value.ref 119) _) _ _ _); k_dflt (refine' Mine.eq_s_call ?h87e6dzB ?h87e6dzF ?h87e6dzX ?h87e6dzN ?h87e6dzT ?h87e6dzk ?h87e6dzm ?h87e6dzU ?h87e6dzd ?h87e6dzhx ?h87e6dzhc0 ?h87e6dzhcl ?h87e6dzhl1 ?h87e6dzhg ?h87e6dzhdp ?h87e6dzhun ?_; (case h87e6dzB => k_asm); (case h87e6dzF => k_asm); (case h87e6dzX => k_asm); (case h87e6dzN => k_asm); (case h87e6dzT => k_asm); (case h87e6dzk => first | exact rfl | assumption); (case h87e6dzm => k_mem); (case h87e6dzU => k_updF); (case h87e6dzd => first | assumption | k_extra "my num"); (case h87e6dzhx => first | k_extra "my num" | (simp only [List.length_cons] at *; omega)); (case h87e6dzhc0 => first | k_extra "my num" | (simp only [List.length_cons] at *; omega)); (case h87e6dzhcl => first | k_extra "my num" | (simp only [List.length_cons] at *; omega)); (case h87e6dzhl1 => first | k_extra "my num" | (simp only [List.length_cons] at *; omega)); (case h87e6dzhg => first | k_extra "my num" | (simp only [List.length_cons] at *; omega)); (case h87e6dzhdp => k_extra "my room"); (case h87e6dzhun => k_extra "my units"); k_whole); intro o0' o1' o2' o3' o4' o5' o6' o7' o8' o9' F' N' e0' e1'; (try dsimp only at N'); (try k_sweep); (try dsimp only); (try k_fold))
  k_with "my call ref" => (k_here; (with_reducible show wpAny _ _ (call (Value.ref 126) _) _ _ _); k_dflt (refine' Mine.eq_s_b_call ?ha43c0zB ?ha43c0zF ?ha43c0zX ?ha43c0zN ?ha43c0zT ?ha43c0zk ?ha43c0zm ?ha43c0zU ?ha43c0zd ?ha43c0zhx ?ha43c0zhc0 ?ha43c0zhcl ?ha43c0zhl1 ?ha43c0zhg ?ha43c0zhdp ?ha43c0zhun ?_; (case ha43c0zB => k_asm); (case ha43c0zF => k_asm); (case ha43c0zX => k_asm); (case ha43c0zN => k_asm); (case ha43c0zT => k_asm); (case ha43c0zk => first | exact rfl | assumption); (case ha43c0zm => k_mem); (case ha43c0zU => k_updF); (case ha43c0zd => first | assumption | k_extra "my num"); (case ha43c0zhx => first | k_extra "my num" | (simp only [List.length_cons] at *; omega)); (case ha43c0zhc0 => first | k_extra "my num" | (simp only [List.length_cons] at *; omega)); (case ha43c0zhcl => first | k_extra "my num" | (simp only [List.length_cons] at *; omega)); (case ha43c0zhl1 => first | k_extra "my num" | (simp only [List.length_cons] at *; omega)); (case ha43c0zhg => first | k_extra "my num" | (simp only [List.length_cons] at *; omega)); (case ha43c0zhdp => k_extra "my room"); (case ha43c0zhun => k_extra "my units"); k_whole); intro o0' o1' o2' o3' o4' o5' o6' o7' o8' o9' F' N' e0' e1'; (try dsimp only at N'); (try k_sweep); (try dsimp only); (try k_fold))
  k_with "my call ref" => (k_here; (with_reducible show wpAny _ _ (call (Value.ref 147) _) _ _ _); k_dflt (refine' Mine.replace_s_call ?hccaaazB ?hccaaazF ?hccaaazX ?hccaaazN ?hccaaazT ?hccaaazk ?hccaaazm ?hccaaazU ?hccaaazd ?hccaaazhx ?hccaaazhc0 ?hccaaazhcl ?hccaaazhl1 ?hccaaazhg ?hccaaazhi ?hccaaazhij ?hccaaazhj ?hccaaazhdp ?hccaaazhun ?_; (case hccaaazB => k_asm); (case hccaaazF => k_asm); (case hccaaazX => k_asm); (case hccaaazN => k_asm); (case hccaaazT => k_asm); (case hccaaazk => first | exact rfl | assumption); (case hccaaazm => k_mem); (case hccaaazU => k_updF); (case hccaaazd => first | assumption | k_extra "my num"); (case hccaaazhx => first | k_extra "my num" | (simp only [List.length_cons] at *; omega)); (case hccaaazhc0 => first | k_extra "my num" | (simp only [List.length_cons] at *; omega)); (case hccaaazhcl => first | k_extra "my num" | (simp only [List.length_cons] at *; omega)); (case hccaaazhl1 => first | k_extra "my num" | (simp only [List.length_cons] at *; omega)); (case hccaaazhg => first | k_extra "my num" | (simp only [List.length_cons] at *; omega)); (case hccaaazhi => first | k_extra "my num" | (simp only [List.length_cons] at *; omega)); (case hccaaazhij => first | k_extra "my num" | (simp only [List.length_cons] at *; omega)); (case hccaaazhj => first | k_extra "my num" | (simp only [List.length_cons] at *; omega)); (case hccaaazhdp => k_extra "my room"); (case hccaaazhun => k_extra "my units"); k_whole); intro o0' o1' o2' o3' o4' o5' o6' o7' o8' o9' F' N' e0'; (try dsimp only at N'); (try k_sweep); (try dsimp only); (try k_fold))
  k_with "my call ref" => (k_here; (with_reducible show wpAny _ _ (call (Value.ref 154) _) _ _ _); k_dflt (refine' Mine.slice_from_call ?h195d4zB ?h195d4zF ?h195d4zX ?h195d4zN ?h195d4zT ?h195d4zk ?h195d4zm ?h195d4zU ?h195d4zd ?h195d4zhx ?h195d4zhc0 ?h195d4zhcl ?h195d4zhl1 ?h195d4zhg ?h195d4zhb0 ?h195d4zhbk ?h195d4zhkl ?h195d4zhdp ?h195d4zhun ?_; (case h195d4zB => k_asm); (case h195d4zF => k_asm); (case h195d4zX => k_asm); (case h195d4zN => k_asm); (case h195d4zT => k_asm); (case h195d4zk => first | exact rfl | assumption); (case h195d4zm => k_mem); (case h195d4zU => k_updF); (case h195d4zd => first | assumption | k_extra "my num"); (case h195d4zhx => first | k_extra "my num" | (simp only [List.length_cons] at *; omega)); (case h195d4zhc0 => first | k_extra "my num" | (simp only [List.length_cons] at *; omega)); (case h195d4zhcl => first | k_extra "my num" | (simp only [List.length_cons] at *; omega)); (case h195d4zhl1 => first | k_extra "my num" | (simp only [List.length_cons] at *; omega)); (case h195d4zhg => first | k_extra "my num" | (simp only [List.length_cons] at *; omega)); (case h195d4zhb0 => first | k_extra "my num" | (simp only [List.length_cons] at *; omega)); (case h195d4zhbk => first | k_extra "my num" | (simp only [List.length_cons] at *; omega)); (case h195d4zhkl => first | k_extra "my num" | (simp only [List.length_cons] at *; omega)); (case h195d4zhdp => k_extra "my room"); (case h195d4zhun => k_extra "my units"); k_whole); intro o0' o1' o2' o3' o4' o5' o6' o7' o8' F' N' e0'; (try dsimp only at N'); (try k_sweep); (try dsimp only); (try k_fold))
  k_with "my call ref" => (k_here; (with_reducible show wpAny _ _ (call (Value.ref 168) _) _ _ _); k_dflt (refine' Mine.insert_call ?hb1fc7zB ?hb1fc7zF ?hb1fc7zX ?hb1fc7zN ?hb1fc7zT ?hb1fc7zk ?hb1fc7zm ?hb1fc7zU ?hb1fc7zd ?hb1fc7zhx ?hb1fc7zhc0 ?hb1fc7zhcl ?hb1fc7zhl1 ?hb1fc7zhg ?hb1fc7zhi ?hb1fc7zhij ?hb1fc7zhj ?hb1fc7zhb ?hb1fc7zhkb ?hb1fc7zhdp ?hb1fc7zhun ?_; (case hb1fc7zB => k_asm); (case hb1fc7zF => k_asm); (case hb1fc7zX => k_asm); (case hb1fc7zN => k_asm); (case hb1fc7zT => k_asm); (case hb1fc7zk => first | exact rfl | assumption); (case hb1fc7zm => k_mem); (case hb1fc7zU => k_updF); (case hb1fc7zd => first | assumption | k_extra "my num"); (case hb1fc7zhx => first | k_extra "my num" | (simp only [List.length_cons] at *; omega)); (case hb1fc7zhc0 => first | k_extra "my num" | (simp only [List.length_cons] at *; omega)); (case hb1fc7zhcl => first | k_extra "my num" | (simp only [List.length_cons] at *; omega)); (case hb1fc7zhl1 => first | k_extra "my num" | (simp only [List.length_cons] at *; omega)); (case hb1fc7zhg => first | k_extra "my num" | (simp only [List.length_cons] at *; omega)); (case hb1fc7zhi => first | k_extra "my num" | (simp only [List.length_cons] at *; omega)); (case hb1fc7zhij => first | k_extra "my num" | (simp only [List.length_cons] at *; omega)); (case hb1fc7zhj => first | k_extra "my num" | (simp only [List.length_cons] at *; omega)); (case hb1fc7zhb => first | k_extra "my num" | (simp only [List.length_cons] at *; omega)); (case hb1fc7zhkb => first | k_extra "my num" | (simp only [List.length_cons] at *; omega)); (case hb1fc7zhdp => k_extra "my room"); (case hb1fc7zhun => k_extra "my units"); k_whole); intro o0' o1' o2' o3' o4' o5' o6' o7' o8' o9' o10' F' N' e0' e1' e2'; (try dsimp only at N'); (try k_sweep); (try dsimp only); (try k_fold))
  k_with "my call ref" => (k_here; (with_reducible show wpAny _ _ (call (Value.ref 175) _) _ _ _); k_dflt (refine' Mine.slice_to_call ?h68030zB ?h68030zF ?h68030zX ?h68030zN ?h68030zT ?h68030zk ?h68030zm ?h68030zU ?h68030zd ?h68030zhx ?h68030zhc0 ?h68030zhcl ?h68030zhl1 ?h68030zhb0 ?h68030zhbk ?h68030zhkl ?h68030zhdp ?h68030zhun ?_; (case h68030zB => k_asm); (case h68030zF => k_asm); (case h68030zX => k_asm); (case h68030zN => k_asm); (case h68030zT => k_asm); (case h68030zk => first | exact rfl | assumption); (case h68030zm => k_mem); (case h68030zU => k_updF); (case h68030zd => first | assumption | k_extra "my num"); (case h68030zhx => first | k_extra "my num" | (simp only [List.length_cons] at *; omega)); (case h68030zhc0 => first | k_extra "my num" | (simp only [List.length_cons] at *; omega)); (case h68030zhcl => first | k_extra "my num" | (simp only [List.length_cons] at *; omega)); (case h68030zhl1 => first | k_extra "my num" | (simp only [List.length_cons] at *; omega)); (case h68030zhb0 => first | k_extra "my num" | (simp only [List.length_cons] at *; omega)); (case h68030zhbk => first | k_extra "my num" | (simp only [List.length_cons] at *; omega)); (case h68030zhkl => first | k_extra "my num" | (simp only [List.length_cons] at *; omega)); (case h68030zhdp => k_extra "my room"); (case h68030zhun => k_extra "my units"); k_whole); intro o0' o1' o2' o3' o4' o5' o6' o7' o8' F' N' ; (try dsimp only at N'); (try k_sweep); (try dsimp only); (try k_fold))
  k_with "my call ref" => (k_here; (with_reducible show wpAny _ _ (call (Value.ref 182) _) _ _ _); k_dflt (refine' Mine.assign_to_call ?h999c4zB ?h999c4zF ?h999c4zX ?h999c4zN ?h999c4zT ?h999c4zk ?h999c4zm ?h999c4zU ?h999c4zd ?h999c4zhx ?h999c4zhc0 ?h999c4zhcl ?h999c4zhl1 ?h999c4zhdp ?h999c4zhun ?_; (case h999c4zB => k_asm); (case h999c4zF => k_asm); (case h999c4zX => k_asm); (case h999c4zN => k_asm); (case h999c4zT => k_asm); (case h999c4zk => first | exact rfl | assumption); (case h999c4zm => k_mem); (case h999c4zU => k_updF); (case h999c4zd => first | assumption | k_extra "my num"); (case h999c4zhx => first | k_extra "my num" | (simp only [List.length_cons] at *; omega)); (case h999c4zhc0 => first | k_extra "my num" | (simp only [List.length_cons] at *; omega)); (case h999c4zhcl => first | k_extra "my num" | (simp only [List.length_cons] at *; omega)); (case h999c4zhl1 => first | k_extra "my num" | (simp only [List.length_cons] at *; omega)); (case h999c4zhdp => k_extra "my room"); (case h999c4zhun => k_extra "my units"); k_whole); intro o0' o1' o2' o3' o4' o5' o6' o7' o8' F' N' ; (try dsimp only at N'); (try k_sweep); (try dsimp only); (try k_fold))
  k_with "my call ref" => (k_here; (with_reducible show wpAny _ _ (call (Value.ref 49) _) _ _ _); k_dflt (refine' Mine.get_current_call ?h7289bzB ?h7289bzF ?h7289bzX ?h7289bzN ?h7289bzT ?h7289bzk ?h7289bzm ?h7289bzU ?h7289bzd ?h7289bzhx ?h7289bzhc0 ?h7289bzhcl ?h7289bzhl1 ?h7289bzhdp ?h7289bzhun ?_; (case h7289bzB => k_asm); (case h7289bzF => k_asm); (case h7289bzX => k_asm); (case h7289bzN => k_asm); (case h7289bzT => k_asm); (case h7289bzk => first | exact rfl | assumption); (case h7289bzm => k_mem); (case h7289bzU => k_updF); (case h7289bzd => first | assumption | k_extra "my num"); (case h7289bzhx => first | k_extra "my num" | (simp only [List.length_cons] at *; omega)); (case h7289bzhc0 => first | k_extra "my num" | (simp only [List.length_cons] at *; omega)); (case h7289bzhcl => first | k_extra "my num" | (simp only [List.length_cons] at *; omega)); (case h7289bzhl1 => first | k_extra "my num" | (simp only [List.length_cons] at *; omega)); (case h7289bzhdp => k_extra "my room"); (case h7289bzhun => k_extra "my units"); k_whole); intro o0' o1' o2' o3' o4' o5' o6' o7' o8' F' N' ; (try dsimp only at N'); (try k_sweep); (try dsimp only); (try k_fold))
  k_with "my call ref" => (k_here; (with_reducible show wpAny _ _ (call (Value.ref 42) _) _ _ _); k_dflt (refine' Mine.set_current_call ?h35306zB ?h35306zF ?h35306zX ?h35306zN ?h35306zT ?h35306zk ?h35306zm ?h35306zU ?h35306zd ?h35306zhg ?h35306zhdp ?h35306zhun ?_; (case h35306zB => k_asm); (case h35306zF => k_asm); (case h35306zX => k_asm); (case h35306zN => k_asm); (case h35306zT => k_asm); (case h35306zk => first | exact rfl | assumption); (case h35306zm => k_mem); (case h35306zU => k_updF); (case h35306zd => first | assumption | k_extra "my num"); (case h35306zhg => first | k_extra "my num" | (simp only [List.length_cons] at *; omega)); (case h35306zhdp => k_extra "my room"); (case h35306zhun => k_extra "my units"); k_whole); intro o0' o1' o2' o3' o4' o5' o6' o7' F' N' ; (try dsimp only at N'); (try k_sweep); (try dsimp only); (try k_fold))
  k_with "my call ref" => (k_here; (with_reducible show wpAny _ _ (call (Value.ref 161) _) _ _ _); k_dflt (refine' Mine.slice_del_call ?h5ca12zB ?h5ca12zF ?h5ca12zX ?h5ca12zN ?h5ca12zT ?h5ca12zk ?h5ca12zm ?h5ca12zU ?h5ca12zd ?h5ca12zhx ?h5ca12zhc0 ?h5ca12zhcl ?h5ca12zhl1 ?h5ca12zhb0 ?h5ca12zhbk ?h5ca12zhkl ?h5ca12zhdp ?h5ca12zhun ?_; (case h5ca12zB => k_asm); (case h5ca12zF => k_asm); (case h5ca12zX => k_asm); (case h5ca12zN => k_asm); (case h5ca12zT => k_asm); (case h5ca12zk => first | exact rfl | assumption); (case h5ca12zm => k_mem); (case h5ca12zU => k_updF); (case h5ca12zd => first | assumption | k_extra "my num"); (case h5ca12zhx => first | k_extra "my num" | (simp only [List.length_cons] at *; omega)); (case h5ca12zhc0 => first | k_extra "my num" | (simp only [List.length_cons] at *; omega)); (case h5ca12zhcl => first | k_extra "my num" | (simp only [List.length_cons] at *; omega)); (case h5ca12zhl1 => first | k_extra "my num" | (simp only [List.length_cons] at *; omega)); (case h5ca12zhb0 => first | k_extra "my num" | (simp only [List.length_cons] at *; omega)); (case h5ca12zhbk => first | k_extra "my num" | (simp only [List.length_cons] at *; omega)); (case h5ca12zhkl => first | k_extra "my num" | (simp only [List.length_cons] at *; omega)); (case h5ca12zhdp => k_extra "my room"); (case h5ca12zhun => k_extra "my units"); k_whole); intro o0' o1' o2' o3' o4' o5' o6' o7' o8' F' N' e0'; (try dsimp only at N'); (try k_sweep); (try dsimp only); (try k_fold))
  k_with "my call ref" => (k_here; (with_reducible show wpAny _ _ (call (Value.ref 266) _) _ _ _); k_dflt (refine' Mine.replaced_call ?he8a21zB ?he8a21zF ?he8a21zX ?he8a21zN ?he8a21zT ?he8a21zk ?he8a21zU ?he8a21zx ?he8a21zg ?he8a21zc0 ?he8a21zcl ?he8a21zl1 ?he8a21zi ?he8a21zij ?he8a21zj ?he8a21zdp ?he8a21zun ?_; (case he8a21zB => k_asm); (case he8a21zF => k_asm); (case he8a21zX => k_asm); (case he8a21zN => k_asm); (case he8a21zT => k_asm); (case he8a21zk => first | exact rfl | assumption); (case he8a21zU => k_updF); (case he8a21zx => first | k_extra "my num" | (simp only [List.length_cons] at *; omega)); (case he8a21zg => first | k_extra "my num" | (simp only [List.length_cons] at *; omega)); (case he8a21zc0 => first | k_extra "my num" | (simp only [List.length_cons] at *; omega)); (case he8a21zcl => first | k_extra "my num" | (simp only [List.length_cons] at *; omega)); (case he8a21zl1 => first | k_extra "my num" | (simp only [List.length_cons] at *; omega)); (case he8a21zi => first | k_extra "my num" | (simp only [List.length_cons] at *; omega)); (case he8a21zij => first | k_extra "my num" | (simp only [List.length_cons] at *; omega)); (case he8a21zj => first | k_extra "my num" | (simp only [List.length_cons] at *; omega)); (case he8a21zdp => k_extra "my room"); (case he8a21zun => k_extra "my units"); k_whole); intro o0' o1' o2' o3' o4' o5' o6' o7' o8' o9' o10' F' N' e0' e1' e2'; (try dsimp only at N'); (try k_sweep); (try dsimp only); (try k_fold))
  k_with "my call type:list" => (k_here; (with_reducible show wpAny _ _ (call (Value.type _) [Value.str _ _]) _ _ _); k_dflt (refine' Mine.listStr_K ?h1c1ddzh ?h1c1ddzF ?h1c1ddzN ?h1c1ddzs ?_; (case h1c1ddzh => exact rfl); (case h1c1ddzF => k_asm); (case h1c1ddzN => k_asm); (case h1c1ddzs => (rw [sizeLine_eq]; omega)); k_whole); intro h' tk' vs' n' F' N' l1 hS'; (have hltm := l1); (try k_lt l1); (try k_sweep))
  k_with "my call builtin:len" => (k_here; (with_reducible show wpAny _ _ (call (Value.builtin "len") [Value.ref _]) _ _ _); k_dflt (refine' Mine.lenStrs_K ?h9c18czN ?h9c18czm ?h9c18czi ?h9c18czf ?_; (case h9c18czN => k_asm); (case h9c18czm => k_mem); (case h9c18czi => with_reducible assumption); (case h9c18czf => omega); k_whole))
  k_with "my subscriptTail" => (k_here; (with_reducible show wpAny _ _ (subscriptTail _ _ (Value.ref _) (Value.int _ _)) _ _ _); k_dflt (refine' Mine.itemStrs_K ?hda686zN ?hda686zm ?hda686zi ?hda686z0 ?hda686z1 ?hda686zf ?_ ?hda686zs ?hda686zg; (case hda686zN => k_asm); (case hda686zm => k_mem); (case hda686zi => with_reducible assumption); (case hda686z0 => omega); (case hda686z1 => omega); (case hda686zf => omega); (case hda686zs => with_unfolding_all rfl); (case hda686zg => (intro _; with_unfolding_all rfl)); k_whole); intro _)
  k_with "my subscriptTail Name Slice ref ref" => (k_here; (with_reducible show wpAny _ _ (subscriptTail _ (PySem.Expr.Slice none none (some _) _) (Value.ref _) (Value.ref _)) _ _ _); k_dflt (refine' Mine.revStrs_K ?hab3ffF ?hab3ffN ?hab3ffm ?hab3ffk ?hab3ffi ?hab3ffy ?_ ?hab3ffs ?hab3fft; (case hab3ffF => k_asm); (case hab3ffN => k_asm); (case hab3ffm => k_mem); (case hab3ffk => exact IsPart.int _ _); (case hab3ffi => first | with_reducible assumption | exact StrsAre.nil); (case hab3ffy => first | omega | (simp only [PyProof.Rows.signs_length, List.length_nil] at *; omega)); (case hab3ffs => with_unfolding_all rfl); (case hab3fft => kmk_pure)); intro D' ws' h' F' N' l1 hS'; (have hltm := l1); (try k_lt l1); (try k_sweep))
  k_with "my subscriptTail" => (k_here; (with_reducible show wpAny _ _ (subscriptTail _ _ (Value.ref _) (Value.int _ _)) _ _ _); k_dflt (refine' Mine.topText_K (B := 3) ?hde6b7zX ?hde6b7ze ?hde6b7zi ?hde6b7zB ?hde6b7z0 ?hde6b7z1 ?hde6b7zf ?_ ?hde6b7zs ?hde6b7zg; (case hde6b7zX => k_in); (case hde6b7ze => k_is); (case hde6b7zi => repeat constructor); (case hde6b7zB => decide); (case hde6b7z0 => omega); (case hde6b7z1 => ((simp only [List.length_cons, List.length_nil]); omega)); (case hde6b7zf => omega); (case hde6b7zs => with_unfolding_all rfl); (case hde6b7zg => (intro _; with_unfolding_all rfl)); k_whole); intro zT tT hzT)
  k_with "my MrPost" => (dsimp only [Mine.MrPost])
  k_with "my subscriptTail" => (k_here; (with_reducible show wpAny _ _ (subscriptTail _ (PySem.Expr.Slice none none (some _) _) (Value.str _ _) (Value.ref _)) _ _ _); (with_reducible rename Fr _ _ _ _ => F'); (with_reducible rename News _ _ _ _ => N'); (refine Mine.revText_K (s := ⟨_, _, _, _, _⟩) F' N' (by omega) ?_); intro zR hR tR cR eR F' N')
  k_with "my call ref" => (k_here; (with_reducible show wpAny _ _ (call (Value.ref 232) _) _ _ _); k_dflt (refine' Mine.groups_spec ?hff95bzB ?hff95bzF ?hff95bzX ?hff95bzN ?hff95bzT ?hff95bzk ?hff95bzdp ?_; (case hff95bzB => k_asm); (case hff95bzF => k_asm); (case hff95bzX => k_asm); (case hff95bzN => k_asm); (case hff95bzT => k_asm); (case hff95bzk => first | exact rfl | assumption); (case hff95bzdp => k_extra "my room"); k_whole); intro rG nG vsG ysG hG kG FG NG lG hSG hG5 hG3; (have hltm := lG); (try k_lt lG); (try k_sweep); (try dsimp only); (try k_fold))
  k_with "my subscriptTail Call Call ref int" => (k_here; (with_reducible show wpAny _ _ (subscriptTail _ _ (Value.ref _) (Value.int _ _)) _ _ _); k_dflt (refine' Mine.itemStrs_K ?h9c175zN ?h9c175zm ?h9c175zi ?h9c175z0 ?h9c175z1 ?h9c175zf ?_ ?h9c175zs ?h9c175zg; (case h9c175zN => k_asm); (case h9c175zm => k_mem); (case h9c175zi => with_reducible assumption); (case h9c175z0 => omega); (case h9c175z1 => omega); (case h9c175zf => omega); (case h9c175zs => with_unfolding_all rfl); (case h9c175zg => (intro _; with_unfolding_all rfl)); k_whole); intro _)
  k_with "my call ref" => (k_here; (with_reducible show wpAny _ _ (call (Value.ref 252) _) _ _ _); k_dflt (refine' Mine.run_spec ?h7cc04zB ?h7cc04zF ?h7cc04zX ?h7cc04zN ?h7cc04zT ?h7cc04zk ?h7cc04zm ?h7cc04zi ?h7cc04zy ?h7cc04zdp ?h7cc04zun ?_; (case h7cc04zB => k_asm); (case h7cc04zF => k_asm); (case h7cc04zX => k_asm); (case h7cc04zN => k_asm); (case h7cc04zT => k_asm); (case h7cc04zk => first | exact rfl | assumption); (case h7cc04zm => k_mem); (case h7cc04zi => first | with_reducible assumption | exact StrsAre.nil); (case h7cc04zy => first | omega | (simp only [List.length_reverse, PyProof.Rows.signs_length, List.length_nil] at *; omega)); (case h7cc04zdp => k_extra "my room"); (case h7cc04zun => k_extra "my units"); k_whole); intro o0' o1' o2' o3' o4' o5' o6' F' N' e0' e1'; (try dsimp only at N'); (try k_sweep); (try k_lt e0'); (try dsimp only); (try k_fold))
  k_with "my call builtin:len" => (k_here; (with_reducible show wpAny _ _ (call (Value.builtin "len") [Value.ref _]) _ _ _); k_dflt (refine' Mine.lenTab_K ?hb154azN ?hb154azT ?hb154azm ?hb154azf ?_; (case hb154azN => k_asm); (case hb154azT => with_reducible assumption); (case hb154azm => k_extra "my sub"); (case hb154azf => omega); k_whole))
  k_with "my subscriptTail" => (k_here; (with_reducible show wpAny _ _ (subscriptTail _ _ (Value.ref _) (Value.int _ _)) _ _ _); k_dflt (refine' Mine.itemTab_K ?h76a1bzN ?h76a1bzT ?h76a1bzm ?h76a1bz0 ?h76a1bz1 ?h76a1bzf ?_ ?h76a1bzs ?h76a1bzg; (case h76a1bzN => k_asm); (case h76a1bzT => with_reducible assumption); (case h76a1bzm => k_extra "my sub"); (case h76a1bz0 => omega); (case h76a1bz1 => omega); (case h76a1bzf => omega); (case h76a1bzs => with_unfolding_all rfl); (case h76a1bzg => (intro _; with_unfolding_all rfl)); k_whole); intro H' KT' t0' t1' t2' hI' hD')
  k_with "my call builtin:sorted" => (k_here; (with_reducible show wpAny _ _ (call (Value.builtin "sorted") [Value.ref _]) _ _ _); k_dflt (refine' Mine.sortStrs_K ?hff911zF ?hff911zN ?hff911zm ?hff911zi ?hff911z6 ?_; (case hff911zF => k_asm); (case hff911zN => k_asm); (case hff911zm => k_mem); (case hff911zi => with_reducible assumption); (case hff911z6 => omega); k_whole); intro D7 h7 vs7 ss7 e7 F7 N7 l7 hS7 hl7 hm7 hs7; (have hltm := l7); (try k_lt l7); (try k_sweep))
  k_with "my eval ListComp" => (k_here; lct_look; lcg_calm; k_dflt (refine LCt.ListComp_T (F₀ := by k_asm) (by with_unfolding_all rfl) (by decide) (by rfl) (by decide) (by rfl) ?_))
  k_with "my subscriptTail Name Name ref int" => (k_here; (with_reducible show wpAny _ _ (subscriptTail _ _ (Value.ref _) (Value.int _ _)) _ _ _); k_dflt (refine' Mine.itemStrs_K ?h75927zN ?h75927zm ?h75927zi ?h75927z0 ?h75927z1 ?h75927zf ?_ ?h75927zs ?h75927zg; (case h75927zN => k_asm); (case h75927zm => k_mem); (case h75927zi => with_reducible assumption); (case h75927z0 => omega); (case h75927z1 => omega); (case h75927zf => omega); (case h75927zs => with_unfolding_all rfl); (case h75927zg => (intro _; with_unfolding_all rfl)); k_whole); intro _)
  k_with "my subscriptTail Name BinOp ref int" => (k_here; (with_reducible show wpAny _ _ (subscriptTail _ _ (Value.ref _) (Value.int _ _)) _ _ _); k_dflt (refine' Mine.itemStrs_K ?he0e77zN ?he0e77zm ?he0e77zi ?he0e77z0 ?he0e77z1 ?he0e77zf ?_ ?he0e77zs ?he0e77zg; (case he0e77zN => k_asm); (case he0e77zm => k_mem); (case he0e77zi => with_reducible assumption); (case he0e77z0 => omega); (case he0e77z1 => omega); (case he0e77zf => omega); (case he0e77zs => with_unfolding_all rfl); (case he0e77zg => (intro _; with_unfolding_all rfl)); k_whole); intro _)
  k_with "my subscriptTail Name UnaryOp ref int" => (k_here; (with_reducible show wpAny _ _ (subscriptTail _ _ (Value.ref _) (Value.int _ _)) _ _ _); k_dflt (refine' Mine.itemStrs_K ?h1783ezN ?h1783ezm ?h1783ezi ?h1783ez0 ?h1783ez1 ?h1783ezf ?_ ?h1783ezs ?h1783ezg; (case h1783ezN => k_asm); (case h1783ezm => k_mem); (case h1783ezi => with_reducible assumption); (case h1783ez0 => omega); (case h1783ez1 => omega); (case h1783ezf => omega); (case h1783ezs => with_unfolding_all rfl); (case h1783ezg => (intro _; with_unfolding_all rfl)); k_whole); intro _)
  k_with "my newList" => (k_here; k_dflt (refine' newList_K ?h10454k1 ?h10454k2 ?_; (case h10454k1 => k_asm); (case h10454k2 => k_asm); k_whole); intro TL hTL FTL NTL lTL; (have hltm := lTL); (try k_lt lTL); (try k_sweep))
  k_with "my exec Assign cons ListComp" => (k_here; lct_look; lcg_calm; k_dflt (refine LCt.Assign_ListComp_T (F₀ := by k_asm) (by rfl) (by with_unfolding_all rfl) (by with_unfolding_all rfl) (by decide) (by rfl) (by decide) (by rfl) (by rfl) (by rfl) ?_))
  k_with "my call builtin:len" => (k_here; (with_reducible show wpAny _ _ (call (Value.builtin "len") [Value.ref _]) _ _ _); k_dflt (refine' Mine.lenInts_K ?ha4e16zN ?ha4e16zm ?ha4e16zi ?ha4e16zf ?_; (case ha4e16zN => k_asm); (case ha4e16zm => k_mem); (case ha4e16zi => with_reducible assumption); (case ha4e16zf => omega); k_whole))
  k_with "my subscriptTail Name UnaryOp ref int" => (k_here; (with_reducible show wpAny _ _ (subscriptTail _ _ (Value.ref _) (Value.int (-1) _)) _ _ _); k_dflt (refine' Mine.lastInts_K ?h0f3cezN ?h0f3cezm ?h0f3cezi ?h0f3cez0 ?_ ?h0f3cezs ?h0f3cezg; (case h0f3cezN => k_asm); (case h0f3cezm => k_mem); (case h0f3cezi => with_reducible assumption); (case h0f3cez0 => omega); (case h0f3cezs => with_unfolding_all rfl); (case h0f3cezg => (intro _; with_unfolding_all rfl)); k_whole); intro _)
  k_with "my call ref" => (k_here; (with_reducible show wpAny _ _ (call (Value.ref 220) _) _ _ _); k_dflt (refine' Mine.among_spec ?h5d25bzB ?h5d25bzF ?h5d25bzX ?h5d25bzN ?h5d25bzT ?h5d25bzk ?h5d25bzdp ?_; (case h5d25bzB => k_asm); (case h5d25bzF => k_asm); (case h5d25bzX => k_asm); (case h5d25bzN => k_asm); (case h5d25bzT => k_asm); (case h5d25bzk => first | exact rfl | assumption); (case h5d25bzdp => k_extra "my room"); k_whole); intro xA dA HA KA tA0 tA1 tA2 hA kA FA NA lA1 lA2; (have hltm := lA1); (try k_lt lA1); (try dsimp only at NA); (try k_sweep); (try dsimp only); (try k_fold))
  k_with "my call ref" => (k_here; (with_reducible show wpAny _ _ (call (Value.ref 133) _) _ _ _); k_dflt (refine' Mine.find_among_call ?ha666czB ?ha666czF ?ha666czX ?ha666czN ?ha666czT ?ha666czk ?ha666czm ?ha666czU ?ha666czmd ?ha666czx ?ha666czc0 ?ha666czcl ?ha666czl1 ?ha666czhT ?ha666czTs ?ha666czTn ?ha666czn0 ?ha666czn1 ?ha666czel ?ha666czE ?ha666czLk ?ha666czdp ?ha666czun ?_; (case ha666czB => k_asm); (case ha666czF => k_asm); (case ha666czX => k_asm); (case ha666czN => k_asm); (case ha666czT => k_asm); (case ha666czk => first | exact rfl | assumption); (case ha666czm => k_mem); (case ha666czU => k_updF); (case ha666czmd => first | assumption | k_extra "my num"); (case ha666czx => first | k_extra "my num" | (simp only [List.length_cons] at *; omega)); (case ha666czc0 => first | k_extra "my num" | (simp only [List.length_cons] at *; omega)); (case ha666czcl => first | k_extra "my num" | (simp only [List.length_cons] at *; omega)); (case ha666czl1 => first | k_extra "my num" | (simp only [List.length_cons] at *; omega)); (case ha666czhT => with_reducible assumption); (case ha666czTs => k_extra "my sub"); (case ha666czTn => with_reducible assumption); (case ha666czn0 => with_reducible assumption); (case ha666czn1 => with_reducible assumption); (case ha666czel => with_reducible assumption); (case ha666czE => with_reducible assumption); (case ha666czLk => with_reducible assumption); (case ha666czdp => k_extra "my room"); (case ha666czun => k_extra "my units"); k_whole); intro o0' o1' o2' o3' o4' o5' o6' o7' o8' o9' o10' F' N' e0'; (try dsimp only at N'); (try k_sweep); (try dsimp only); (try k_fold))
  k_with "my call ref" => (k_here; (with_reducible show wpAny _ _ (call (Value.ref 140) _) _ _ _); k_dflt (refine' Mine.find_among_b_call ?h258fazB ?h258fazF ?h258fazX ?h258fazN ?h258fazT ?h258fazk ?h258fazm ?h258fazU ?h258fazmd ?h258fazx ?h258fazc0 ?h258fazcl ?h258fazl1 ?h258fazlb ?h258fazlc ?h258fazhT ?h258fazTs ?h258fazTn ?h258fazn0 ?h258fazn1 ?h258fazel ?h258fazE ?h258fazLk ?h258fazdp ?h258fazun ?_; (case h258fazB => k_asm); (case h258fazF => k_asm); (case h258fazX => k_asm); (case h258fazN => k_asm); (case h258fazT => k_asm); (case h258fazk => first | exact rfl | assumption); (case h258fazm => k_mem); (case h258fazU => k_updF); (case h258fazmd => first | assumption | k_extra "my num"); (case h258fazx => first | k_extra "my num" | (simp only [List.length_cons] at *; omega)); (case h258fazc0 => first | k_extra "my num" | (simp only [List.length_cons] at *; omega)); (case h258fazcl => first | k_extra "my num" | (simp only [List.length_cons] at *; omega)); (case h258fazl1 => first | k_extra "my num" | (simp only [List.length_cons] at *; omega)); (case h258fazlb => first | k_extra "my num" | (simp only [List.length_cons] at *; omega)); (case h258fazlc => first | k_extra "my num" | (simp only [List.length_cons] at *; omega)); (case h258fazhT => with_reducible assumption); (case h258fazTs => k_extra "my sub"); (case h258fazTn => with_reducible assumption); (case h258fazn0 => with_reducible assumption); (case h258fazn1 => with_reducible assumption); (case h258fazel => with_reducible assumption); (case h258fazE => with_reducible assumption); (case h258fazLk => with_reducible assumption); (case h258fazdp => k_extra "my room"); (case h258fazun => k_extra "my units"); k_whole); intro o0' o1' o2' o3' o4' o5' o6' o7' o8' o9' o10' F' N' e0'; (try dsimp only at N'); (try k_sweep); (try dsimp only); (try k_fold))
  trivial
theorem words_Deed_17 : True := by
  k_with "my testChain" => (k_here; k_dflt (first | refine test_link ?_ | refine test_last ?_))
  k_with "my ite" => (k_here; (with_reducible show (if ((_ : Int) == _) = true then _ else _)); first | (refine Mine.ieq_no (by k_extra "my num") ?_) | (refine Mine.ieq_yes (by k_extra "my num") ?_))
  k_with "my upto deed" => repeat' ((fail_if_success (with_reducible show wpAny _ _ (call (Value.ref 259) _) _ _ _)); (fail_if_success (with_reducible show wpAny _ _ (call (Value.ref 276) _) _ _ _)); (fail_if_success (with_reducible show wpAny _ _ (exec (Stmt.Assign [Expr.Name (Str.ofString "first") _] _ _) _) _ _ _)); k_extra "my onestep")
  k_with "my assignInOrder" => (k_here; dsimp only)
  k_with "my subscriptTail Name Name ref int" => (k_here; k_dflt (refine' Mine.itemLit_K ?hdd9bazN ?hdd9bazm ?hdd9baz0 ?hdd9bazf ?hdd9bazx ?_ ?hdd9bazs ?hdd9bazg; (case hdd9bazN => k_asm); (case hdd9bazm => k_mem); (case hdd9baz0 => decide); (case hdd9bazf => decide); (case hdd9bazx => exact rfl); (case hdd9bazs => with_unfolding_all rfl); (case hdd9bazg => (intro _; with_unfolding_all rfl)); k_whole))
  trivial
theorem starts_len {v : Bool} {y g : Str} (h : v = Txt.startswith y g) (hv : v = true) : g.length ≤ y.length := by
  have f := (starts_fits.mp (h ▸ hv)).1
  rw [len_toList, len_toList] at f
  exact f
theorem eqs_c {v : Bool} {y g : Str} {c c' : Int} (h : v = Txt.startswith y g) (e : c' = if v = true then c + g.length else c) : c' = c + g.length * (if (Txt.slice y none (some (g.length : Int)) == g) = true then 1 else 0) := by
  rw [eq_starts, ← h, e]
  split <;> omega
theorem eqs_b {v : Bool} {x g : Str} {c c' l : Int} (h : v = Txt.startswith (Txt.slice x (some c) (some l)) g) (e : c' = if v = true then c + g.length else c) (h0 : 0 ≤ c) (hcl : c ≤ l) (hl1 : l ≤ x.length) :
    0 ≤ c + g.length * (if (Txt.slice (Txt.slice x (some c) (some l)) none (some (g.length : Int)) == g) = true then 1 else 0) ∧ c + g.length * (if (Txt.slice (Txt.slice x (some c) (some l)) none (some (g.length : Int)) == g) = true then 1 else 0) ≤ l := by
  rw [← eqs_c h e, e]
  have e2 := slice_ss_len (x := x) h0 hcl hl1
  split
  · have := starts_len h (by assumption)
    omega
  · omega
theorem ends_len {v : Bool} {y g : Str} (h : v = Txt.endswith y g) (hv : v = true) : g.length ≤ y.length := by
  have f := (ends_fits.mp (h ▸ hv)).1
  rw [List.length_reverse, List.length_reverse, len_toList, len_toList] at f
  exact f
theorem max_cases (y g : Nat) : ((if (y : Int) - g > 0 then (y : Int) - g else 0) = (y : Int) - g ∧ g ≤ y) ∨ ((if (y : Int) - g > 0 then (y : Int) - g else 0) = 0 ∧ y ≤ g) := by
  split <;> omega
theorem eqb_c {v : Bool} {y g : Str} {c c' : Int} (h : v = Txt.endswith y g) (e : c' = if v = true then c - g.length else c) :
    c' = c - g.length * (if (Txt.slice y (some (if (y.length : Int) - g.length > 0 then (y.length : Int) - g.length else 0)) none == g) = true then 1 else 0) := by
  rw [eq_ends (max_cases _ _), ← h, e]
  split <;> omega
theorem eqb_b {v : Bool} {x g : Str} {c c' l lb : Int} (h : v = Txt.endswith (Txt.slice x (some lb) (some c)) g) (e : c' = if v = true then c - g.length else c) (hlb : 0 ≤ lb) (hge : lb ≤ c) (hcl : c ≤ l) (hl1 : l ≤ x.length) :
    0 ≤ c - g.length * (if (Txt.slice (Txt.slice x (some lb) (some c)) (some (if ((Txt.slice x (some lb) (some c)).length : Int) - g.length > 0 then ((Txt.slice x (some lb) (some c)).length : Int) - g.length else 0)) none == g) = true then 1 else 0) ∧
    c - g.length * (if (Txt.slice (Txt.slice x (some lb) (some c)) (some (if ((Txt.slice x (some lb) (some c)).length : Int) - g.length > 0 then ((Txt.slice x (some lb) (some c)).length : Int) - g.length else 0)) none == g) = true then 1 else 0) ≤ l := by
 exact Mine.quiet _ (type_of% (Mine.aside (by
  rw [← eqb_c h e, e]
  have e2 := slice_ss_len (x := x) hlb hge (by k_extra "my num")
  split
  · have := ends_len h (by assumption)
    omega
  · omega
 ) (by exact Nat) _))
set_option maxHeartbeats 40000000 in
theorem deed_spec {prog : Program} {w : World} {p : Program} {loose : List Str} {mean : ExcName → Option Value} {mg mb : Str → Option Value}
  {dp un : Nat} {gd : Option (List Code)} {cn : Str} {cs : Scope} {a : Addr} {ccd : Value} {cl : List (Str × Addr)} {outer : List Env} {A₀ : Around} {base h₀ : Heap} {L : Addr} {m : Str → Option Value} {s : Shared} {Q E : Value → Shared → Prop}
  {t nu mx dx tw : Nat} {H : Nat → Int} {KT : Nat → Tok} {x : Str} {c l lb b k tc sd B0 : Int} {τ0 τ1 τ2 τ3 τ4 τ5 σ0 σ1 σ2 σ3 σ4 σ5 t1 t2 : Tok} {n n2 nw : Nat} {its : List Value} {ns : List Int} {rest : List (Addr × Obj)}
  (B : Below A₀ base outer h₀) (F : Fr h₀ L s.heap m) (X : (hd0.heap_1_1 w.params).In h₀) (N : News h₀ L s.heap ((t, tapeO tc t1 nu sd t2 n) :: (nu, PySem.W.listOf its.toArray n2) :: (mx, instObj 199 dx) :: (dx, machD H KT x τ0 c τ1 l τ2 lb τ3 b τ4 k τ5) :: (tw, twinO x σ0 c σ1 l σ2 lb σ3 b σ4 k σ5 nw) :: rest)) (T : Top p loose mean mg mb h₀) (hk : cs.kind = .function)
  (hI : IntsAre its ns) (hlen : ns.length ≤ 40) (hc0 : 0 ≤ tc) (hc1 : tc < 7000) (hs0 : 0 ≤ sd) (hs1 : sd < 2147483647)
  (htn : t ≠ nu) (htm : t ≠ mx) (htd : t ≠ dx) (htw : t ≠ tw) (hmd : mx ≠ dx) (hmt : mx ≠ tw) (hdt : dx ≠ tw) (hnd : nu ≠ dx) (hnt : nu ≠ tw) (hr0 : ∀ p ∈ rest, p.1 ≠ t) (hr1 : ∀ p ∈ rest, p.1 ≠ dx) (hr2 : ∀ p ∈ rest, p.1 ≠ tw)
  (hx : x.length ≤ 900) (h0 : 0 ≤ c) (hcl : c ≤ l) (hl1 : l ≤ x.length) (hlb : 0 ≤ lb) (hB : 1000 ≤ B0 ∧ B0 ≤ 50000) (hb : -B0 ≤ b ∧ b ≤ B0) (hkb : -B0 ≤ k ∧ k ≤ B0)
  (hdp : dp + 4 < recursionLimit) (hun : un + 32 < cLine)
  (hret : ∀ (x' : Str) (c' l' lb' b' k' tc' sd' : Int) (τ0 τ1 τ2 τ3 τ4 τ5 σ0 σ1 σ2 σ3 σ4 σ5 t1 t2 : Tok) (h' : Heap) (tk' : Nat), Fr h₀ L h' m →
    News h₀ L h' ((t, tapeO tc' t1 nu sd' t2 n) :: (nu, PySem.W.listOf its.toArray n2) :: (mx, instObj 199 dx) :: (dx, machD H KT x' τ0 c' τ1 l' τ2 lb' τ3 b' τ4 k' τ5) :: (tw, twinO x' σ0 c' σ1 l' σ2 lb' σ3 b' σ4 k' σ5 nw) :: rest) →
    x'.length ≤ x.length + 6 → 0 ≤ c' → c' ≤ l' → l' ≤ x'.length → 0 ≤ lb' → (-(B0 + 1000) ≤ b' ∧ b' ≤ B0 + 1000) → (-(B0 + 1000) ≤ k' ∧ k' ≤ B0 + 1000) → 0 ≤ tc' → tc' ≤ tc + 12 → 0 ≤ sd' → sd' < 2147483647 → Q (.bool true) { s with heap := h', toks := tk' }) :
  wpAny (model prog w) (ktrTop dp un gd cn cs L a ccd cl outer) (call (.ref 283) [.ref t, .ref mx, .ref tw]) Q E s := by
 exact Mine.quiet _ (type_of% (Mine.aside (by
  refine wpAny_call ?_
  k_dflt ktr_enter
  have bb1 : -(B0 + 1000) ≤ b := by k_extra "my num"
  have bb2 : b ≤ B0 + 1000 := by k_extra "my num"
  have bk1 : -(B0 + 1000) ≤ k := by k_extra "my num"
  have bk2 : k ≤ B0 + 1000 := by k_extra "my num"
  have bz1 : -(B0 + 1000) ≤ 0 := by k_extra "my num"
  have bz2 : 0 ≤ B0 + 1000 := by k_extra "my num"
  have bx6 : x.length ≤ x.length + 6 := Nat.le_add_right _ _
  have bx0 : x.length ≤ 1000 := Nat.le_trans hx (by decide)
  have hE0 : (Str.ofString "").length = 0 := by decide +kernel
  have fin : ∀ (x1 x2 : Str) (c1 c2 l1 l2 lb1 b1 b2 k1 k2 tc' sd' : Int) (τ0 τ1 τ2 τ3 τ4 τ5 σ0 σ1 σ2 σ3 σ4 σ5 t1 t2 : Tok) (h' : Heap) (tk' : Nat) (all : List (Addr × Obj)), Fr h₀ L h' m → News h₀ L h' all →
      (t, tapeO tc' t1 nu sd' t2 n) ∈ all → (nu, PySem.W.listOf its.toArray n2) ∈ all → (mx, instObj 199 dx) ∈ all → (dx, machD H KT x1 τ0 c1 τ1 l1 τ2 lb1 τ3 b1 τ4 k1 τ5) ∈ all → (tw, twinO x2 σ0 c2 σ1 l2 σ2 lb1 σ3 b2 σ4 k2 σ5 nw) ∈ all → (∀ p ∈ rest, p ∈ all) →
      x1 = x2 → c1 = c2 → l1 = l2 → b1 = b2 → k1 = k2 → x2.length ≤ x.length + 6 → 0 ≤ c2 → c2 ≤ l2 → l2 ≤ x2.length → 0 ≤ lb1 → (-(B0 + 1000) ≤ b2 ∧ b2 ≤ B0 + 1000) → (-(B0 + 1000) ≤ k2 ∧ k2 ≤ B0 + 1000) → 0 ≤ tc' → tc' ≤ tc + 12 → 0 ≤ sd' → sd' < 2147483647 → Q (.bool true) { s with heap := h', toks := tk' } := by
    intro x1 x2 c1 c2 l1 l2 lb1 b1 b2 k1 k2 tc' sd' τ0 τ1 τ2 τ3 τ4 τ5 σ0 σ1 σ2 σ3 σ4 σ5 t1 t2 h' tk' all F' N' m1 m2 m3 m4 m5 mr ex ec el eb ek
    subst ex ec el eb ek
    exact hret _ _ _ _ _ _ _ _ _ _ _ _ _ _ _ _ _ _ _ _ _ _ _ _ F' (news5 N' m1 m2 m3 m4 m5 mr)
  k_extra "my upto deed"
  · with_reducible rename Fr _ _ _ _ => F8
    with_reducible rename News _ _ _ _ => N8
    have N5 := news5 (rest := rest) (q1 := (t, _)) (q2 := (nu, _)) (q3 := (mx, _)) (q4 := (dx, _)) (q5 := (tw, _)) N8 (by k_mem) (by k_mem) (by k_mem) (by k_mem) (by k_mem) (by k_extra "my sub")
    k_dflt (refine' look_spec ?zB F8 ?zX (news_rot N5) ?zT ?zk hmd hmt hdt ?zr1 ?zr2 ?zx ?zg h0 hcl hl1 hlb ?zc0 ?zc1 ?zdp ?zun ?_; (case zB => k_asm); (case zX => k_asm); (case zT => k_asm); (case zk => exact rfl); (case zx => omega); (case zg => exact Nat.le_trans (hG3 _) (by decide)); (case zc0 => omega); (case zc1 => omega); (case zdp => (k_extra "my room")); (case zun => (k_extra "my units")); k_whole)
    case zr1 => exact List.forall_mem_cons.mpr ⟨htd, List.forall_mem_cons.mpr ⟨hnd, hr1⟩⟩
    case zr2 => exact List.forall_mem_cons.mpr ⟨htw, List.forall_mem_cons.mpr ⟨hnt, hr2⟩⟩
    intro c9 τ0 τ1 τ2 τ3 τ4 τ5 σ0 σ1 σ2 σ3 σ4 σ5 h9 tk9 F9 N9 hc90 hc9l
    clear N5 N8
    replace N9 := news_rot2 N9
    (try dsimp only)
    k_extra "my steps"
    with_reducible rename Fr h₀ L _ _ => kF
    with_reducible rename News h₀ L _ _ => kN
    exact fin _ _ _ _ _ _ _ _ _ _ _ _ _ _ _ _ _ _ _ _ _ _ _ _ _ _ _ _ _ _ kF kN (by k_mem) (by k_mem) (by k_mem) (by k_mem) (by k_mem) (by k_extra "my sub") rfl rfl rfl rfl rfl (by k_extra "my num") (by k_extra "my num") (by k_extra "my num") (by k_extra "my num") (by k_extra "my num") ⟨by k_extra "my num", by k_extra "my num"⟩ ⟨by k_extra "my num", by k_extra "my num"⟩ (by k_extra "my num") (by k_extra "my num") (by k_extra "my num") (by k_extra "my num")
  · with_reducible rename _ = Txt.startswith _ _ => e0
    with_reducible rename (_ : Int) = ite _ _ _ => e1
    with_reducible rename Fr h₀ L _ _ => kF
    with_reducible rename News h₀ L _ _ => kN
    have e2 := slice_ss_len (x := x) h0 hcl hl1
    have e3 := starts_len e0
    rw [eq_starts, ← e0, beq_self_eq_true]
    exact fin _ _ _ _ _ _ _ _ _ _ _ _ _ _ _ _ _ _ _ _ _ _ _ _ _ _ _ _ _ _ kF kN (by k_mem) (by k_mem) (by k_mem) (by k_mem) (by k_mem) (by k_extra "my sub") rfl (eqs_c e0 e1) rfl rfl rfl (by k_extra "my num") (eqs_b e0 e1 h0 hcl hl1).1 (eqs_b e0 e1 h0 hcl hl1).2 (by k_extra "my num") (by k_extra "my num") ⟨by k_extra "my num", by k_extra "my num"⟩ ⟨by k_extra "my num", by k_extra "my num"⟩ (by k_extra "my num") (by k_extra "my num") (by k_extra "my num") (by k_extra "my num")
  · with_reducible rename Fr h₀ L _ _ => kF
    with_reducible rename News h₀ L _ _ => kN
    exact fin _ _ _ _ _ _ _ _ _ _ _ _ _ _ _ _ _ _ _ _ _ _ _ _ _ _ _ _ _ _ kF kN (by k_mem) (by k_mem) (by k_mem) (by k_mem) (by k_mem) (by k_extra "my sub") rfl rfl rfl rfl rfl (by k_extra "my num") (by k_extra "my num") (by k_extra "my num") (by k_extra "my num") (by k_extra "my num") ⟨by k_extra "my num", by k_extra "my num"⟩ ⟨by k_extra "my num", by k_extra "my num"⟩ (by k_extra "my num") (by k_extra "my num") (by k_extra "my num") (by k_extra "my num")
  · with_reducible rename _ = Txt.endswith _ _ => e0
    with_reducible rename (_ : Int) = ite _ _ _ => e1
    with_reducible rename ¬ c < lb => hge
    with_reducible rename Fr h₀ L _ _ => kF
    with_reducible rename News h₀ L _ _ => kN
    rw [eq_ends (max_cases _ _), ← e0, beq_self_eq_true]
    exact fin _ _ _ _ _ _ _ _ _ _ _ _ _ _ _ _ _ _ _ _ _ _ _ _ _ _ _ _ _ _ kF kN (by k_mem) (by k_mem) (by k_mem) (by k_mem) (by k_mem) (by k_extra "my sub") rfl (eqb_c e0 e1) rfl rfl rfl (by k_extra "my num") (eqb_b e0 e1 hlb (by k_extra "my num") hcl hl1).1 (eqb_b e0 e1 hlb (by k_extra "my num") hcl hl1).2 (by k_extra "my num") (by k_extra "my num") ⟨by k_extra "my num", by k_extra "my num"⟩ ⟨by k_extra "my num", by k_extra "my num"⟩ (by k_extra "my num") (by k_extra "my num") (by k_extra "my num") (by k_extra "my num")
  · with_reducible rename Fr h₀ L _ _ => kF
    with_reducible rename News h₀ L _ _ => kN
    exact fin _ _ _ _ _ _ _ _ _ _ _ _ _ _ _ _ _ _ _ _ _ _ _ _ _ _ _ _ _ _ kF kN (by k_mem) (by k_mem) (by k_mem) (by k_mem) (by k_mem) (by k_extra "my sub") rfl rfl rfl rfl rfl (by k_extra "my num") (by k_extra "my num") (by k_extra "my num") (by k_extra "my num") (by k_extra "my num") ⟨by k_extra "my num", by k_extra "my num"⟩ ⟨by k_extra "my num", by k_extra "my num"⟩ (by k_extra "my num") (by k_extra "my num") (by k_extra "my num") (by k_extra "my num")
  · with_reducible rename Fr h₀ L _ _ => kF
    with_reducible rename News h₀ L _ _ => kN
    exact fin _ _ _ _ _ _ _ _ _ _ _ _ _ _ _ _ _ _ _ _ _ _ _ _ _ _ _ _ _ _ kF kN (by k_mem) (by k_mem) (by k_mem) (by k_mem) (by k_mem) (by k_extra "my sub") rfl rfl rfl rfl rfl (by k_extra "my num") (by k_extra "my num") (by k_extra "my num") (by k_extra "my num") (by k_extra "my num") ⟨by k_extra "my num", by k_extra "my num"⟩ ⟨by k_extra "my num", by k_extra "my num"⟩ (by k_extra "my num") (by k_extra "my num") (by k_extra "my num") (by k_extra "my num")
  · with_reducible rename (_ != _) = true => hne
    simp at hne
  · with_reducible rename (_ != _) = true => hne
    rw [slice_zs (by k_extra "my num") hl1] at hne
    simp at hne
  · have hb9 := rep_bounds (g := Str.ofString "") h0 hcl hl1 (i := b) (j := k) (by k_extra "my num") (by k_extra "my num") (by k_extra "my num") e1'
    revert e1'
    with_reducible rename (_ : Int) = ite _ _ _ => e5
    intro e1'
    rw [← e0'] at hb9
    with_reducible rename Fr h₀ L _ _ => kF
    with_reducible rename News h₀ L _ _ => kN
    exact fin _ _ _ _ _ _ _ _ _ _ _ _ _ _ _ _ _ _ _ _ _ _ _ _ _ _ _ _ _ _ kF kN (by k_mem) (by k_mem) (by k_mem) (by k_mem) (by k_mem) (by k_extra "my sub") e0'.symm (e5.trans e1'.symm) e2'.symm rfl (by first | rfl | omega) (by k_extra "my num") (by k_extra "my num") (by k_extra "my num") (by k_extra "my num") (by k_extra "my num") ⟨by k_extra "my num", by k_extra "my num"⟩ ⟨by k_extra "my num", by k_extra "my num"⟩ (by k_extra "my num") (by k_extra "my num") (by k_extra "my num") (by k_extra "my num")
  · have hb9 := rep_bounds (g := zT) h0 hcl hl1 (i := b) (j := k) (by k_extra "my num") (by k_extra "my num") (by k_extra "my num") e1'
    revert e1'
    with_reducible rename (_ : Int) = ite _ _ _ => e5
    intro e1'
    rw [← e0'] at hb9
    with_reducible rename Fr h₀ L _ _ => kF
    with_reducible rename News h₀ L _ _ => kN
    exact fin _ _ _ _ _ _ _ _ _ _ _ _ _ _ _ _ _ _ _ _ _ _ _ _ _ _ _ _ _ _ kF kN (by k_mem) (by k_mem) (by k_mem) (by k_mem) (by k_mem) (by k_extra "my sub") e0'.symm (e5.trans e1'.symm) e2'.symm rfl (by first | rfl | omega) (by k_extra "my num") (by k_extra "my num") (by k_extra "my num") (by k_extra "my num") (by k_extra "my num") ⟨by k_extra "my num", by k_extra "my num"⟩ ⟨by k_extra "my num", by k_extra "my num"⟩ (by k_extra "my num") (by k_extra "my num") (by k_extra "my num") (by k_extra "my num")
  · with_reducible rename Fr h₀ L _ _ => kF
    with_reducible rename News h₀ L _ _ => kN
    exact fin _ _ _ _ _ _ _ _ _ _ _ _ _ _ _ _ _ _ _ _ _ _ _ _ _ _ _ _ _ _ kF kN (by k_mem) (by k_mem) (by k_mem) (by k_mem) (by k_mem) (by k_extra "my sub") rfl rfl rfl rfl rfl (by k_extra "my num") (by k_extra "my num") (by k_extra "my num") (by k_extra "my num") (by k_extra "my num") ⟨by k_extra "my num", by k_extra "my num"⟩ ⟨by k_extra "my num", by k_extra "my num"⟩ (by k_extra "my num") (by k_extra "my num") (by k_extra "my num") (by k_extra "my num")
  · with_reducible rename Fr h₀ L _ _ => kF
    with_reducible rename News h₀ L _ _ => kN
    exact fin _ _ _ _ _ _ _ _ _ _ _ _ _ _ _ _ _ _ _ _ _ _ _ _ _ _ _ _ _ _ kF kN (by k_mem) (by k_mem) (by k_mem) (by k_mem) (by k_mem) (by k_extra "my sub") rfl rfl rfl rfl rfl (by k_extra "my num") (by k_extra "my num") (by k_extra "my num") (by k_extra "my num") (by k_extra "my num") ⟨by k_extra "my num", by k_extra "my num"⟩ ⟨by k_extra "my num", by k_extra "my num"⟩ (by k_extra "my num") (by k_extra "my num") (by k_extra "my num") (by k_extra "my num")
  · with_reducible rename Fr h₀ L _ _ => kF
    with_reducible rename News h₀ L _ _ => kN
    exact fin _ _ _ _ _ _ _ _ _ _ _ _ _ _ _ _ _ _ _ _ _ _ _ _ _ _ _ _ _ _ kF kN (by k_mem) (by k_mem) (by k_mem) (by k_mem) (by k_mem) (by k_extra "my sub") rfl rfl rfl rfl rfl (by k_extra "my num") (by k_extra "my num") (by k_extra "my num") (by k_extra "my num") (by k_extra "my num") ⟨by k_extra "my num", by k_extra "my num"⟩ ⟨by k_extra "my num", by k_extra "my num"⟩ (by k_extra "my num") (by k_extra "my num") (by k_extra "my num") (by k_extra "my num")
  · repeat ((fail_if_success (with_reducible show wpAny _ _ (call (Value.ref 245) _) _ _ _)); k_extra "my onestep")
    (k_dflt (refine' Mine.next_call ?zB ?zF ?zX ?zN ?zT ?zk ?zU ?zn ?zI ?ztn ?zlen ?zc0 ?zc1 ?zs0 ?zs1 ?zm0 ?zm1 ?zdp ?zun ?_; (case zB => k_asm); (case zF => k_asm); (case zX => k_asm); (case zN => k_asm); (case zT => k_asm); (case zk => exact rfl); (case zU => k_updF); (case zn => k_mem); (case zI => assumption); (case ztn => assumption); (case zlen => omega); (case zc0 => omega); (case zc1 => omega); (case zs0 => omega); (case zs1 => omega); (case zm0 => omega); (case zm1 => omega); (case zdp => (k_extra "my room")); (case zun => (k_extra "my units")); k_whole); intro fz sz ft ft1 ft2 fh fk FZ NZ fz0 fz1 sz0 sz1; (try dsimp only); (try k_fold))
    repeat ((fail_if_success (with_reducible show wpAny _ _ (call (Value.ref 245) _) _ _ _)); k_extra "my onestep")
    (k_dflt (refine' Mine.next_call ?zB ?zF ?zX ?zN ?zT ?zk ?zU ?zn ?zI ?ztn ?zlen ?zc0 ?zc1 ?zs0 ?zs1 ?zm0 ?zm1 ?zdp ?zun ?_; (case zB => k_asm); (case zF => k_asm); (case zX => k_asm); (case zN => k_asm); (case zT => k_asm); (case zk => exact rfl); (case zU => k_updF); (case zn => k_mem); (case zI => assumption); (case ztn => assumption); (case zlen => omega); (case zc0 => omega); (case zc1 => omega); (case zs0 => omega); (case zs1 => omega); (case zm0 => omega); (case zm1 => omega); (case zdp => (k_extra "my room")); (case zun => (k_extra "my units")); k_whole); intro dz sy dt dt1 dt2 dh dk FY NY dz0 dz1 sy0 sy1; (try dsimp only); (try k_fold))
    k_extra "my upto For"
    revert e1'
    with_reducible rename (_ : Int) = ite _ _ _ => ek5
    revert ek5
    with_reducible rename (_ : Int) = ite _ _ _ => eb5
    revert eb5
    with_reducible rename (_ : Int) = ite _ _ _ => ec5
    intro eb5 ek5 e1'
    have hb9 := rep_bounds (g := zT) h0 hcl hl1 (i := fz) (j := fz + dz) (by k_extra "my num") (by k_extra "my num") (by k_extra "my num") e1'
    rw [← e0'] at hb9
    refine wpAny_For ?_
    k_extra "my upto iter"
    with_reducible rename Fr _ _ _ _ => F8
    with_reducible rename News _ _ _ _ => N8
    obtain ⟨oth, N7, hoth, hno⟩ := pick1 (q := (tw, _)) N8 (by k_mem)
    have m1 := hoth (t, _) (by k_mem) htw
    have m2 := hoth (nu, _) (by k_mem) hnt
    have m3 := hoth (mx, _) (by k_mem) hmt
    have m4 := hoth (dx, _) (by k_mem) hdt
    have m5 := hoth (TL, _) (by k_mem) (by k_ne)
    have mr := fun p hp => hoth p (by k_extra "my tail") (hr2 p hp)
    clear N8
    dsimp only at hno
    refine' mr_list (σ := (Int × Tok) × (Int × Tok)) (vs := [_, _]) (nl := _) (fun st => (tw, twinO o0' o3' o1' o4' o2' o5' lb o6' st.1.1 st.1.2 st.2.1 st.2.2 nw) :: oth) (fun _ => [(Str.ofString "first", .int fz ft), (Str.ofString "behind", .int (fz + dz) _), (Str.ofString "piece", .str zT tT), (Str.ofString "twin", .ref tw)])
      (fun i st => st.1.1 = (if 1 ≤ i then mark fz (fz + dz) zT.length b else b) ∧ st.2.1 = (if 2 ≤ i then mark fz (fz + dz) zT.length k else k)) ((b, o7'), (k, o8')) (by exact rfl) (fun _ => .tail _ m5) F8 N7 ?zk ⟨rfl, rfl⟩ ?zturn ?zdone
    case zk => (k_extra "my kall")
    case zturn =>
      rintro i v ⟨⟨bb, tb⟩, ⟨kk, tk0⟩⟩ u h6 tk6 I oI hv ⟨hP1, hP2⟩ F6 N6 off6
      dsimp only at hP1 hP2 N6 off6
      dsimp only [kstB] at F6
      have offI := off6 _ (.head _)
      dsimp only at offI
      rcases two_at hv with ⟨rfl, rfl⟩ | ⟨rfl, rfl⟩
      · rw [if_neg (by decide)] at hP1 hP2
        subst hP1 hP2
        k_extra "my steps"
        · with_reducible rename fz ≤ _ => hle
          exact mr_end ((_, _), (_, _)) (by k_asm) (by k_asm) (by k_mem) (by k_extra "my sub") (List.forall_mem_cons.mpr ⟨offI, fun p hp => off6 p (.tail _ hp)⟩) (by (k_extra "my kall")) ⟨by dsimp only; rw [if_pos (by decide), mark_yes hle], by dsimp only; rw [if_neg (by decide)]⟩
        · with_reducible rename ¬ fz ≤ _ => hle
          exact mr_end ((_, _), (_, _)) (by k_asm) (by k_asm) (by k_mem) (by k_extra "my sub") (List.forall_mem_cons.mpr ⟨offI, fun p hp => off6 p (.tail _ hp)⟩) (by (k_extra "my kall")) ⟨by dsimp only; rw [if_pos (by decide), mark_no hle], by dsimp only; rw [if_neg (by decide)]⟩
      · rw [if_pos (by decide)] at hP1
        rw [if_neg (by decide)] at hP2
        subst hP2
        k_extra "my steps"
        · with_reducible rename fz ≤ _ => hle
          exact mr_end ((_, _), (_, _)) (by k_asm) (by k_asm) (by k_mem) (by k_extra "my sub") (List.forall_mem_cons.mpr ⟨offI, fun p hp => off6 p (.tail _ hp)⟩) (by (k_extra "my kall")) ⟨by dsimp only; rw [if_pos (by decide)]; exact hP1, by dsimp only; rw [if_pos (by decide), mark_yes hle]⟩
        · with_reducible rename ¬ fz ≤ _ => hle
          exact mr_end ((_, _), (_, _)) (by k_asm) (by k_asm) (by k_mem) (by k_extra "my sub") (List.forall_mem_cons.mpr ⟨offI, fun p hp => off6 p (.tail _ hp)⟩) (by (k_extra "my kall")) ⟨by dsimp only; rw [if_pos (by decide)]; exact hP1, by dsimp only; rw [if_pos (by decide), mark_no hle]⟩
    case zdone =>
      rintro ⟨⟨bb, tb⟩, ⟨kk, tk0⟩⟩ u h6 tk6 ⟨hP1, hP2⟩ F6 N6
      dsimp only at hP1 hP2 N6
      dsimp only [kstB] at F6
      simp only [List.length_cons, List.length_nil] at hP1 hP2
      rw [if_pos (by decide)] at hP1 hP2
      have hbB := mark_bounds (i := fz) (j := fz + dz) (g := zT.length) (by k_extra "my num") (by k_extra "my num") (by k_extra "my num") (by k_extra "my num") hb
      have hkB := mark_bounds (i := fz) (j := fz + dz) (g := zT.length) (by k_extra "my num") (by k_extra "my num") (by k_extra "my num") (by k_extra "my num") hkb
      rw [← hP1] at hbB
      rw [← hP2] at hkB
      (try dsimp only)
      k_extra "my steps"
      with_reducible rename Fr h₀ L _ _ => kF
      with_reducible rename News h₀ L _ _ => kN
      exact fin _ _ _ _ _ _ _ _ _ _ _ _ _ _ _ _ _ _ _ _ _ _ _ _ _ _ _ _ _ _ kF kN (.tail _ m1) (.tail _ m2) (.tail _ m3) (.tail _ m4) (.head _) (fun p hp => .tail _ (mr p hp)) e0'.symm (ec5.trans e1'.symm) e2'.symm (eb5.trans hP1.symm) (ek5.trans hP2.symm) (by k_extra "my num") (by k_extra "my num") (by k_extra "my num") (by k_extra "my num") (by k_extra "my num") hbB hkB (by k_extra "my num") (by k_extra "my num") (by k_extra "my num") (by k_extra "my num")
  · with_reducible rename Fr _ _ _ _ => F8
    with_reducible rename News _ _ _ _ => N8
    have N5 := news5 (rest := rest) (q1 := (t, _)) (q2 := (nu, _)) (q3 := (mx, _)) (q4 := (dx, _)) (q5 := (tw, _)) N8 (by k_mem) (by k_mem) (by k_mem) (by k_mem) (by k_mem) (by k_extra "my sub")
    k_dflt (refine' found_spec ?zB F8 ?zX N5 ?zT (by exact rfl) hI hlen ?zc0 ?zc1 ?zs0 ?zs1 htn htm htd htw hmd hmt hdt hnd hnt hr0 hr1 hr2 ?zx h0 hcl hl1 hlb ?zdp ?zun ?_; (case zB => k_asm); (case zX => k_asm); (case zT => k_asm); (case zx => omega); (case zc0 => omega); (case zc1 => omega); (case zs0 => omega); (case zs1 => omega); (case zdp => (k_extra "my room")); (case zun => (k_extra "my units")); k_whole)
    intro c9 tc9 sd9 τ0 τ1 τ2 τ3 τ4 τ5 σ0 σ1 σ2 σ3 σ4 σ5 t19 t29 h9 tk9 F9 N9 hc90 hc9l htc90 htc91 hsd90 hsd91
    clear N5 N8
    (try dsimp only)
    k_extra "my steps"
    with_reducible rename Fr h₀ L _ _ => kF
    with_reducible rename News h₀ L _ _ => kN
    exact fin _ _ _ _ _ _ _ _ _ _ _ _ _ _ _ _ _ _ _ _ _ _ _ _ _ _ _ _ _ _ kF kN (by k_mem) (by k_mem) (by k_mem) (by k_mem) (by k_mem) (by k_extra "my sub") rfl rfl rfl rfl rfl (by k_extra "my num") (by k_extra "my num") (by k_extra "my num") (by k_extra "my num") (by k_extra "my num") ⟨by k_extra "my num", by k_extra "my num"⟩ ⟨by k_extra "my num", by k_extra "my num"⟩ (by k_extra "my num") (by k_extra "my num") (by k_extra "my num") (by k_extra "my num")
  · with_reducible rename Fr h₀ L _ _ => kF
    with_reducible rename News h₀ L _ _ => kN
    exact fin _ _ _ _ _ _ _ _ _ _ _ _ _ _ _ _ _ _ _ _ _ _ _ _ _ _ _ _ _ _ kF kN (by k_mem) (by k_mem) (by k_mem) (by k_mem) (by k_mem) (by k_extra "my sub") rfl rfl rfl rfl rfl (by k_extra "my num") (by k_extra "my num") (by k_extra "my num") (by k_extra "my num") (by k_extra "my num") ⟨by k_extra "my num", by k_extra "my num"⟩ ⟨by k_extra "my num", by k_extra "my num"⟩ (by k_extra "my num") (by k_extra "my num") (by k_extra "my num") (by k_extra "my num")
  · with_reducible rename Fr h₀ L _ _ => kF
    with_reducible rename News h₀ L _ _ => kN
    exact fin _ _ _ _ _ _ _ _ _ _ _ _ _ _ _ _ _ _ _ _ _ _ _ _ _ _ _ _ _ _ kF kN (by k_mem) (by k_mem) (by k_mem) (by k_mem) (by k_mem) (by k_extra "my sub") rfl rfl rfl rfl rfl (by simp only [app_len]; omega) (by k_extra "my num") (by k_extra "my num") (by k_extra "my num") (by k_extra "my num") ⟨by k_extra "my num", by k_extra "my num"⟩ ⟨by k_extra "my num", by simp only [app_len]; omega⟩ (by k_extra "my num") (by k_extra "my num") (by k_extra "my num") (by k_extra "my num")
 ) (by exact Nat) _))

theorem words_jLaw_18 : True := by
  k_with_none
  k_with "my own k_all" => first | with_reducible assumption | exact Mine.ne_nil9 | exact Mine.off1_D (by with_reducible assumption) | (refine' Mine.ne_cons9 ?h39209a ?h39209b; (case h39209a => k_ne); (case h39209b => k_all)) | exact Mine.ne_allLt (by with_reducible assumption) | assumption | exact Mine.ne_allLt (by assumption) | exact List.forall_mem_nil _ | (refine' List.forall_mem_cons.mpr ⟨?h39209a, ?h39209b⟩; (case h39209a => k_ne); (case h39209b => k_all))
  k_with "my exec If" => refine wpAny_If ?_
  k_with "my subscriptTail" => (k_here; (with_reducible show wpAny _ _ (subscriptTail _ _ (Value.str _ _) (Value.int _ _)) _ _ _); (refine item_str (fitsSsize_of (N := 9223372036854775808) (by omega) (by omega) (Int.le_refl _)) (by omega) (by omega) ?_); intro _)
  k_with "my subscriptTail" => (k_here; (with_reducible show wpAny _ _ (subscriptTail _ (Expr.Slice none none none _) (Value.str _ _) (Value.ref _)) _ _ _); (with_reducible rename Fr _ _ _ _ => F'); (with_reducible rename News _ _ _ _ => N'); (refine slice_strN_nn_len (hsz := ?he93dfhsz) (s := ⟨_, _, _, _, _⟩) F' N' ?_); (case he93dfhsz => (rw [sizeLine_eq]; omega)); intro _ _ _ _ _ _)
  k_with "my subscriptTail" => (k_here; (with_reducible show wpAny _ _ (subscriptTail _ (Expr.Slice none (some _) none _) (Value.str _ _) (Value.ref _)) _ _ _); (with_reducible rename Fr _ _ _ _ => F'); (with_reducible rename News _ _ _ _ => N'); (refine slice_strN_ns_len (hsz := ?h5ee70hsz) (s := ⟨_, _, _, _, _⟩) F' N' ?_); (case h5ee70hsz => (rw [sizeLine_eq]; omega)); intro _ _ _ _ _ _)
  k_with "my subscriptTail" => (k_here; (with_reducible show wpAny _ _ (subscriptTail _ (Expr.Slice (some _) none none _) (Value.str _ _) (Value.ref _)) _ _ _); (with_reducible rename Fr _ _ _ _ => F'); (with_reducible rename News _ _ _ _ => N'); (refine slice_strN_sn_len (hsz := ?habc6bhsz) (s := ⟨_, _, _, _, _⟩) F' N' ?_); (case habc6bhsz => (rw [sizeLine_eq]; omega)); intro _ _ _ _ _ _)
  k_with "my subscriptTail" => (k_here; (with_reducible show wpAny _ _ (subscriptTail _ (Expr.Slice (some _) (some _) none _) (Value.str _ _) (Value.ref _)) _ _ _); (with_reducible rename Fr _ _ _ _ => F'); (with_reducible rename News _ _ _ _ => N'); (refine slice_strN_ss_len (hsz := ?h78793hsz) (s := ⟨_, _, _, _, _⟩) F' N' ?_); (case h78793hsz => (rw [sizeLine_eq]; omega)); intro _ _ _ _ _ _)
  k_with "my subscriptTail Name Constant ref int" => (k_here; k_dflt (refine' Mine.itemLit_K ?h4db2bzN ?h4db2bzm ?h4db2bz0 ?h4db2bzf ?h4db2bzx ?_ ?h4db2bzs ?h4db2bzg; (case h4db2bzN => k_asm); (case h4db2bzm => k_mem); (case h4db2bz0 => decide); (case h4db2bzf => decide); (case h4db2bzx => exact rfl); (case h4db2bzs => with_unfolding_all rfl); (case h4db2bzg => (intro _; with_unfolding_all rfl)); k_whole))
  k_with "my tail" => first | assumption | exact List.mem_append_left _ (by assumption) | exact List.mem_append_right _ (by assumption) | (refine List.mem_cons_of_mem _ ?_; k_extra "my tail")
  k_with "my sub" => first | exact Mine.all_nil | (refine Mine.all_cons ?h63e88zm ?h63e88zr; (case h63e88zm => k_mem); (case h63e88zr => k_extra "my sub")) | (intro p hp; k_extra "my tail")
  k_with "my own k_in" => first | k_in_fast | (refine' Frag.In.keeps ?hc3b53zX ?hc3b53zF; (case hc3b53zF => (refine' Fr.keep ?hc3b53zG; (case hc3b53zG => with_reducible assumption))); (case hc3b53zX => with_reducible assumption)) | assumption
  k_with "my own k_mem" => ((with_reducible show List.Mem _ _); refine Mine.memL ?_; with_reducible assumption)
  k_with "my onestep" => first | ((with_reducible show wpAny _ _ _ _ _ _); walk1) | (k_unfold; (try dsimp only)) | (with_reducible refine' Mine.seqE_last (by with_reducible assumption) ?_) | (with_reducible refine' Mine.seqE_next (by with_reducible assumption) ?_) | (with_reducible refine' Mine.seqE_ret (by with_reducible assumption) ?_) | (with_reducible refine' Mine.seqE_brk (by with_reducible assumption) ?_) | (with_reducible refine' Mine.seqE_cont (by with_reducible assumption) ?_) | (with_reducible refine Mine.nameQ_end (f := (_ : Flow)) (by with_reducible assumption) ?_) | (k_end; wrow_close) | walk1 | (dsimp only; walk1) | (leave1; walk_say "STEP leave1"; try dsimp only)
  k_with "my upto While" => repeat ((fail_if_success (with_reducible show wpAny _ _ (exec (Stmt.While _ _ _ _) _) _ _ _)); k_extra "my onestep")
  k_with "my upto For" => repeat ((fail_if_success (with_reducible show wpAny _ _ (exec (Stmt.For _ _ _ _ _) _) _ _ _)); k_extra "my onestep")
  k_with "my upto iter" => repeat ((fail_if_success (with_reducible show wpAny _ _ (pyIter _) _ _ _)); k_extra "my onestep")
  k_with "my MwPost" => (dsimp only [Mine.MwPost])
  k_with "my noend" => ((fail_if_success (with_reducible show InvEndN _ _ _ _ _ _ _)); (fail_if_success (with_reducible show Mine.CutPost _ _ _ _ _ _ _ _)); (fail_if_success (with_reducible show Mine.MwEnd _ _ _ _ _ _ _ _ _)); (fail_if_success (with_reducible show LCg.CompEnd _ _ _ _ _ _ _ _ _ _ _ _ _ _)); (fail_if_success (with_reducible show KswEnd _ _ _ _ _ _ _ _ _ _ _ _)))
  k_with "my steps" => repeat' (first | ((with_reducible show wpAny _ _ _ _ _ _); walk1) | (k_extra "my noend"; k_extra "my onestep"))
  k_with "my upto CompSrc" => repeat ((fail_if_success (with_reducible show LCg.CompSrc _ _ _ _ _ _ _ _ _ _ _ _ _ _)); (fail_if_success (with_reducible show LCt.CompSrcT _ _ _ _ _ _ _ _ _ _ _ _ _ _ _)); k_extra "my onestep")
  k_with "my own k_ne" => first | with_reducible (first | assumption | exact Mine.cjg4 (by with_reducible assumption) | exact Mine.cjg3 (by with_reducible assumption) | exact Ne.symm (by assumption) | exact Mine.gt_ne0 (by assumption) | exact Mine.s_ne1 | exact Mine.r_ne1 | exact Mine.lt_ne1 (by assumption) | exact Mine.gt_ne1 (by assumption) | exact Mine.s_ne2 | exact Mine.r_ne2 | exact Mine.lt_ne2 (by assumption) | exact Mine.gt_ne2 (by assumption) | exact Mine.r_ne3 | exact Mine.lt_ne3 (by assumption) | exact Mine.gt_ne3 (by assumption) | exact Mine.lt_ne4 (by assumption) | exact Mine.gt_ne4 (by assumption)) | exact Mine.off3_i1 (by with_reducible assumption) (by k_mem) | exact Mine.off3_c1 (by with_reducible assumption) (by k_mem) | exact Mine.off3_d1 (by with_reducible assumption) (by k_mem) | exact Mine.off1_d1 (by with_reducible assumption) (by k_mem) | exact Mine.ltm_0 (by with_reducible assumption) (by k_mem) | exact Mine.ltm_1 (by with_reducible assumption) (by k_mem) | exact Mine.nem_1 (by with_reducible assumption) (by k_mem) | with_reducible (first | exact Mine.cjl0 (by with_reducible assumption) | exact Mine.cjl1 (by with_reducible assumption) | exact Mine.cjg1 (by with_reducible assumption) | exact Mine.cjl2e (by with_reducible assumption) | exact Mine.cjg2 (by with_reducible assumption) | exact Mine.cjg3 (by with_reducible assumption) | exact Mine.cjg4 (by with_reducible assumption) | exact Mine.cjg6 (by with_reducible assumption) | exact Mine.cjg7 (by with_reducible assumption)) | (refine neN ?_; (try dsimp only); first | omega (config := { splitDisjunctions := false }) | (walk_say "NECONJ"; (repeat (with_reducible rename _ ∧ _ => hcj; obtain ⟨_, _⟩ := hcj)); first | with_reducible assumption | (refine Ne.symm ?_; with_reducible assumption)))
  k_with "my kall1" => first | exact Mine.all_nil | (refine Mine.all_cons ?h6bfabzm ?h6bfabzr; (case h6bfabzm => with_unfolding_all (first | (k_whole; exact Eq.refl (some _)) | rfl)); (case h6bfabzr => k_extra "my kall1"))
  k_with "my kall" => first | (k_whole; k_extra "my kall1") | ((try dsimp only) <;> (k_extra "my kall1"))
  k_with "my cut" => repeat (obtain ⟨hcA, hcj⟩ : _ ∧ _ := hcj; (try (obtain ⟨_, hcA⟩ : _ ∧ _ := hcA; (try (obtain ⟨_, _⟩ : _ ∧ _ := hcA)))))
  k_with "my room" => first | with_reducible assumption | exact Mine.off2 (by with_reducible assumption) (by exact Eq.refl true) | ktr_room
  k_with "my units" => first | with_reducible assumption | exact Mine.off2 (by with_reducible assumption) (by exact Eq.refl true) | ktr_units
  k_with "my num" => first | (k_whole; with_reducible (first | assumption | (show (_ : Int) < _; first | exact Mine.nm_b (by with_reducible assumption) (by with_unfolding_all exact Eq.refl true) | exact Mine.nm_a (by with_reducible assumption) (by with_unfolding_all exact Eq.refl true) | exact Mine.nc_a (by with_reducible assumption) (by with_unfolding_all exact Eq.refl true) | exact Mine.no_a4 (by with_reducible assumption) (by with_unfolding_all exact Eq.refl true) | exact Mine.no_a3 (by with_reducible assumption) (by with_unfolding_all exact Eq.refl true) | exact Mine.no_a2 (by with_reducible assumption) (by with_unfolding_all exact Eq.refl true) | exact Mine.no_a1 (by with_reducible assumption) (by with_unfolding_all exact Eq.refl true)) | (show (_ : Int) ≤ _; first | exact Mine.no_c2 (by with_reducible assumption) (by with_unfolding_all exact Eq.refl true) | exact Mine.no_e2 (by with_unfolding_all exact Eq.refl true) | exact Mine.nm_e (by with_reducible assumption) (by with_unfolding_all exact Eq.refl true) | exact Mine.nm_c (by with_reducible assumption) (by with_unfolding_all exact Eq.refl true) | exact Mine.nc_c (by with_reducible assumption) (by with_unfolding_all exact Eq.refl true) | exact Mine.nc_e (by with_unfolding_all exact Eq.refl true) | exact Mine.nz_e (by with_unfolding_all exact Eq.refl true) | exact Mine.no_c5 (by with_reducible assumption) (by with_unfolding_all exact Eq.refl true) | exact Mine.no_c4 (by with_reducible assumption) (by with_unfolding_all exact Eq.refl true) | exact Mine.no_c3 (by with_reducible assumption) (by with_unfolding_all exact Eq.refl true) | exact Mine.no_c1 (by with_reducible assumption) (by with_unfolding_all exact Eq.refl true) | exact Mine.no_e5 (by with_unfolding_all exact Eq.refl true) | exact Mine.no_e4 (by with_unfolding_all exact Eq.refl true) | exact Mine.no_e3 (by with_unfolding_all exact Eq.refl true) | exact Mine.no_g3 (by with_reducible assumption) (by with_unfolding_all exact Eq.refl true) | exact Mine.no_g2 (by with_reducible assumption) (by with_unfolding_all exact Eq.refl true) | exact Mine.no_g1 (by with_reducible assumption) (by with_unfolding_all exact Eq.refl true)) | (show (_ : Nat) < _; first | exact Mine.nn_b (by with_reducible assumption) (by with_unfolding_all exact Eq.refl true)) | (show (_ : Nat) ≤ _; first | exact Mine.nn_c (by with_reducible assumption) (by with_unfolding_all exact Eq.refl true) | exact Mine.nle_1 | exact Mine.nle_2 | exact Mine.nle_3 | exact Mine.nle_4))) | (decide +kernel) | omega
  k_with "my ev name" => first | (refine' Mine.ev_L ?h6e1a0F ?h6e1a0k ?h6e1a0x ?h6e1a0v ?h6e1a0d; (case h6e1a0x => rfl); (case h6e1a0F => k_asm); (case h6e1a0k => first | exact rfl | assumption); (case h6e1a0v => exact Eq.refl (some _)); (case h6e1a0d => decide)) | (refine' Mine.ev_C ?h6e1a0N ?h6e1a0k ?h6e1a0x ?h6e1a0c ?h6e1a0m ?h6e1a0o ?h6e1a0d; (case h6e1a0k => first | exact rfl | assumption); (case h6e1a0x => rfl); (case h6e1a0N => k_asm); (case h6e1a0c => rfl); (case h6e1a0m => k_mem); (case h6e1a0o => k_asm); (case h6e1a0d => decide))
  k_with "my ev0" => first | (with_reducible exact Mine.ev_int) | ((with_reducible refine' Mine.ev_L ?h84e4cF ?h84e4ck ?h84e4cx ?h84e4cv ?h84e4cd); (case h84e4cx => rfl); (case h84e4cF => k_asm); (case h84e4ck => first | exact rfl | assumption); (case h84e4cv => exact Eq.refl (some _)); (case h84e4cd => decide)) | ((with_reducible refine' Mine.ev_attr ?h84e4cF ?h84e4cX ?h84e4cH ?h84e4cI ?h84e4cg ?h84e4ch ?h84e4ca ?h84e4cn ?h84e4cl ?h84e4cv); (case h84e4cF => k_asm); (case h84e4cX => k_asm); (case h84e4cH => k_extra "my ev name"); (case h84e4cI => k_inst); (case h84e4cg => k_is); (case h84e4ch => k_is); (case h84e4ca => k_is); (case h84e4cn => k_is); (case h84e4cl => k_get); (case h84e4cv => k_handed)) | ((with_reducible refine' Mine.ev_item ?h84e4cN ?h84e4cH ?h84e4cm ?h84e4cz ?h84e4cx); (case h84e4cN => k_asm); (case h84e4cH => k_extra "my ev name"); (case h84e4cm => k_mem); (case h84e4cz => exact rfl); (case h84e4cx => exact rfl)) | ((with_reducible refine' Mine.ev_add ?h84e4cx ?h84e4cy); (case h84e4cx => k_extra "my ev1"); (case h84e4cy => k_extra "my ev1")) | ((with_reducible refine' Mine.ev_sub ?h84e4cx ?h84e4cy); (case h84e4cx => k_extra "my ev1"); (case h84e4cy => k_extra "my ev1")) | ((with_reducible refine' Mine.ev_eq ?h84e4cx ?h84e4cy ?h84e4cz); (case h84e4cx => k_extra "my ev1"); (case h84e4cy => k_extra "my ev1"); (case h84e4cz => with_unfolding_all rfl)) | ((with_reducible refine' Mine.ev_ne ?h84e4cx ?h84e4cy ?h84e4cz); (case h84e4cx => k_extra "my ev1"); (case h84e4cy => k_extra "my ev1"); (case h84e4cz => with_unfolding_all rfl)) | ((with_reducible refine' Mine.ev_lt ?h84e4cx ?h84e4cy ?h84e4cz); (case h84e4cx => k_extra "my ev1"); (case h84e4cy => k_extra "my ev1"); (case h84e4cz => with_unfolding_all rfl)) | ((with_reducible refine' Mine.ev_le ?h84e4cx ?h84e4cy ?h84e4cz); (case h84e4cx => k_extra "my ev1"); (case h84e4cy => k_extra "my ev1"); (case h84e4cz => with_unfolding_all rfl)) | ((with_reducible refine' Mine.ev_gt ?h84e4cx ?h84e4cy ?h84e4cz); (case h84e4cx => k_extra "my ev1"); (case h84e4cy => k_extra "my ev1"); (case h84e4cz => with_unfolding_all rfl)) | ((with_reducible refine' Mine.ev_ge ?h84e4cx ?h84e4cy ?h84e4cz); (case h84e4cx => k_extra "my ev1"); (case h84e4cy => k_extra "my ev1"); (case h84e4cz => with_unfolding_all rfl)) | ((with_reducible refine' Mine.ev_C ?h84e4cN ?h84e4ck ?h84e4cx ?h84e4cc ?h84e4cm ?h84e4co ?h84e4cd); (case h84e4cx => rfl); (case h84e4ck => first | exact rfl | assumption); (case h84e4cN => k_asm); (case h84e4cc => rfl); (case h84e4cm => k_mem); (case h84e4co => k_asm); (case h84e4cd => decide)) | (with_reducible exact Mine.ev_str) | (with_reducible exact Mine.ev_bool) | (with_reducible exact Mine.ev_none)
  k_with "my ev1" => first | (with_reducible exact Mine.ev_int) | ((with_reducible refine' Mine.ev_L ?h1cd45F ?h1cd45k ?h1cd45x ?h1cd45v ?h1cd45d); (case h1cd45x => rfl); (case h1cd45F => k_asm); (case h1cd45k => first | exact rfl | assumption); (case h1cd45v => exact Eq.refl (some _)); (case h1cd45d => decide)) | ((with_reducible refine' Mine.ev_attr ?h1cd45F ?h1cd45X ?h1cd45H ?h1cd45I ?h1cd45g ?h1cd45h ?h1cd45a ?h1cd45n ?h1cd45l ?h1cd45v); (case h1cd45F => k_asm); (case h1cd45X => k_asm); (case h1cd45H => k_extra "my ev name"); (case h1cd45I => k_inst); (case h1cd45g => k_is); (case h1cd45h => k_is); (case h1cd45a => k_is); (case h1cd45n => k_is); (case h1cd45l => k_get); (case h1cd45v => k_handed)) | ((with_reducible refine' Mine.ev_item ?h1cd45N ?h1cd45H ?h1cd45m ?h1cd45z ?h1cd45x); (case h1cd45N => k_asm); (case h1cd45H => k_extra "my ev name"); (case h1cd45m => k_mem); (case h1cd45z => exact rfl); (case h1cd45x => exact rfl)) | ((with_reducible refine' Mine.ev_add ?h1cd45x ?h1cd45y); (case h1cd45x => k_extra "my ev2"); (case h1cd45y => k_extra "my ev2")) | ((with_reducible refine' Mine.ev_sub ?h1cd45x ?h1cd45y); (case h1cd45x => k_extra "my ev2"); (case h1cd45y => k_extra "my ev2")) | ((with_reducible refine' Mine.ev_eq ?h1cd45x ?h1cd45y ?h1cd45z); (case h1cd45x => k_extra "my ev2"); (case h1cd45y => k_extra "my ev2"); (case h1cd45z => with_unfolding_all rfl)) | ((with_reducible refine' Mine.ev_ne ?h1cd45x ?h1cd45y ?h1cd45z); (case h1cd45x => k_extra "my ev2"); (case h1cd45y => k_extra "my ev2"); (case h1cd45z => with_unfolding_all rfl)) | ((with_reducible refine' Mine.ev_lt ?h1cd45x ?h1cd45y ?h1cd45z); (case h1cd45x => k_extra "my ev2"); (case h1cd45y => k_extra "my ev2"); (case h1cd45z => with_unfolding_all rfl)) | ((with_reducible refine' Mine.ev_le ?h1cd45x ?h1cd45y ?h1cd45z); (case h1cd45x => k_extra "my ev2"); (case h1cd45y => k_extra "my ev2"); (case h1cd45z => with_unfolding_all rfl)) | ((with_reducible refine' Mine.ev_gt ?h1cd45x ?h1cd45y ?h1cd45z); (case h1cd45x => k_extra "my ev2"); (case h1cd45y => k_extra "my ev2"); (case h1cd45z => with_unfolding_all rfl)) | ((with_reducible refine' Mine.ev_ge ?h1cd45x ?h1cd45y ?h1cd45z); (case h1cd45x => k_extra "my ev2"); (case h1cd45y => k_extra "my ev2"); (case h1cd45z => with_unfolding_all rfl)) | ((with_reducible refine' Mine.ev_C ?h1cd45N ?h1cd45k ?h1cd45x ?h1cd45c ?h1cd45m ?h1cd45o ?h1cd45d); (case h1cd45x => rfl); (case h1cd45k => first | exact rfl | assumption); (case h1cd45N => k_asm); (case h1cd45c => rfl); (case h1cd45m => k_mem); (case h1cd45o => k_asm); (case h1cd45d => decide)) | (with_reducible exact Mine.ev_str) | (with_reducible exact Mine.ev_bool) | (with_reducible exact Mine.ev_none)
  k_with "my ev2" => first | (with_reducible exact Mine.ev_int) | ((with_reducible refine' Mine.ev_L ?hdef3bF ?hdef3bk ?hdef3bx ?hdef3bv ?hdef3bd); (case hdef3bx => rfl); (case hdef3bF => k_asm); (case hdef3bk => first | exact rfl | assumption); (case hdef3bv => exact Eq.refl (some _)); (case hdef3bd => decide)) | ((with_reducible refine' Mine.ev_attr ?hdef3bF ?hdef3bX ?hdef3bH ?hdef3bI ?hdef3bg ?hdef3bh ?hdef3ba ?hdef3bn ?hdef3bl ?hdef3bv); (case hdef3bF => k_asm); (case hdef3bX => k_asm); (case hdef3bH => k_extra "my ev name"); (case hdef3bI => k_inst); (case hdef3bg => k_is); (case hdef3bh => k_is); (case hdef3ba => k_is); (case hdef3bn => k_is); (case hdef3bl => k_get); (case hdef3bv => k_handed)) | ((with_reducible refine' Mine.ev_item ?hdef3bN ?hdef3bH ?hdef3bm ?hdef3bz ?hdef3bx); (case hdef3bN => k_asm); (case hdef3bH => k_extra "my ev name"); (case hdef3bm => k_mem); (case hdef3bz => exact rfl); (case hdef3bx => exact rfl)) | ((with_reducible refine' Mine.ev_add ?hdef3bx ?hdef3by); (case hdef3bx => k_extra "my ev3"); (case hdef3by => k_extra "my ev3")) | ((with_reducible refine' Mine.ev_sub ?hdef3bx ?hdef3by); (case hdef3bx => k_extra "my ev3"); (case hdef3by => k_extra "my ev3")) | ((with_reducible refine' Mine.ev_eq ?hdef3bx ?hdef3by ?hdef3bz); (case hdef3bx => k_extra "my ev3"); (case hdef3by => k_extra "my ev3"); (case hdef3bz => with_unfolding_all rfl)) | ((with_reducible refine' Mine.ev_ne ?hdef3bx ?hdef3by ?hdef3bz); (case hdef3bx => k_extra "my ev3"); (case hdef3by => k_extra "my ev3"); (case hdef3bz => with_unfolding_all rfl)) | ((with_reducible refine' Mine.ev_lt ?hdef3bx ?hdef3by ?hdef3bz); (case hdef3bx => k_extra "my ev3"); (case hdef3by => k_extra "my ev3"); (case hdef3bz => with_unfolding_all rfl)) | ((with_reducible refine' Mine.ev_le ?hdef3bx ?hdef3by ?hdef3bz); (case hdef3bx => k_extra "my ev3"); (case hdef3by => k_extra "my ev3"); (case hdef3bz => with_unfolding_all rfl)) | ((with_reducible refine' Mine.ev_gt ?hdef3bx ?hdef3by ?hdef3bz); (case hdef3bx => k_extra "my ev3"); (case hdef3by => k_extra "my ev3"); (case hdef3bz => with_unfolding_all rfl)) | ((with_reducible refine' Mine.ev_ge ?hdef3bx ?hdef3by ?hdef3bz); (case hdef3bx => k_extra "my ev3"); (case hdef3by => k_extra "my ev3"); (case hdef3bz => with_unfolding_all rfl)) | ((with_reducible refine' Mine.ev_C ?hdef3bN ?hdef3bk ?hdef3bx ?hdef3bc ?hdef3bm ?hdef3bo ?hdef3bd); (case hdef3bx => rfl); (case hdef3bk => first | exact rfl | assumption); (case hdef3bN => k_asm); (case hdef3bc => rfl); (case hdef3bm => k_mem); (case hdef3bo => k_asm); (case hdef3bd => decide)) | (with_reducible exact Mine.ev_str) | (with_reducible exact Mine.ev_bool) | (with_reducible exact Mine.ev_none)
  k_with "my ev3" => first | (with_reducible exact Mine.ev_int) | ((with_reducible refine' Mine.ev_L ?h1a33cF ?h1a33ck ?h1a33cx ?h1a33cv ?h1a33cd); (case h1a33cx => rfl); (case h1a33cF => k_asm); (case h1a33ck => first | exact rfl | assumption); (case h1a33cv => exact Eq.refl (some _)); (case h1a33cd => decide)) | ((with_reducible refine' Mine.ev_attr ?h1a33cF ?h1a33cX ?h1a33cH ?h1a33cI ?h1a33cg ?h1a33ch ?h1a33ca ?h1a33cn ?h1a33cl ?h1a33cv); (case h1a33cF => k_asm); (case h1a33cX => k_asm); (case h1a33cH => k_extra "my ev name"); (case h1a33cI => k_inst); (case h1a33cg => k_is); (case h1a33ch => k_is); (case h1a33ca => k_is); (case h1a33cn => k_is); (case h1a33cl => k_get); (case h1a33cv => k_handed)) | ((with_reducible refine' Mine.ev_item ?h1a33cN ?h1a33cH ?h1a33cm ?h1a33cz ?h1a33cx); (case h1a33cN => k_asm); (case h1a33cH => k_extra "my ev name"); (case h1a33cm => k_mem); (case h1a33cz => exact rfl); (case h1a33cx => exact rfl)) | ((with_reducible refine' Mine.ev_add ?h1a33cx ?h1a33cy); (case h1a33cx => k_extra "my ev4"); (case h1a33cy => k_extra "my ev4")) | ((with_reducible refine' Mine.ev_sub ?h1a33cx ?h1a33cy); (case h1a33cx => k_extra "my ev4"); (case h1a33cy => k_extra "my ev4")) | ((with_reducible refine' Mine.ev_eq ?h1a33cx ?h1a33cy ?h1a33cz); (case h1a33cx => k_extra "my ev4"); (case h1a33cy => k_extra "my ev4"); (case h1a33cz => with_unfolding_all rfl)) | ((with_reducible refine' Mine.ev_ne ?h1a33cx ?h1a33cy ?h1a33cz); (case h1a33cx => k_extra "my ev4"); (case h1a33cy => k_extra "my ev4"); (case h1a33cz => with_unfolding_all rfl)) | ((with_reducible refine' Mine.ev_lt ?h1a33cx ?h1a33cy ?h1a33cz); (case h1a33cx => k_extra "my ev4"); (case h1a33cy => k_extra "my ev4"); (case h1a33cz => with_unfolding_all rfl)) | ((with_reducible refine' Mine.ev_le ?h1a33cx ?h1a33cy ?h1a33cz); (case h1a33cx => k_extra "my ev4"); (case h1a33cy => k_extra "my ev4"); (case h1a33cz => with_unfolding_all rfl)) | ((with_reducible refine' Mine.ev_gt ?h1a33cx ?h1a33cy ?h1a33cz); (case h1a33cx => k_extra "my ev4"); (case h1a33cy => k_extra "my ev4"); (case h1a33cz => with_unfolding_all rfl)) | ((with_reducible refine' Mine.ev_ge ?h1a33cx ?h1a33cy ?h1a33cz); (case h1a33cx => k_extra "my ev4"); (case h1a33cy => k_extra "my ev4"); (case h1a33cz => with_unfolding_all rfl)) | ((with_reducible refine' Mine.ev_C ?h1a33cN ?h1a33ck ?h1a33cx ?h1a33cc ?h1a33cm ?h1a33co ?h1a33cd); (case h1a33cx => rfl); (case h1a33ck => first | exact rfl | assumption); (case h1a33cN => k_asm); (case h1a33cc => rfl); (case h1a33cm => k_mem); (case h1a33co => k_asm); (case h1a33cd => decide)) | (with_reducible exact Mine.ev_str) | (with_reducible exact Mine.ev_bool) | (with_reducible exact Mine.ev_none)
  k_with "my ev4" => first | (with_reducible exact Mine.ev_int) | ((with_reducible refine' Mine.ev_L ?hb89ebF ?hb89ebk ?hb89ebx ?hb89ebv ?hb89ebd); (case hb89ebx => rfl); (case hb89ebF => k_asm); (case hb89ebk => first | exact rfl | assumption); (case hb89ebv => exact Eq.refl (some _)); (case hb89ebd => decide)) | ((with_reducible refine' Mine.ev_attr ?hb89ebF ?hb89ebX ?hb89ebH ?hb89ebI ?hb89ebg ?hb89ebh ?hb89eba ?hb89ebn ?hb89ebl ?hb89ebv); (case hb89ebF => k_asm); (case hb89ebX => k_asm); (case hb89ebH => k_extra "my ev name"); (case hb89ebI => k_inst); (case hb89ebg => k_is); (case hb89ebh => k_is); (case hb89eba => k_is); (case hb89ebn => k_is); (case hb89ebl => k_get); (case hb89ebv => k_handed)) | ((with_reducible refine' Mine.ev_item ?hb89ebN ?hb89ebH ?hb89ebm ?hb89ebz ?hb89ebx); (case hb89ebN => k_asm); (case hb89ebH => k_extra "my ev name"); (case hb89ebm => k_mem); (case hb89ebz => exact rfl); (case hb89ebx => exact rfl)) | ((with_reducible refine' Mine.ev_add ?hb89ebx ?hb89eby); (case hb89ebx => k_extra "my ev5"); (case hb89eby => k_extra "my ev5")) | ((with_reducible refine' Mine.ev_sub ?hb89ebx ?hb89eby); (case hb89ebx => k_extra "my ev5"); (case hb89eby => k_extra "my ev5")) | ((with_reducible refine' Mine.ev_eq ?hb89ebx ?hb89eby ?hb89ebz); (case hb89ebx => k_extra "my ev5"); (case hb89eby => k_extra "my ev5"); (case hb89ebz => with_unfolding_all rfl)) | ((with_reducible refine' Mine.ev_ne ?hb89ebx ?hb89eby ?hb89ebz); (case hb89ebx => k_extra "my ev5"); (case hb89eby => k_extra "my ev5"); (case hb89ebz => with_unfolding_all rfl)) | ((with_reducible refine' Mine.ev_lt ?hb89ebx ?hb89eby ?hb89ebz); (case hb89ebx => k_extra "my ev5"); (case hb89eby => k_extra "my ev5"); (case hb89ebz => with_unfolding_all rfl)) | ((with_reducible refine' Mine.ev_le ?hb89ebx ?hb89eby ?hb89ebz); (case hb89ebx => k_extra "my ev5"); (case hb89eby => k_extra "my ev5"); (case hb89ebz => with_unfolding_all rfl)) | ((with_reducible refine' Mine.ev_gt ?hb89ebx ?hb89eby ?hb89ebz); (case hb89ebx => k_extra "my ev5"); (case hb89eby => k_extra "my ev5"); (case hb89ebz => with_unfolding_all rfl)) | ((with_reducible refine' Mine.ev_ge ?hb89ebx ?hb89eby ?hb89ebz); (case hb89ebx => k_extra "my ev5"); (case hb89eby => k_extra "my ev5"); (case hb89ebz => with_unfolding_all rfl)) | ((with_reducible refine' Mine.ev_C ?hb89ebN ?hb89ebk ?hb89ebx ?hb89ebc ?hb89ebm ?hb89ebo ?hb89ebd); (case hb89ebx => rfl); (case hb89ebk => first | exact rfl | assumption); (case hb89ebN => k_asm); (case hb89ebc => rfl); (case hb89ebm => k_mem); (case hb89ebo => k_asm); (case hb89ebd => decide)) | (with_reducible exact Mine.ev_str) | (with_reducible exact Mine.ev_bool) | (with_reducible exact Mine.ev_none)
  k_with "my evs" => first | (with_reducible exact Mine.evs_nil) | ((with_reducible refine' Mine.evs_cons ?h3ebe4x ?h3ebe4y ?h3ebe4z); (case h3ebe4x => k_extra "my ev0"); (case h3ebe4y => k_extra "my evs"); (case h3ebe4z => rfl))
  k_with "my execs cons" => (k_here; (try ((first | (with_reducible show wpAny _ _ _ (Mine.MwPost _ _ _ _ _ _ _ _ _) _ _) | (with_reducible show wpAny _ _ _ (Mine.MrPost _ _ _ _ _ _ _ _ _) _ _) | (with_reducible show wpAny _ _ _ (InvPostN _ _ _ _ _ _ _) _ _) | (with_reducible show wpAny _ _ _ (KswPost _ _ _ _ _ _ _ _ _ _ _ _) _ _)); refine Mine.nameQ ?_; intro Qn hQn)); (with_reducible refine Mine.execs_seqE ?_); intro Qk hQk)
  k_with "my eval Name" => (k_here; k_dflt (first | (refine' nameX_L ?hfde63F ?hfde63v ?_ ?hfde63a ?hfde63b; (case hfde63b => rfl); (case hfde63F => k_asm); (case hfde63a => rfl); (case hfde63v => exact Eq.refl (some _)); k_whole) | (refine' nameX_K ?hfde63F ?hfde63X ?hfde63T ?hfde63e ?_ ?hfde63a ?hfde63b; (case hfde63b => rfl); (case hfde63F => k_asm); (case hfde63X => k_asm); (case hfde63T => k_asm); (case hfde63a => rfl); (case hfde63e => k_is); k_whole) | (refine' nameX_B ?hfde63F ?hfde63X ?hfde63T ?hfde63e ?hfde63v ?hfde63n ?_ ?hfde63a ?hfde63b; (case hfde63b => rfl); (case hfde63F => k_asm); (case hfde63X => k_asm); (case hfde63T => k_asm); (case hfde63a => rfl); (case hfde63e => k_is); (case hfde63v => boot_fast); (case hfde63n => decide); k_whole)))
  k_with "my eval BinOp" => (k_here; k_dflt (refine' Mine.ev_use ?hcbeddu ?_; (case hcbeddu => k_extra "my ev0"); k_whole); (try dsimp only))
  k_with "my eval Compare" => (k_here; k_dflt (refine' Mine.ev_use ?h28b78u ?_; (case h28b78u => k_extra "my ev0"); k_whole); (try dsimp only))
  k_with "my eval Subscript" => (k_here; k_dflt (refine' Mine.ev_use ?h772c3u ?_; (case h772c3u => k_extra "my ev0"); k_whole); (try dsimp only))
  k_with "my eval Attribute Name" => (k_here; k_dflt (refine' Mine.ev_use ?he290du ?_; (case he290du => k_extra "my ev0"); k_whole); (try dsimp only))
  k_with "my spliced" => (k_here; (with_reducible show wpAny _ _ (spliced (backTo _ (starEach (_ :: _) _))) _ _ _); k_dflt (refine' Mine.evs_use ?hf8b0eu ?_; (case hf8b0eu => k_extra "my evs"); k_whole); (try dsimp only))
  k_with "my isTrue Compare" => (k_here; k_dflt (first | ((with_reducible refine' Mine.ist_eq ?hdb5ccx ?hdb5ccy ?hdb5ccz ?_); (case hdb5ccx => k_extra "my ev0"); (case hdb5ccy => k_extra "my ev0"); (case hdb5ccz => with_unfolding_all rfl); k_whole) | ((with_reducible refine' Mine.ist_ne ?hdb5ccx ?hdb5ccy ?hdb5ccz ?_); (case hdb5ccx => k_extra "my ev0"); (case hdb5ccy => k_extra "my ev0"); (case hdb5ccz => with_unfolding_all rfl); k_whole) | ((with_reducible refine' Mine.ist_lt ?hdb5ccx ?hdb5ccy ?hdb5ccz ?_); (case hdb5ccx => k_extra "my ev0"); (case hdb5ccy => k_extra "my ev0"); (case hdb5ccz => with_unfolding_all rfl); k_whole) | ((with_reducible refine' Mine.ist_le ?hdb5ccx ?hdb5ccy ?hdb5ccz ?_); (case hdb5ccx => k_extra "my ev0"); (case hdb5ccy => k_extra "my ev0"); (case hdb5ccz => with_unfolding_all rfl); k_whole) | ((with_reducible refine' Mine.ist_gt ?hdb5ccx ?hdb5ccy ?hdb5ccz ?_); (case hdb5ccx => k_extra "my ev0"); (case hdb5ccy => k_extra "my ev0"); (case hdb5ccz => with_unfolding_all rfl); k_whole) | ((with_reducible refine' Mine.ist_ge ?hdb5ccx ?hdb5ccy ?hdb5ccz ?_); (case hdb5ccx => k_extra "my ev0"); (case hdb5ccy => k_extra "my ev0"); (case hdb5ccz => with_unfolding_all rfl); k_whole)); (try dsimp only))
  k_with "my call ref" => (k_here; (with_reducible show wpAny _ _ (call (Value.ref 245) _) _ _ _); k_dflt (refine' Mine.next_call ?ha4751zB ?ha4751zF ?ha4751zX ?ha4751zN ?ha4751zT ?ha4751zk ?ha4751zU ?ha4751zn ?ha4751zI ?ha4751ztn ?ha4751zlen ?ha4751zc0 ?ha4751zc1 ?ha4751zs0 ?ha4751zs1 ?ha4751zm0 ?ha4751zm1 ?ha4751zdp ?ha4751zun ?_; (case ha4751zB => k_asm); (case ha4751zF => k_asm); (case ha4751zX => k_asm); (case ha4751zN => k_asm); (case ha4751zT => k_asm); (case ha4751zk => first | exact rfl | assumption); (case ha4751zU => k_updF); (case ha4751zn => k_mem); (case ha4751zI => assumption); (case ha4751ztn => first | assumption | k_extra "my num"); (case ha4751zlen => first | k_extra "my num" | (simp only [List.length_cons] at *; omega)); (case ha4751zc0 => first | k_extra "my num" | (simp only [List.length_cons] at *; omega)); (case ha4751zc1 => first | k_extra "my num" | (simp only [List.length_cons] at *; omega)); (case ha4751zs0 => first | k_extra "my num" | (simp only [List.length_cons] at *; omega)); (case ha4751zs1 => first | k_extra "my num" | (simp only [List.length_cons] at *; omega)); (case ha4751zm0 => first | k_extra "my num" | (simp only [List.length_cons] at *; omega)); (case ha4751zm1 => first | k_extra "my num" | (simp only [List.length_cons] at *; omega)); (case ha4751zdp => k_extra "my room"); (case ha4751zun => k_extra "my units"); k_whole); intro o0' o1' o2' o3' o4' o5' o6' F' N' e0' e1' e2' e3'; (try dsimp only at N'); (try k_sweep); (try dsimp only); (try k_fold))
  k_with "my call ref" => (k_here; (with_reducible show wpAny _ _ (call (Value.ref 63) _) _ _ _); k_dflt (refine' Mine.in_grouping_call ?h03145zB ?h03145zF ?h03145zX ?h03145zN ?h03145zT ?h03145zk ?h03145zm ?h03145zU ?h03145zd ?h03145zhx ?h03145zhc0 ?h03145zhcl ?h03145zhl1 ?h03145zhlb ?h03145zhdp ?h03145zhun ?_; (case h03145zB => k_asm); (case h03145zF => k_asm); (case h03145zX => k_asm); (case h03145zN => k_asm); (case h03145zT => k_asm); (case h03145zk => first | exact rfl | assumption); (case h03145zm => k_mem); (case h03145zU => k_updF); (case h03145zd => first | assumption | k_extra "my num"); (case h03145zhx => first | k_extra "my num" | (simp only [List.length_cons] at *; omega)); (case h03145zhc0 => first | k_extra "my num" | (simp only [List.length_cons] at *; omega)); (case h03145zhcl => first | k_extra "my num" | (simp only [List.length_cons] at *; omega)); (case h03145zhl1 => first | k_extra "my num" | (simp only [List.length_cons] at *; omega)); (case h03145zhlb => first | k_extra "my num" | (simp only [List.length_cons] at *; omega)); (case h03145zhdp => k_extra "my room"); (case h03145zhun => k_extra "my units"); k_whole); intro o0' o1' o2' o3' o4' o5' o6' o7' o8' o9' F' N' e0'; (try dsimp only at N'); (try k_sweep); (try dsimp only); (try k_fold))
  k_with "my call ref" => (k_here; (with_reducible show wpAny _ _ (call (Value.ref 70) _) _ _ _); k_dflt (refine' Mine.go_in_grouping_call ?h9b035zB ?h9b035zF ?h9b035zX ?h9b035zN ?h9b035zT ?h9b035zk ?h9b035zm ?h9b035zU ?h9b035zd ?h9b035zhx ?h9b035zhc0 ?h9b035zhcl ?h9b035zhl1 ?h9b035zhlb ?h9b035zhdp ?h9b035zhun ?_; (case h9b035zB => k_asm); (case h9b035zF => k_asm); (case h9b035zX => k_asm); (case h9b035zN => k_asm); (case h9b035zT => k_asm); (case h9b035zk => first | exact rfl | assumption); (case h9b035zm => k_mem); (case h9b035zU => k_updF); (case h9b035zd => first | assumption | k_extra "my num"); (case h9b035zhx => first | k_extra "my num" | (simp only [List.length_cons] at *; omega)); (case h9b035zhc0 => first | k_extra "my num" | (simp only [List.length_cons] at *; omega)); (case h9b035zhcl => first | k_extra "my num" | (simp only [List.length_cons] at *; omega)); (case h9b035zhl1 => first | k_extra "my num" | (simp only [List.length_cons] at *; omega)); (case h9b035zhlb => first | k_extra "my num" | (simp only [List.length_cons] at *; omega)); (case h9b035zhdp => k_extra "my room"); (case h9b035zhun => k_extra "my units"); k_whole); intro o0' o1' o2' o3' o4' o5' o6' o7' o8' o9' F' N' e0'; (try dsimp only at N'); (try k_sweep); (try dsimp only); (try k_fold))
  k_with "my call ref" => (k_here; (with_reducible show wpAny _ _ (call (Value.ref 77) _) _ _ _); k_dflt (refine' Mine.in_grouping_b_call ?hb5934zB ?hb5934zF ?hb5934zX ?hb5934zN ?hb5934zT ?hb5934zk ?hb5934zm ?hb5934zU ?hb5934zd ?hb5934zhx ?hb5934zhc0 ?hb5934zhcl ?hb5934zhl1 ?hb5934zhlb ?hb5934zhdp ?hb5934zhun ?_; (case hb5934zB => k_asm); (case hb5934zF => k_asm); (case hb5934zX => k_asm); (case hb5934zN => k_asm); (case hb5934zT => k_asm); (case hb5934zk => first | exact rfl | assumption); (case hb5934zm => k_mem); (case hb5934zU => k_updF); (case hb5934zd => first | assumption | k_extra "my num"); (case hb5934zhx => first | k_extra "my num" | (simp only [List.length_cons] at *; omega)); (case hb5934zhc0 => first | k_extra "my num" | (simp only [List.length_cons] at *; omega)); (case hb5934zhcl => first | k_extra "my num" | (simp only [List.length_cons] at *; omega)); (case hb5934zhl1 => first | k_extra "my num" | (simp only [List.length_cons] at *; omega)); (case hb5934zhlb => first | k_extra "my num" | (simp only [List.length_cons] at *; omega)); (case hb5934zhdp => k_extra "my room"); (case hb5934zhun => k_extra "my units"); k_whole); intro o0' o1' o2' o3' o4' o5' o6' o7' o8' o9' F' N' e0'; (try dsimp only at N'); (try k_sweep); (try dsimp only); (try k_fold))
  k_with "my call ref" => (k_here; (with_reducible show wpAny _ _ (call (Value.ref 84) _) _ _ _); k_dflt (refine' Mine.go_in_grouping_b_call ?h286b1zB ?h286b1zF ?h286b1zX ?h286b1zN ?h286b1zT ?h286b1zk ?h286b1zm ?h286b1zU ?h286b1zd ?h286b1zhx ?h286b1zhc0 ?h286b1zhcl ?h286b1zhl1 ?h286b1zhlb ?h286b1zhdp ?h286b1zhun ?_; (case h286b1zB => k_asm); (case h286b1zF => k_asm); (case h286b1zX => k_asm); (case h286b1zN => k_asm); (case h286b1zT => k_asm); (case h286b1zk => first | exact rfl | assumption); (case h286b1zm => k_mem); (case h286b1zU => k_updF); (case h286b1zd => first | assumption | k_extra "my num"); (case h286b1zhx => first | k_extra "my num" | (simp only [List.length_cons] at *; omega)); (case h286b1zhc0 => first | k_extra "my num" | (simp only [List.length_cons] at *; omega)); (case h286b1zhcl => first | k_extra "my num" | (simp only [List.length_cons] at *; omega)); (case h286b1zhl1 => first | k_extra "my num" | (simp only [List.length_cons] at *; omega)); (case h286b1zhlb => first | k_extra "my num" | (simp only [List.length_cons] at *; omega)); (case h286b1zhdp => k_extra "my room"); (case h286b1zhun => k_extra "my units"); k_whole); intro o0' o1' o2' o3' o4' o5' o6' o7' o8' o9' F' N' e0'; (try dsimp only at N'); (try k_sweep); (try dsimp only); (try k_fold))
  k_with "my call ref" => (k_here; (with_reducible show wpAny _ _ (call (Value.ref 91) _) _ _ _); k_dflt (refine' Mine.out_grouping_call ?h6b3f7zB ?h6b3f7zF ?h6b3f7zX ?h6b3f7zN ?h6b3f7zT ?h6b3f7zk ?h6b3f7zm ?h6b3f7zU ?h6b3f7zd ?h6b3f7zhx ?h6b3f7zhc0 ?h6b3f7zhcl ?h6b3f7zhl1 ?h6b3f7zhlb ?h6b3f7zhdp ?h6b3f7zhun ?_; (case h6b3f7zB => k_asm); (case h6b3f7zF => k_asm); (case h6b3f7zX => k_asm); (case h6b3f7zN => k_asm); (case h6b3f7zT => k_asm); (case h6b3f7zk => first | exact rfl | assumption); (case h6b3f7zm => k_mem); (case h6b3f7zU => k_updF); (case h6b3f7zd => first | assumption | k_extra "my num"); (case h6b3f7zhx => first | k_extra "my num" | (simp only [List.length_cons] at *; omega)); (case h6b3f7zhc0 => first | k_extra "my num" | (simp only [List.length_cons] at *; omega)); (case h6b3f7zhcl => first | k_extra "my num" | (simp only [List.length_cons] at *; omega)); (case h6b3f7zhl1 => first | k_extra "my num" | (simp only [List.length_cons] at *; omega)); (case h6b3f7zhlb => first | k_extra "my num" | (simp only [List.length_cons] at *; omega)); (case h6b3f7zhdp => k_extra "my room"); (case h6b3f7zhun => k_extra "my units"); k_whole); intro o0' o1' o2' o3' o4' o5' o6' o7' o8' o9' F' N' e0'; (try dsimp only at N'); (try k_sweep); (try dsimp only); (try k_fold))
  k_with "my call ref" => (k_here; (with_reducible show wpAny _ _ (call (Value.ref 98) _) _ _ _); k_dflt (refine' Mine.go_out_grouping_call ?h004e3zB ?h004e3zF ?h004e3zX ?h004e3zN ?h004e3zT ?h004e3zk ?h004e3zm ?h004e3zU ?h004e3zd ?h004e3zhx ?h004e3zhc0 ?h004e3zhcl ?h004e3zhl1 ?h004e3zhlb ?h004e3zhdp ?h004e3zhun ?_; (case h004e3zB => k_asm); (case h004e3zF => k_asm); (case h004e3zX => k_asm); (case h004e3zN => k_asm); (case h004e3zT => k_asm); (case h004e3zk => first | exact rfl | assumption); (case h004e3zm => k_mem); (case h004e3zU => k_updF); (case h004e3zd => first | assumption | k_extra "my num"); (case h004e3zhx => first | k_extra "my num" | (simp only [List.length_cons] at *; omega)); (case h004e3zhc0 => first | k_extra "my num" | (simp only [List.length_cons] at *; omega)); (case h004e3zhcl => first | k_extra "my num" | (simp only [List.length_cons] at *; omega)); (case h004e3zhl1 => first | k_extra "my num" | (simp only [List.length_cons] at *; omega)); (case h004e3zhlb => first | k_extra "my num" | (simp only [List.length_cons] at *; omega)); (case h004e3zhdp => k_extra "my room"); (case h004e3zhun => k_extra "my units"); k_whole); intro o0' o1' o2' o3' o4' o5' o6' o7' o8' o9' F' N' e0'; (try dsimp only at N'); (try k_sweep); (try dsimp only); (try k_fold))
  k_with "my call ref" => (k_here; (with_reducible show wpAny _ _ (call (Value.ref 105) _) _ _ _); k_dflt (refine' Mine.out_grouping_b_call ?h19505zB ?h19505zF ?h19505zX ?h19505zN ?h19505zT ?h19505zk ?h19505zm ?h19505zU ?h19505zd ?h19505zhx ?h19505zhc0 ?h19505zhcl ?h19505zhl1 ?h19505zhlb ?h19505zhdp ?h19505zhun ?_; (case h19505zB => k_asm); (case h19505zF => k_asm); (case h19505zX => k_asm); (case h19505zN => k_asm); (case h19505zT => k_asm); (case h19505zk => first | exact rfl | assumption); (case h19505zm => k_mem); (case h19505zU => k_updF); (case h19505zd => first | assumption | k_extra "my num"); (case h19505zhx => first | k_extra "my num" | (simp only [List.length_cons] at *; omega)); (case h19505zhc0 => first | k_extra "my num" | (simp only [List.length_cons] at *; omega)); (case h19505zhcl => first | k_extra "my num" | (simp only [List.length_cons] at *; omega)); (case h19505zhl1 => first | k_extra "my num" | (simp only [List.length_cons] at *; omega)); (case h19505zhlb => first | k_extra "my num" | (simp only [List.length_cons] at *; omega)); (case h19505zhdp => k_extra "my room"); (case h19505zhun => k_extra "my units"); k_whole); intro o0' o1' o2' o3' o4' o5' o6' o7' o8' o9' F' N' e0'; (try dsimp only at N'); (try k_sweep); (try dsimp only); (try k_fold))
  k_with "my call ref" => (k_here; (with_reducible show wpAny _ _ (call (Value.ref 112) _) _ _ _); k_dflt (refine' Mine.go_out_grouping_b_call ?h91105zB ?h91105zF ?h91105zX ?h91105zN ?h91105zT ?h91105zk ?h91105zm ?h91105zU ?h91105zd ?h91105zhx ?h91105zhc0 ?h91105zhcl ?h91105zhl1 ?h91105zhlb ?h91105zhdp ?h91105zhun ?_; (case h91105zB => k_asm); (case h91105zF => k_asm); (case h91105zX => k_asm); (case h91105zN => k_asm); (case h91105zT => k_asm); (case h91105zk => first | exact rfl | assumption); (case h91105zm => k_mem); (case h91105zU => k_updF); (case h91105zd => first | assumption | k_extra "my num"); (case h91105zhx => first | k_extra "my num" | (simp only [List.length_cons] at *; omega)); (case h91105zhc0 => first | k_extra "my num" | (simp only [List.length_cons] at *; omega)); (case h91105zhcl => first | k_extra "my num" | (simp only [List.length_cons] at *; omega)); (case h91105zhl1 => first | k_extra "my num" | (simp only [List.length_cons] at *; omega)); (case h91105zhlb => first | k_extra "my num" | (simp only [List.length_cons] at *; omega)); (case h91105zhdp => k_extra "my room"); (case h91105zhun => k_extra "my units"); k_whole); intro o0' o1' o2' o3' o4' o5' o6' o7' o8' o9' F' N' e0'; (try dsimp only at N'); (try k_sweep); (try dsimp only); (try k_fold))
  k_with "my call ref" => (k_here; (with_reducible show wpAny _ _ (call (Value.ref 119) _) _ _ _); k_dflt (refine' Mine.eq_s_call ?h87e6dzB ?h87e6dzF ?h87e6dzX ?h87e6dzN ?h87e6dzT ?h87e6dzk ?h87e6dzm ?h87e6dzU ?h87e6dzd ?h87e6dzhx ?h87e6dzhc0 ?h87e6dzhcl ?h87e6dzhl1 ?h87e6dzhg ?h87e6dzhdp ?h87e6dzhun ?_; (case h87e6dzB => k_asm); (case h87e6dzF => k_asm); (case h87e6dzX => k_asm); (case h87e6dzN => k_asm); (case h87e6dzT => k_asm); (case h87e6dzk => first | exact rfl | assumption); (case h87e6dzm => k_mem); (case h87e6dzU => k_updF); (case h87e6dzd => first | assumption | k_extra "my num"); (case h87e6dzhx => first | k_extra "my num" | (simp only [List.length_cons] at *; omega)); (case h87e6dzhc0 => first | k_extra "my num" | (simp only [List.length_cons] at *; omega)); (case h87e6dzhcl => first | k_extra "my num" | (simp only [List.length_cons] at *; omega)); (case h87e6dzhl1 => first | k_extra "my num" | (simp only [List.length_cons] at *; omega)); (case h87e6dzhg => first | k_extra "my num" | (simp only [List.length_cons] at *; omega)); (case h87e6dzhdp => k_extra "my room"); (case h87e6dzhun => k_extra "my units"); k_whole); intro o0' o1' o2' o3' o4' o5' o6' o7' o8' o9' F' N' e0' e1'; (try dsimp only at N'); (try k_sweep); (try dsimp only); (try k_fold))
  k_with "my call ref" => (k_here; (with_reducible show wpAny _ _ (call (Value.ref 126) _) _ _ _); k_dflt (refine' Mine.eq_s_b_call ?ha43c0zB ?ha43c0zF ?ha43c0zX ?ha43c0zN ?ha43c0zT ?ha43c0zk ?ha43c0zm ?ha43c0zU ?ha43c0zd ?ha43c0zhx ?ha43c0zhc0 ?ha43c0zhcl ?ha43c0zhl1 ?ha43c0zhg ?ha43c0zhdp ?ha43c0zhun ?_; (case ha43c0zB => k_asm); (case ha43c0zF => k_asm); (case ha43c0zX => k_asm); (case ha43c0zN => k_asm); (case ha43c0zT => k_asm); (case ha43c0zk => first | exact rfl | assumption); (case ha43c0zm => k_mem); (case ha43c0zU => k_updF); (case ha43c0zd => first | assumption | k_extra "my num"); (case ha43c0zhx => first | k_extra "my num" | (simp only [List.length_cons] at *; omega)); (case ha43c0zhc0 => first | k_extra "my num" | (simp only [List.length_cons] at *; omega)); (case ha43c0zhcl => first | k_extra "my num" | (simp only [List.length_cons] at *; omega)); (case ha43c0zhl1 => first | k_extra "my num" | (simp only [List.length_cons] at *; omega)); (case ha43c0zhg => first | k_extra "my num" | (simp only [List.length_cons] at *; omega)); (case ha43c0zhdp => k_extra "my room"); (case ha43c0zhun => k_extra "my units"); k_whole); intro o0' o1' o2' o3' o4' o5' o6' o7' o8' o9' F' N' e0' e1'; (try dsimp only at N'); (try k_sweep); (try dsimp only); (try k_fold))
  k_with "my call ref" => (k_here; (with_reducible show wpAny _ _ (call (Value.ref 147) _) _ _ _); k_dflt (refine' Mine.replace_s_call ?hccaaazB ?hccaaazF ?hccaaazX ?hccaaazN ?hccaaazT ?hccaaazk ?hccaaazm ?hccaaazU ?hccaaazd ?hccaaazhx ?hccaaazhc0 ?hccaaazhcl ?hccaaazhl1 ?hccaaazhg ?hccaaazhi ?hccaaazhij ?hccaaazhj ?hccaaazhdp ?hccaaazhun ?_; (case hccaaazB => k_asm); (case hccaaazF => k_asm); (case hccaaazX => k_asm); (case hccaaazN => k_asm); (case hccaaazT => k_asm); (case hccaaazk => first | exact rfl | assumption); (case hccaaazm => k_mem); (case hccaaazU => k_updF); (case hccaaazd => first | assumption | k_extra "my num"); (case hccaaazhx => first | k_extra "my num" | (simp only [List.length_cons] at *; omega)); (case hccaaazhc0 => first | k_extra "my num" | (simp only [List.length_cons] at *; omega)); (case hccaaazhcl => first | k_extra "my num" | (simp only [List.length_cons] at *; omega)); (case hccaaazhl1 => first | k_extra "my num" | (simp only [List.length_cons] at *; omega)); (case hccaaazhg => first | k_extra "my num" | (simp only [List.length_cons] at *; omega)); (case hccaaazhi => first | k_extra "my num" | (simp only [List.length_cons] at *; omega)); (case hccaaazhij => first | k_extra "my num" | (simp only [List.length_cons] at *; omega)); (case hccaaazhj => first | k_extra "my num" | (simp only [List.length_cons] at *; omega)); (case hccaaazhdp => k_extra "my room"); (case hccaaazhun => k_extra "my units"); k_whole); intro o0' o1' o2' o3' o4' o5' o6' o7' o8' o9' F' N' e0'; (try dsimp only at N'); (try k_sweep); (try dsimp only); (try k_fold))
  k_with "my call ref" => (k_here; (with_reducible show wpAny _ _ (call (Value.ref 154) _) _ _ _); k_dflt (refine' Mine.slice_from_call ?h195d4zB ?h195d4zF ?h195d4zX ?h195d4zN ?h195d4zT ?h195d4zk ?h195d4zm ?h195d4zU ?h195d4zd ?h195d4zhx ?h195d4zhc0 ?h195d4zhcl ?h195d4zhl1 ?h195d4zhg ?h195d4zhb0 ?h195d4zhbk ?h195d4zhkl ?h195d4zhdp ?h195d4zhun ?_; (case h195d4zB => k_asm); (case h195d4zF => k_asm); (case h195d4zX => k_asm); (case h195d4zN => k_asm); (case h195d4zT => k_asm); (case h195d4zk => first | exact rfl | assumption); (case h195d4zm => k_mem); (case h195d4zU => k_updF); (case h195d4zd => first | assumption | k_extra "my num"); (case h195d4zhx => first | k_extra "my num" | (simp only [List.length_cons] at *; omega)); (case h195d4zhc0 => first | k_extra "my num" | (simp only [List.length_cons] at *; omega)); (case h195d4zhcl => first | k_extra "my num" | (simp only [List.length_cons] at *; omega)); (case h195d4zhl1 => first | k_extra "my num" | (simp only [List.length_cons] at *; omega)); (case h195d4zhg => first | k_extra "my num" | (simp only [List.length_cons] at *; omega)); (case h195d4zhb0 => first | k_extra "my num" | (simp only [List.length_cons] at *; omega)); (case h195d4zhbk => first | k_extra "my num" | (simp only [List.length_cons] at *; omega)); (case h195d4zhkl => first | k_extra "my num" | (simp only [List.length_cons] at *; omega)); (case h195d4zhdp => k_extra "my room"); (case h195d4zhun => k_extra "my units"); k_whole); intro o0' o1' o2' o3' o4' o5' o6' o7' o8' F' N' e0'; (try dsimp only at N'); (try k_sweep); (try dsimp only); (try k_fold))
  k_with "my call ref" => (k_here; (with_reducible show wpAny _ _ (call (Value.ref 168) _) _ _ _); k_dflt (refine' Mine.insert_call ?hb1fc7zB ?hb1fc7zF ?hb1fc7zX ?hb1fc7zN ?hb1fc7zT ?hb1fc7zk ?hb1fc7zm ?hb1fc7zU ?hb1fc7zd ?hb1fc7zhx ?hb1fc7zhc0 ?hb1fc7zhcl ?hb1fc7zhl1 ?hb1fc7zhg ?hb1fc7zhi ?hb1fc7zhij ?hb1fc7zhj ?hb1fc7zhb ?hb1fc7zhkb ?hb1fc7zhdp ?hb1fc7zhun ?_; (case hb1fc7zB => k_asm); (case hb1fc7zF => k_asm); (case hb1fc7zX => k_asm); (case hb1fc7zN => k_asm); (case hb1fc7zT => k_asm); (case hb1fc7zk => first | exact rfl | assumption); (case hb1fc7zm => k_mem); (case hb1fc7zU => k_updF); (case hb1fc7zd => first | assumption | k_extra "my num"); (case hb1fc7zhx => first | k_extra "my num" | (simp only [List.length_cons] at *; omega)); (case hb1fc7zhc0 => first | k_extra "my num" | (simp only [List.length_cons] at *; omega)); (case hb1fc7zhcl => first | k_extra "my num" | (simp only [List.length_cons] at *; omega)); (case hb1fc7zhl1 => first | k_extra "my num" | (simp only [List.length_cons] at *; omega)); (case hb1fc7zhg => first | k_extra "my num" | (simp only [List.length_cons] at *; omega)); (case hb1fc7zhi => first | k_extra "my num" | (simp only [List.length_cons] at *; omega)); (case hb1fc7zhij => first | k_extra "my num" | (simp only [List.length_cons] at *; omega)); (case hb1fc7zhj => first | k_extra "my num" | (simp only [List.length_cons] at *; omega)); (case hb1fc7zhb => first | k_extra "my num" | (simp only [List.length_cons] at *; omega)); (case hb1fc7zhkb => first | k_extra "my num" | (simp only [List.length_cons] at *; omega)); (case hb1fc7zhdp => k_extra "my room"); (case hb1fc7zhun => k_extra "my units"); k_whole); intro o0' o1' o2' o3' o4' o5' o6' o7' o8' o9' o10' F' N' e0' e1' e2'; (try dsimp only at N'); (try k_sweep); (try dsimp only); (try k_fold))
  k_with "my call ref" => (k_here; (with_reducible show wpAny _ _ (call (Value.ref 175) _) _ _ _); k_dflt (refine' Mine.slice_to_call ?h68030zB ?h68030zF ?h68030zX ?h68030zN ?h68030zT ?h68030zk ?h68030zm ?h68030zU ?h68030zd ?h68030zhx ?h68030zhc0 ?h68030zhcl ?h68030zhl1 ?h68030zhb0 ?h68030zhbk ?h68030zhkl ?h68030zhdp ?h68030zhun ?_; (case h68030zB => k_asm); (case h68030zF => k_asm); (case h68030zX => k_asm); (case h68030zN => k_asm); (case h68030zT => k_asm); (case h68030zk => first | exact rfl | assumption); (case h68030zm => k_mem); (case h68030zU => k_updF); (case h68030zd => first | assumption | k_extra "my num"); (case h68030zhx => first | k_extra "my num" | (simp only [List.length_cons] at *; omega)); (case h68030zhc0 => first | k_extra "my num" | (simp only [List.length_cons] at *; omega)); (case h68030zhcl => first | k_extra "my num" | (simp only [List.length_cons] at *; omega)); (case h68030zhl1 => first | k_extra "my num" | (simp only [List.length_cons] at *; omega)); (case h68030zhb0 => first | k_extra "my num" | (simp only [List.length_cons] at *; omega)); (case h68030zhbk => first | k_extra "my num" | (simp only [List.length_cons] at *; omega)); (case h68030zhkl => first | k_extra "my num" | (simp only [List.length_cons] at *; omega)); (case h68030zhdp => k_extra "my room"); (case h68030zhun => k_extra "my units"); k_whole); intro o0' o1' o2' o3' o4' o5' o6' o7' o8' F' N' ; (try dsimp only at N'); (try k_sweep); (try dsimp only); (try k_fold))
  k_with "my call ref" => (k_here; (with_reducible show wpAny _ _ (call (Value.ref 182) _) _ _ _); k_dflt (refine' Mine.assign_to_call ?h999c4zB ?h999c4zF ?h999c4zX ?h999c4zN ?h999c4zT ?h999c4zk ?h999c4zm ?h999c4zU ?h999c4zd ?h999c4zhx ?h999c4zhc0 ?h999c4zhcl ?h999c4zhl1 ?h999c4zhdp ?h999c4zhun ?_; (case h999c4zB => k_asm); (case h999c4zF => k_asm); (case h999c4zX => k_asm); (case h999c4zN => k_asm); (case h999c4zT => k_asm); (case h999c4zk => first | exact rfl | assumption); (case h999c4zm => k_mem); (case h999c4zU => k_updF); (case h999c4zd => first | assumption | k_extra "my num"); (case h999c4zhx => first | k_extra "my num" | (simp only [List.length_cons] at *; omega)); (case h999c4zhc0 => first | k_extra "my num" | (simp only [List.length_cons] at *; omega)); (case h999c4zhcl => first | k_extra "my num" | (simp only [List.length_cons] at *; omega)); (case h999c4zhl1 => first | k_extra "my num" | (simp only [List.length_cons] at *; omega)); (case h999c4zhdp => k_extra "my room"); (case h999c4zhun => k_extra "my units"); k_whole); intro o0' o1' o2' o3' o4' o5' o6' o7' o8' F' N' ; (try dsimp only at N'); (try k_sweep); (try dsimp only); (try k_fold))
  k_with "my call ref" => (k_here; (with_reducible show wpAny _ _ (call (Value.ref 49) _) _ _ _); k_dflt (refine' Mine.get_current_call ?h7289bzB ?h7289bzF ?h7289bzX ?h7289bzN ?h7289bzT ?h7289bzk ?h7289bzm ?h7289bzU ?h7289bzd ?h7289bzhx ?h7289bzhc0 ?h7289bzhcl ?h7289bzhl1 ?h7289bzhdp ?h7289bzhun ?_; (case h7289bzB => k_asm); (case h7289bzF => k_asm); (case h7289bzX => k_asm); (case h7289bzN => k_asm); (case h7289bzT => k_asm); (case h7289bzk => first | exact rfl | assumption); (case h7289bzm => k_mem); (case h7289bzU => k_updF); (case h7289bzd => first | assumption | k_extra "my num"); (case h7289bzhx => first | k_extra "my num" | (simp only [List.length_cons] at *; omega)); (case h7289bzhc0 => first | k_extra "my num" | (simp only [List.length_cons] at *; omega)); (case h7289bzhcl => first | k_extra "my num" | (simp only [List.length_cons] at *; omega)); (case h7289bzhl1 => first | k_extra "my num" | (simp only [List.length_cons] at *; omega)); (case h7289bzhdp => k_extra "my room"); (case h7289bzhun => k_extra "my units"); k_whole); intro o0' o1' o2' o3' o4' o5' o6' o7' o8' F' N' ; (try dsimp only at N'); (try k_sweep); (try dsimp only); (try k_fold))
  k_with "my call ref" => (k_here; (with_reducible show wpAny _ _ (call (Value.ref 42) _) _ _ _); k_dflt (refine' Mine.set_current_call ?h35306zB ?h35306zF ?h35306zX ?h35306zN ?h35306zT ?h35306zk ?h35306zm ?h35306zU ?h35306zd ?h35306zhg ?h35306zhdp ?h35306zhun ?_; (case h35306zB => k_asm); (case h35306zF => k_asm); (case h35306zX => k_asm); (case h35306zN => k_asm); (case h35306zT => k_asm); (case h35306zk => first | exact rfl | assumption); (case h35306zm => k_mem); (case h35306zU => k_updF); (case h35306zd => first | assumption | k_extra "my num"); (case h35306zhg => first | k_extra "my num" | (simp only [List.length_cons] at *; omega)); (case h35306zhdp => k_extra "my room"); (case h35306zhun => k_extra "my units"); k_whole); intro o0' o1' o2' o3' o4' o5' o6' o7' F' N' ; (try dsimp only at N'); (try k_sweep); (try dsimp only); (try k_fold))
  k_with "my call ref" => (k_here; (with_reducible show wpAny _ _ (call (Value.ref 161) _) _ _ _); k_dflt (refine' Mine.slice_del_call ?h5ca12zB ?h5ca12zF ?h5ca12zX ?h5ca12zN ?h5ca12zT ?h5ca12zk ?h5ca12zm ?h5ca12zU ?h5ca12zd ?h5ca12zhx ?h5ca12zhc0 ?h5ca12zhcl ?h5ca12zhl1 ?h5ca12zhb0 ?h5ca12zhbk ?h5ca12zhkl ?h5ca12zhdp ?h5ca12zhun ?_; (case h5ca12zB => k_asm); (case h5ca12zF => k_asm); (case h5ca12zX => k_asm); (case h5ca12zN => k_asm); (case h5ca12zT => k_asm); (case h5ca12zk => first | exact rfl | assumption); (case h5ca12zm => k_mem); (case h5ca12zU => k_updF); (case h5ca12zd => first | assumption | k_extra "my num"); (case h5ca12zhx => first | k_extra "my num" | (simp only [List.length_cons] at *; omega)); (case h5ca12zhc0 => first | k_extra "my num" | (simp only [List.length_cons] at *; omega)); (case h5ca12zhcl => first | k_extra "my num" | (simp only [List.length_cons] at *; omega)); (case h5ca12zhl1 => first | k_extra "my num" | (simp only [List.length_cons] at *; omega)); (case h5ca12zhb0 => first | k_extra "my num" | (simp only [List.length_cons] at *; omega)); (case h5ca12zhbk => first | k_extra "my num" | (simp only [List.length_cons] at *; omega)); (case h5ca12zhkl => first | k_extra "my num" | (simp only [List.length_cons] at *; omega)); (case h5ca12zhdp => k_extra "my room"); (case h5ca12zhun => k_extra "my units"); k_whole); intro o0' o1' o2' o3' o4' o5' o6' o7' o8' F' N' e0'; (try dsimp only at N'); (try k_sweep); (try dsimp only); (try k_fold))
  k_with "my call ref" => (k_here; (with_reducible show wpAny _ _ (call (Value.ref 266) _) _ _ _); k_dflt (refine' Mine.replaced_call ?he8a21zB ?he8a21zF ?he8a21zX ?he8a21zN ?he8a21zT ?he8a21zk ?he8a21zU ?he8a21zx ?he8a21zg ?he8a21zc0 ?he8a21zcl ?he8a21zl1 ?he8a21zi ?he8a21zij ?he8a21zj ?he8a21zdp ?he8a21zun ?_; (case he8a21zB => k_asm); (case he8a21zF => k_asm); (case he8a21zX => k_asm); (case he8a21zN => k_asm); (case he8a21zT => k_asm); (case he8a21zk => first | exact rfl | assumption); (case he8a21zU => k_updF); (case he8a21zx => first | k_extra "my num" | (simp only [List.length_cons] at *; omega)); (case he8a21zg => first | k_extra "my num" | (simp only [List.length_cons] at *; omega)); (case he8a21zc0 => first | k_extra "my num" | (simp only [List.length_cons] at *; omega)); (case he8a21zcl => first | k_extra "my num" | (simp only [List.length_cons] at *; omega)); (case he8a21zl1 => first | k_extra "my num" | (simp only [List.length_cons] at *; omega)); (case he8a21zi => first | k_extra "my num" | (simp only [List.length_cons] at *; omega)); (case he8a21zij => first | k_extra "my num" | (simp only [List.length_cons] at *; omega)); (case he8a21zj => first | k_extra "my num" | (simp only [List.length_cons] at *; omega)); (case he8a21zdp => k_extra "my room"); (case he8a21zun => k_extra "my units"); k_whole); intro o0' o1' o2' o3' o4' o5' o6' o7' o8' o9' o10' F' N' e0' e1' e2'; (try dsimp only at N'); (try k_sweep); (try dsimp only); (try k_fold))
  k_with "my call type:list" => (k_here; (with_reducible show wpAny _ _ (call (Value.type _) [Value.str _ _]) _ _ _); k_dflt (refine' Mine.listStr_K ?h1c1ddzh ?h1c1ddzF ?h1c1ddzN ?h1c1ddzs ?_; (case h1c1ddzh => exact rfl); (case h1c1ddzF => k_asm); (case h1c1ddzN => k_asm); (case h1c1ddzs => (rw [sizeLine_eq]; omega)); k_whole); intro h' tk' vs' n' F' N' l1 hS'; (have hltm := l1); (try k_lt l1); (try k_sweep))
  k_with "my call builtin:len" => (k_here; (with_reducible show wpAny _ _ (call (Value.builtin "len") [Value.ref _]) _ _ _); k_dflt (refine' Mine.lenStrs_K ?h9c18czN ?h9c18czm ?h9c18czi ?h9c18czf ?_; (case h9c18czN => k_asm); (case h9c18czm => k_mem); (case h9c18czi => with_reducible assumption); (case h9c18czf => omega); k_whole))
  k_with "my subscriptTail" => (k_here; (with_reducible show wpAny _ _ (subscriptTail _ _ (Value.ref _) (Value.int _ _)) _ _ _); k_dflt (refine' Mine.itemStrs_K ?hda686zN ?hda686zm ?hda686zi ?hda686z0 ?hda686z1 ?hda686zf ?_ ?hda686zs ?hda686zg; (case hda686zN => k_asm); (case hda686zm => k_mem); (case hda686zi => with_reducible assumption); (case hda686z0 => omega); (case hda686z1 => omega); (case hda686zf => omega); (case hda686zs => with_unfolding_all rfl); (case hda686zg => (intro _; with_unfolding_all rfl)); k_whole); intro _)
  k_with "my subscriptTail Name Slice ref ref" => (k_here; (with_reducible show wpAny _ _ (subscriptTail _ (PySem.Expr.Slice none none (some _) _) (Value.ref _) (Value.ref _)) _ _ _); k_dflt (refine' Mine.revStrs_K ?hab3ffF ?hab3ffN ?hab3ffm ?hab3ffk ?hab3ffi ?hab3ffy ?_ ?hab3ffs ?hab3fft; (case hab3ffF => k_asm); (case hab3ffN => k_asm); (case hab3ffm => k_mem); (case hab3ffk => exact IsPart.int _ _); (case hab3ffi => first | with_reducible assumption | exact StrsAre.nil); (case hab3ffy => first | omega | (simp only [PyProof.Rows.signs_length, List.length_nil] at *; omega)); (case hab3ffs => with_unfolding_all rfl); (case hab3fft => kmk_pure)); intro D' ws' h' F' N' l1 hS'; (have hltm := l1); (try k_lt l1); (try k_sweep))
  k_with "my subscriptTail" => (k_here; (with_reducible show wpAny _ _ (subscriptTail _ _ (Value.ref _) (Value.int _ _)) _ _ _); k_dflt (refine' Mine.topText_K (B := 3) ?hde6b7zX ?hde6b7ze ?hde6b7zi ?hde6b7zB ?hde6b7z0 ?hde6b7z1 ?hde6b7zf ?_ ?hde6b7zs ?hde6b7zg; (case hde6b7zX => k_in); (case hde6b7ze => k_is); (case hde6b7zi => repeat constructor); (case hde6b7zB => decide); (case hde6b7z0 => omega); (case hde6b7z1 => ((simp only [List.length_cons, List.length_nil]); omega)); (case hde6b7zf => omega); (case hde6b7zs => with_unfolding_all rfl); (case hde6b7zg => (intro _; with_unfolding_all rfl)); k_whole); intro zT tT hzT)
  k_with "my MrPost" => (dsimp only [Mine.MrPost])
  k_with "my subscriptTail" => (k_here; (with_reducible show wpAny _ _ (subscriptTail _ (PySem.Expr.Slice none none (some _) _) (Value.str _ _) (Value.ref _)) _ _ _); (with_reducible rename Fr _ _ _ _ => F'); (with_reducible rename News _ _ _ _ => N'); (refine Mine.revText_K (s := ⟨_, _, _, _, _⟩) F' N' (by omega) ?_); intro zR hR tR cR eR F' N')
  k_with "my call ref" => (k_here; (with_reducible show wpAny _ _ (call (Value.ref 232) _) _ _ _); k_dflt (refine' Mine.groups_spec ?hff95bzB ?hff95bzF ?hff95bzX ?hff95bzN ?hff95bzT ?hff95bzk ?hff95bzdp ?_; (case hff95bzB => k_asm); (case hff95bzF => k_asm); (case hff95bzX => k_asm); (case hff95bzN => k_asm); (case hff95bzT => k_asm); (case hff95bzk => first | exact rfl | assumption); (case hff95bzdp => k_extra "my room"); k_whole); intro rG nG vsG ysG hG kG FG NG lG hSG hG5 hG3; (have hltm := lG); (try k_lt lG); (try k_sweep); (try dsimp only); (try k_fold))
  k_with "my subscriptTail Call Call ref int" => (k_here; (with_reducible show wpAny _ _ (subscriptTail _ _ (Value.ref _) (Value.int _ _)) _ _ _); k_dflt (refine' Mine.itemStrs_K ?h9c175zN ?h9c175zm ?h9c175zi ?h9c175z0 ?h9c175z1 ?h9c175zf ?_ ?h9c175zs ?h9c175zg; (case h9c175zN => k_asm); (case h9c175zm => k_mem); (case h9c175zi => with_reducible assumption); (case h9c175z0 => omega); (case h9c175z1 => omega); (case h9c175zf => omega); (case h9c175zs => with_unfolding_all rfl); (case h9c175zg => (intro _; with_unfolding_all rfl)); k_whole); intro _)
  k_with "my call ref" => (k_here; (with_reducible show wpAny _ _ (call (Value.ref 252) _) _ _ _); k_dflt (refine' Mine.run_spec ?h7cc04zB ?h7cc04zF ?h7cc04zX ?h7cc04zN ?h7cc04zT ?h7cc04zk ?h7cc04zm ?h7cc04zi ?h7cc04zy ?h7cc04zdp ?h7cc04zun ?_; (case h7cc04zB => k_asm); (case h7cc04zF => k_asm); (case h7cc04zX => k_asm); (case h7cc04zN => k_asm); (case h7cc04zT => k_asm); (case h7cc04zk => first | exact rfl | assumption); (case h7cc04zm => k_mem); (case h7cc04zi => first | with_reducible assumption | exact StrsAre.nil); (case h7cc04zy => first | omega | (simp only [List.length_reverse, PyProof.Rows.signs_length, List.length_nil] at *; omega)); (case h7cc04zdp => k_extra "my room"); (case h7cc04zun => k_extra "my units"); k_whole); intro o0' o1' o2' o3' o4' o5' o6' F' N' e0' e1'; (try dsimp only at N'); (try k_sweep); (try k_lt e0'); (try dsimp only); (try k_fold))
  k_with "my call builtin:len" => (k_here; (with_reducible show wpAny _ _ (call (Value.builtin "len") [Value.ref _]) _ _ _); k_dflt (refine' Mine.lenTab_K ?hb154azN ?hb154azT ?hb154azm ?hb154azf ?_; (case hb154azN => k_asm); (case hb154azT => with_reducible assumption); (case hb154azm => k_extra "my sub"); (case hb154azf => omega); k_whole))
  k_with "my subscriptTail" => (k_here; (with_reducible show wpAny _ _ (subscriptTail _ _ (Value.ref _) (Value.int _ _)) _ _ _); k_dflt (refine' Mine.itemTab_K ?h76a1bzN ?h76a1bzT ?h76a1bzm ?h76a1bz0 ?h76a1bz1 ?h76a1bzf ?_ ?h76a1bzs ?h76a1bzg; (case h76a1bzN => k_asm); (case h76a1bzT => with_reducible assumption); (case h76a1bzm => k_extra "my sub"); (case h76a1bz0 => omega); (case h76a1bz1 => omega); (case h76a1bzf => omega); (case h76a1bzs => with_unfolding_all rfl); (case h76a1bzg => (intro _; with_unfolding_all rfl)); k_whole); intro H' KT' t0' t1' t2' hI' hD')
  k_with "my call builtin:sorted" => (k_here; (with_reducible show wpAny _ _ (call (Value.builtin "sorted") [Value.ref _]) _ _ _); k_dflt (refine' Mine.sortStrs_K ?hff911zF ?hff911zN ?hff911zm ?hff911zi ?hff911z6 ?_; (case hff911zF => k_asm); (case hff911zN => k_asm); (case hff911zm => k_mem); (case hff911zi => with_reducible assumption); (case hff911z6 => omega); k_whole); intro D7 h7 vs7 ss7 e7 F7 N7 l7 hS7 hl7 hm7 hs7; (have hltm := l7); (try k_lt l7); (try k_sweep))
  k_with "my eval ListComp" => (k_here; lct_look; lcg_calm; k_dflt (refine LCt.ListComp_T (F₀ := by k_asm) (by with_unfolding_all rfl) (by decide) (by rfl) (by decide) (by rfl) ?_))
  k_with "my subscriptTail Name Name ref int" => (k_here; (with_reducible show wpAny _ _ (subscriptTail _ _ (Value.ref _) (Value.int _ _)) _ _ _); k_dflt (refine' Mine.itemStrs_K ?h75927zN ?h75927zm ?h75927zi ?h75927z0 ?h75927z1 ?h75927zf ?_ ?h75927zs ?h75927zg; (case h75927zN => k_asm); (case h75927zm => k_mem); (case h75927zi => with_reducible assumption); (case h75927z0 => omega); (case h75927z1 => omega); (case h75927zf => omega); (case h75927zs => with_unfolding_all rfl); (case h75927zg => (intro _; with_unfolding_all rfl)); k_whole); intro _)
  k_with "my subscriptTail Name BinOp ref int" => (k_here; (with_reducible show wpAny _ _ (subscriptTail _ _ (Value.ref _) (Value.int _ _)) _ _ _); k_dflt (refine' Mine.itemStrs_K ?he0e77zN ?he0e77zm ?he0e77zi ?he0e77z0 ?he0e77z1 ?he0e77zf ?_ ?he0e77zs ?he0e77zg; (case he0e77zN => k_asm); (case he0e77zm => k_mem); (case he0e77zi => with_reducible assumption); (case he0e77z0 => omega); (case he0e77z1 => omega); (case he0e77zf => omega); (case he0e77zs => with_unfolding_all rfl); (case he0e77zg => (intro _; with_unfolding_all rfl)); k_whole); intro _)
  k_with "my subscriptTail Name UnaryOp ref int" => (k_here; (with_reducible show wpAny _ _ (subscriptTail _ _ (Value.ref _) (Value.int _ _)) _ _ _); k_dflt (refine' Mine.itemStrs_K ?h1783ezN ?h1783ezm ?h1783ezi ?h1783ez0 ?h1783ez1 ?h1783ezf ?_ ?h1783ezs ?h1783ezg; (case h1783ezN => k_asm); (case h1783ezm => k_mem); (case h1783ezi => with_reducible assumption); (case h1783ez0 => omega); (case h1783ez1 => omega); (case h1783ezf => omega); (case h1783ezs => with_unfolding_all rfl); (case h1783ezg => (intro _; with_unfolding_all rfl)); k_whole); intro _)
  k_with "my newList" => (k_here; k_dflt (refine' newList_K ?h10454k1 ?h10454k2 ?_; (case h10454k1 => k_asm); (case h10454k2 => k_asm); k_whole); intro TL hTL FTL NTL lTL; (have hltm := lTL); (try k_lt lTL); (try k_sweep))
  k_with "my exec Assign cons ListComp" => (k_here; lct_look; lcg_calm; k_dflt (refine LCt.Assign_ListComp_T (F₀ := by k_asm) (by rfl) (by with_unfolding_all rfl) (by with_unfolding_all rfl) (by decide) (by rfl) (by decide) (by rfl) (by rfl) (by rfl) ?_))
  k_with "my call builtin:len" => (k_here; (with_reducible show wpAny _ _ (call (Value.builtin "len") [Value.ref _]) _ _ _); k_dflt (refine' Mine.lenInts_K ?ha4e16zN ?ha4e16zm ?ha4e16zi ?ha4e16zf ?_; (case ha4e16zN => k_asm); (case ha4e16zm => k_mem); (case ha4e16zi => with_reducible assumption); (case ha4e16zf => omega); k_whole))
  k_with "my subscriptTail Name UnaryOp ref int" => (k_here; (with_reducible show wpAny _ _ (subscriptTail _ _ (Value.ref _) (Value.int (-1) _)) _ _ _); k_dflt (refine' Mine.lastInts_K ?h0f3cezN ?h0f3cezm ?h0f3cezi ?h0f3cez0 ?_ ?h0f3cezs ?h0f3cezg; (case h0f3cezN => k_asm); (case h0f3cezm => k_mem); (case h0f3cezi => with_reducible assumption); (case h0f3cez0 => omega); (case h0f3cezs => with_unfolding_all rfl); (case h0f3cezg => (intro _; with_unfolding_all rfl)); k_whole); intro _)
  k_with "my call ref" => (k_here; (with_reducible show wpAny _ _ (call (Value.ref 220) _) _ _ _); k_dflt (refine' Mine.among_spec ?h5d25bzB ?h5d25bzF ?h5d25bzX ?h5d25bzN ?h5d25bzT ?h5d25bzk ?h5d25bzdp ?_; (case h5d25bzB => k_asm); (case h5d25bzF => k_asm); (case h5d25bzX => k_asm); (case h5d25bzN => k_asm); (case h5d25bzT => k_asm); (case h5d25bzk => first | exact rfl | assumption); (case h5d25bzdp => k_extra "my room"); k_whole); intro xA dA HA KA tA0 tA1 tA2 hA kA FA NA lA1 lA2; (have hltm := lA1); (try k_lt lA1); (try dsimp only at NA); (try k_sweep); (try dsimp only); (try k_fold))
  k_with "my call ref" => (k_here; (with_reducible show wpAny _ _ (call (Value.ref 133) _) _ _ _); k_dflt (refine' Mine.find_among_call ?ha666czB ?ha666czF ?ha666czX ?ha666czN ?ha666czT ?ha666czk ?ha666czm ?ha666czU ?ha666czmd ?ha666czx ?ha666czc0 ?ha666czcl ?ha666czl1 ?ha666czhT ?ha666czTs ?ha666czTn ?ha666czn0 ?ha666czn1 ?ha666czel ?ha666czE ?ha666czLk ?ha666czdp ?ha666czun ?_; (case ha666czB => k_asm); (case ha666czF => k_asm); (case ha666czX => k_asm); (case ha666czN => k_asm); (case ha666czT => k_asm); (case ha666czk => first | exact rfl | assumption); (case ha666czm => k_mem); (case ha666czU => k_updF); (case ha666czmd => first | assumption | k_extra "my num"); (case ha666czx => first | k_extra "my num" | (simp only [List.length_cons] at *; omega)); (case ha666czc0 => first | k_extra "my num" | (simp only [List.length_cons] at *; omega)); (case ha666czcl => first | k_extra "my num" | (simp only [List.length_cons] at *; omega)); (case ha666czl1 => first | k_extra "my num" | (simp only [List.length_cons] at *; omega)); (case ha666czhT => with_reducible assumption); (case ha666czTs => k_extra "my sub"); (case ha666czTn => with_reducible assumption); (case ha666czn0 => with_reducible assumption); (case ha666czn1 => with_reducible assumption); (case ha666czel => with_reducible assumption); (case ha666czE => with_reducible assumption); (case ha666czLk => with_reducible assumption); (case ha666czdp => k_extra "my room"); (case ha666czun => k_extra "my units"); k_whole); intro o0' o1' o2' o3' o4' o5' o6' o7' o8' o9' o10' F' N' e0'; (try dsimp only at N'); (try k_sweep); (try dsimp only); (try k_fold))
  k_with "my call ref" => (k_here; (with_reducible show wpAny _ _ (call (Value.ref 140) _) _ _ _); k_dflt (refine' Mine.find_among_b_call ?h258fazB ?h258fazF ?h258fazX ?h258fazN ?h258fazT ?h258fazk ?h258fazm ?h258fazU ?h258fazmd ?h258fazx ?h258fazc0 ?h258fazcl ?h258fazl1 ?h258fazlb ?h258fazlc ?h258fazhT ?h258fazTs ?h258fazTn ?h258fazn0 ?h258fazn1 ?h258fazel ?h258fazE ?h258fazLk ?h258fazdp ?h258fazun ?_; (case h258fazB => k_asm); (case h258fazF => k_asm); (case h258fazX => k_asm); (case h258fazN => k_asm); (case h258fazT => k_asm); (case h258fazk => first | exact rfl | assumption); (case h258fazm => k_mem); (case h258fazU => k_updF); (case h258fazmd => first | assumption | k_extra "my num"); (case h258fazx => first | k_extra "my num" | (simp only [List.length_cons] at *; omega)); (case h258fazc0 => first | k_extra "my num" | (simp only [List.length_cons] at *; omega)); (case h258fazcl => first | k_extra "my num" | (simp only [List.length_cons] at *; omega)); (case h258fazl1 => first | k_extra "my num" | (simp only [List.length_cons] at *; omega)); (case h258fazlb => first | k_extra "my num" | (simp only [List.length_cons] at *; omega)); (case h258fazlc => first | k_extra "my num" | (simp only [List.length_cons] at *; omega)); (case h258fazhT => with_reducible assumption); (case h258fazTs => k_extra "my sub"); (case h258fazTn => with_reducible assumption); (case h258fazn0 => with_reducible assumption); (case h258fazn1 => with_reducible assumption); (case h258fazel => with_reducible assumption); (case h258fazE => with_reducible assumption); (case h258fazLk => with_reducible assumption); (case h258fazdp => k_extra "my room"); (case h258fazun => k_extra "my units"); k_whole); intro o0' o1' o2' o3' o4' o5' o6' o7' o8' o9' o10' F' N' e0'; (try dsimp only at N'); (try k_sweep); (try dsimp only); (try k_fold))
  trivial
theorem words_Law_20 : True := by
  k_with "my ite" => (k_here; (with_reducible show (if ((_ : Str) != _) = true then _ else _)); with_reducible refine' Mine.sne_no ?_)
  k_with "my upto2 CompSrc" => repeat' ((fail_if_success (with_reducible show LCg.CompSrc _ _ _ _ _ _ _ _ _ _ _ _ _ _)); (fail_if_success (with_reducible show LCt.CompSrcT _ _ _ _ _ _ _ _ _ _ _ _ _ _ _)); k_extra "my onestep")
  k_with "my eval ListComp" => (k_here; k_dflt (refine LCg.ListComp_U (F₀ := by k_asm) (by with_unfolding_all rfl) (by decide) (by rfl) (by decide) (by rfl) ?_))
  trivial
theorem tape_ns {ys : List Value} {l : List Int} (h : IntsAre ys (List.map (fun k' => Int.fmod k' 1000003) (List.take 40 l))) : ∃ ns, List.map (fun k' => Int.fmod k' 1000003) (List.take 40 l) = ns ∧ IntsAre ys ns ∧ ns.length ≤ 40 :=
  ⟨_, rfl, h, by rw [List.length_map, List.length_take]; omega⟩
theorem tape_sd (ns : List Int) : ∃ sd : Int, Int.fmod (ns.sum * 7 + (ns.length : Int)) 1000003 + 1 = sd ∧ 0 ≤ sd ∧ sd < 2147483647 := by
  refine ⟨_, rfl, ?_, ?_⟩
  · have := Int.fmod_nonneg_of_pos (ns.sum * 7 + (ns.length : Int)) (show (0 : Int) < 1000003 by decide)
    omega
  · have := Int.fmod_lt_of_pos (ns.sum * 7 + (ns.length : Int)) (show (0 : Int) < 1000003 by decide)
    omega
theorem name4 {h₀ h : Heap} {L a1 a2 a3 a4 : Addr} {o1 o2 o3 o4 : Obj} (N : News h₀ L h [(a1, o1), (a2, o2), (a3, o3), (a4, o4)]) : ∃ b2, b2 = a2 ∧ News h₀ L h [(a1, o1), (a2, o2), (a4, o4)] :=
  ⟨a2, rfl, fun p hp => N p (by
    simp only [List.mem_cons] at hp ⊢
    rcases hp with h | h | h | h <;> simp_all)⟩
theorem join_le {sep : Str} (h0 : sep.length = 0) : ∀ ys : List Str, (∀ y ∈ ys, y.length ≤ 3) → (Str.join sep ys).length ≤ 3 * ys.length
  | [], _ => by rw [join_nil]; exact Nat.zero_le _
  | [x], h => by rw [join_one]; simpa using h x (.head _)
  | x :: y :: r, h => by
    have ih := join_le h0 (y :: r) fun z hz => h z (.tail _ hz)
    have hx := h x (.head _)
    rw [join_cons_cons, app_len, app_len, h0]
    simp only [List.length_cons] at ih ⊢
    omega
theorem sum_le {B : Nat} : ∀ ys : List Str, (∀ y ∈ ys, y.length ≤ B) → (ys.map (·.length)).sum ≤ B * ys.length
  | [], _ => Nat.zero_le _
  | x :: r, h => by
    have ih := sum_le r fun z hz => h z (.tail _ hz)
    have hx := h x (.head _)
    simp only [List.map_cons, List.sum_cons, List.length_cons, Nat.mul_add]
    omega
theorem txt_join (sep : Str) (ys : List Str) : Txt.join sep ys = Str.join sep ys := beq_iff_eq.mp (join_closes rfl)
/-- the state between two deeds -/
structure LawSt where
  x : Str
  c : Int
  l : Int
  lb : Int
  b : Int
  k : Int
  tc : Int
  sd : Int
  τ0 : Tok
  τ1 : Tok
  τ2 : Tok
  τ3 : Tok
  τ4 : Tok
  τ5 : Tok
  σ0 : Tok
  σ1 : Tok
  σ2 : Tok
  σ3 : Tok
  σ4 : Tok
  σ5 : Tok
  t1 : Tok
  t2 : Tok
abbrev LawLed (tp nu mx dx tw ce : Addr) (oc : Obj) (ys : List Value) (H : Nat → Int) (KT : Nat → Tok) (st : LawSt) : List (Addr × Obj) :=
  [(tp, tapeO st.tc st.t1 nu st.sd st.t2 0), (nu, LCg.lst ys), (mx, instObj 199 dx), (dx, machD H KT st.x st.τ0 st.c st.τ1 st.l st.τ2 st.lb st.τ3 st.b st.τ4 st.k st.τ5), (tw, twinO st.x st.σ0 st.c st.σ1 st.l st.σ2 st.lb st.σ3 st.b st.σ4 st.k st.σ5 0), (ce, oc)]
def LawInv (i : Nat) (st : LawSt) : Prop :=
  st.x.length ≤ 30 + 6 * i ∧ 0 ≤ st.c ∧ st.c ≤ st.l ∧ st.l ≤ st.x.length ∧ 0 ≤ st.lb ∧ (-(1000 + 1000 * (i : Int)) ≤ st.b ∧ st.b ≤ 1000 + 1000 * (i : Int)) ∧ (-(1000 + 1000 * (i : Int)) ≤ st.k ∧ st.k ≤ 1000 + 1000 * (i : Int)) ∧ 0 ≤ st.tc ∧ st.tc ≤ 20 + 12 * i ∧ 0 ≤ st.sd ∧ st.sd < 2147483647
theorem name_law {h₀ h : Heap} {L tw mx dx tp nu ce a1 a2 : Addr} {oT o1 o2 oc : Obj} {x : Str} {cc ll lb b k h0 h1 h2 h3 h4 h5 : Int} {k0 k1 k2 k3 k4 k5 τ0 τ1 τ2 τ3 τ4 τ5 : Tok} {oP oN : Obj}
    (N : News h₀ L h [(tw, oT), (a1, o1), (a2, o2), (mx, instObj 199 dx), (dx, dictOf [⟨h0, .str (Str.ofString "current") k0, .str x τ0⟩, ⟨h1, .str (Str.ofString "cursor") k1, .int cc τ1⟩, ⟨h2, .str (Str.ofString "limit") k2, .int ll τ2⟩, ⟨h3, .str (Str.ofString "limit_backward") k3, .int lb τ3⟩, ⟨h4, .str (Str.ofString "bra") k4, .int b τ4⟩, ⟨h5, .str (Str.ofString "ket") k5, .int k τ5⟩] 6), (tp, oP), (nu, oN), (ce, oc)]) :
    ∃ mx' dx' H KT, mx' = mx ∧ dx' = dx ∧ News h₀ L h [(tp, oP), (nu, oN), (mx, instObj 199 dx), (dx, machD H KT x τ0 cc τ1 ll τ2 lb τ3 b τ4 k τ5), (tw, oT), (ce, oc)] :=
  ⟨mx, dx, fun i => if i = 0 then h0 else if i = 1 then h1 else if i = 2 then h2 else if i = 3 then h3 else if i = 4 then h4 else h5, fun i => if i = 0 then k0 else if i = 1 then k1 else if i = 2 then k2 else if i = 3 then k3 else if i = 4 then k4 else k5, rfl, rfl,
    fun p hp => N p (by
      simp only [List.mem_cons] at hp ⊢
      rcases hp with h | h | h | h | h | h | h
      · simp [h]
      · simp [h]
      · simp [h]
      · subst h; right; right; right; right; left; rfl
      · simp [h]
      · simp [h]
      · exact absurd h (List.not_mem_nil))⟩
theorem sne_no {x : Str} {p q : Prop} (h : q) : if (x != x) = true then p else q := by
  rw [if_neg (by simp)]
  exact h
theorem law_end {cl : Str → Option Addr} {mean : ExcName → Option Value} {args : List WData} {s₁ s' : Shared} {L : Addr} {m : Str → Option Value} (F : Fr s₁.heap L s'.heap m) (hg : s'.gens = #[]) (hos : s'.os = s₁.os) :
    GoodW PySem.Challenge.rw_ai0032_01.row.claim cl mean args s₁ (.ok (.ret (.bool true))) s' := by
  refine goodW_bool F hg (raisesW_false ?_) ?_ hos
  · wrow_none_raised
  · wrow_post
theorem law_inv {i n0 : Nat} {x' : Str} {c' l' lb' b' k' tc tc' sd' : Int} {τ0 τ1 τ2 τ3 τ4 τ5 σ0 σ1 σ2 σ3 σ4 σ5 t1 t2 : Tok} (i1 : n0 ≤ 30 + 6 * i) (_ : 0 ≤ tc) (i9 : tc ≤ 20 + 12 * i) (d1 : x'.length ≤ n0 + 6) (d2 : 0 ≤ c') (d3 : c' ≤ l') (d4 : l' ≤ x'.length) (d5 : 0 ≤ lb')
    (d6 : -(1000 + 1000 * (i : Int) + 1000) ≤ b' ∧ b' ≤ 1000 + 1000 * (i : Int) + 1000) (d7 : -(1000 + 1000 * (i : Int) + 1000) ≤ k' ∧ k' ≤ 1000 + 1000 * (i : Int) + 1000) (d8 : 0 ≤ tc') (d9 : tc' ≤ tc + 12) (d10 : 0 ≤ sd') (d11 : sd' < 2147483647) :
    LawInv (i + 1) ⟨x', c', l', lb', b', k', tc', sd', τ0, τ1, τ2, τ3, τ4, τ5, σ0, σ1, σ2, σ3, σ4, σ5, t1, t2⟩ := by
 exact Mine.quiet _ (type_of% (Mine.aside (by
  unfold LawInv
  dsimp only
  refine ⟨by k_extra "my num", by k_extra "my num", by k_extra "my num", by k_extra "my num", by k_extra "my num", ⟨by k_extra "my num", by k_extra "my num"⟩, ⟨by k_extra "my num", by k_extra "my num"⟩, by k_extra "my num", by k_extra "my num", by k_extra "my num", by k_extra "my num"⟩
 ) (by exact Nat) _))
set_option maxHeartbeats 10000000 in
theorem law_holds.tw10007947361888340627 : True := trivial
theorem law_holds.tw10024239376800412576 : True := trivial
theorem law_holds.tw10028117763298573888 : True := trivial
theorem law_holds.tw10242277825702978295 : True := trivial
theorem law_holds.tw10264638600885302300 : True := trivial
theorem law_holds.tw10296202853966499060 : True := trivial
theorem law_holds.tw1035469204868569938 : True := trivial
theorem law_holds.tw10368410895845634921 : True := trivial
theorem law_holds.tw10442559174759676424 : True := trivial
theorem law_holds.tw10465528174321978529 : True := trivial
theorem law_holds.tw10566571302883470556 : True := trivial
theorem law_holds.tw10666784280354678857 : True := trivial
theorem law_holds.tw10812634152524527747 : True := trivial
theorem law_holds.tw10817052189556005596 : True := trivial
theorem law_holds.tw10876394233666535175 : True := trivial
theorem law_holds.tw10958410103948607464 : True := trivial
theorem law_holds.tw10968802771074238664 : True := trivial
theorem law_holds.tw11017292853192552079 : True := trivial
theorem law_holds.tw11097158420108258118 : True := trivial
theorem law_holds.tw11098625913536864229 : True := trivial
theorem law_holds.tw11100686419730198450 : True := trivial
theorem law_holds.tw11126432536435168541 : True := trivial
theorem law_holds.tw11133525997344109421 : True := trivial
theorem law_holds.tw11182679623053108816 : True := trivial
theorem law_holds.tw11223184984439025696 : True := trivial
theorem law_holds.tw11289095316329951393 : True := trivial
theorem law_holds.tw11347954631545130290 : True := trivial
theorem law_holds.tw11470271118054631628 : True := trivial
theorem law_holds.tw11544315989524547432 : True := trivial
theorem law_holds.tw11609493526922420660 : True := trivial
theorem law_holds.tw11625900857008200698 : True := trivial
theorem law_holds.tw11633083819707477107 : True := trivial
theorem law_holds.tw11690447701083486646 : True := trivial
theorem law_holds.tw11764581739189218997 : True := trivial
theorem law_holds.tw11781800970755023335 : True := trivial
theorem law_holds.tw11803358882649189518 : True := trivial
theorem law_holds.tw11846676642670509255 : True := trivial
theorem law_holds.tw11881114122080957857 : True := trivial
theorem law_holds.tw11924911360389889469 : True := trivial
theorem law_holds.tw11966672015165255308 : True := trivial
theorem law_holds.tw12115171985352901274 : True := trivial
theorem law_holds.tw12116493165278983582 : True := trivial
theorem law_holds.tw12134408205421670959 : True := trivial
theorem law_holds.tw12223724995276690173 : True := trivial
theorem law_holds.tw12296726922439171297 : True := trivial
theorem law_holds.tw123295346585929383 : True := trivial
theorem law_holds.tw12342728606916771844 : True := trivial
theorem law_holds.tw12419048959643632839 : True := trivial
theorem law_holds.tw12456547296908542839 : True := trivial
theorem law_holds.tw12459966957829302596 : True := trivial
theorem law_holds.tw12622292602297523153 : True := trivial
theorem law_holds.tw12732824653754844360 : True := trivial
theorem law_holds.tw12780804625047726367 : True := trivial
theorem law_holds.tw12831907817818079685 : True := trivial
theorem law_holds.tw12835091436910803158 : True := trivial
theorem law_holds.tw1285599515219305098 : True := trivial
theorem law_holds.tw12889673554181485818 : True := trivial
theorem law_holds.tw13028658284911697911 : True := trivial
theorem law_holds.tw13182730311906835528 : True := trivial
theorem law_holds.tw13220211186989608806 : True := trivial
theorem law_holds.tw13250372474279835810 : True := trivial
theorem law_holds.tw13301187468288870568 : True := trivial
theorem law_holds.tw13392613628428298086 : True := trivial
theorem law_holds.tw13397297893571687751 : True := trivial
theorem law_holds.tw13402424001964919149 : True := trivial
theorem law_holds.tw1341266762083198811 : True := trivial
theorem law_holds.tw13431030151845061361 : True := trivial
theorem law_holds.tw13478230802861573701 : True := trivial
theorem law_holds.tw13536078969547264968 : True := trivial
theorem law_holds.tw13650905803964671038 : True := trivial
theorem law_holds.tw13709617746848070560 : True := trivial
theorem law_holds.tw13766487248619392586 : True := trivial
theorem law_holds.tw1377309892636839040 : True := trivial
theorem law_holds.tw13780023080261437657 : True := trivial
theorem law_holds.tw13800757232730249582 : True := trivial
theorem law_holds.tw1385162719727133579 : True := trivial
theorem law_holds.tw13882729330811710610 : True := trivial
theorem law_holds.tw13956741780833797525 : True := trivial
theorem law_holds.tw13958071646730322851 : True := trivial
theorem law_holds.tw14051398506283589457 : True := trivial
theorem law_holds.tw1414043511812021011 : True := trivial
theorem law_holds.tw14160533322030094474 : True := trivial
theorem law_holds.tw14289194402921355359 : True := trivial
theorem law_holds.tw14326059299131336239 : True := trivial
theorem law_holds.tw14335913921861858828 : True := trivial
theorem law_holds.tw14377833709258309704 : True := trivial
theorem law_holds.tw14385925486924208373 : True := trivial
theorem law_holds.tw14390095281932903014 : True := trivial
theorem law_holds.tw14497384708736915567 : True := trivial
theorem law_holds.tw14498155544194170393 : True := trivial
theorem law_holds.tw14545874151571354728 : True := trivial
theorem law_holds.tw14596297492920191028 : True := trivial
theorem law_holds.tw14600385303177986140 : True := trivial
theorem law_holds.tw14774650325386425613 : True := trivial
theorem law_holds.tw14822640431511872941 : True := trivial
theorem law_holds.tw14828999820898988419 : True := trivial
theorem law_holds.tw14851107761317329982 : True := trivial
theorem law_holds.tw14872900085578418628 : True := trivial
theorem law_holds.tw14883556706271630602 : True := trivial
theorem law_holds.tw14892801356780361778 : True := trivial
theorem law_holds.tw14904137174637212347 : True := trivial
theorem law_holds.tw14925382992726071281 : True := trivial
theorem law_holds.tw14983226153234331074 : True := trivial
theorem law_holds.tw14988988175077273356 : True := trivial
theorem law_holds.tw14991590004735058009 : True := trivial
theorem law_holds.tw14997073306097389879 : True := trivial
theorem law_holds.tw15014403891855920072 : True := trivial
theorem law_holds.tw15150646450996357022 : True := trivial
theorem law_holds.tw15154110283740273250 : True := trivial
theorem law_holds.tw15191720212996534143 : True := trivial
theorem law_holds.tw15274831704391544125 : True := trivial
theorem law_holds.tw15448297888555860652 : True := trivial
theorem law_holds.tw15452448965706171373 : True := trivial
theorem law_holds.tw15527639110640922598 : True := trivial
theorem law_holds.tw15544829507116839252 : True := trivial
theorem law_holds.tw15609566024721092083 : True := trivial
theorem law_holds.tw15617896438947887921 : True := trivial
theorem law_holds.tw15694993059591697976 : True := trivial
theorem law_holds.tw15732109348078318572 : True := trivial
theorem law_holds.tw15802469936163623734 : True := trivial
theorem law_holds.tw15829985883664642994 : True := trivial
theorem law_holds.tw15883345262158282383 : True := trivial
theorem law_holds.tw16098122237329998606 : True := trivial
theorem law_holds.tw16099233806120587224 : True := trivial
theorem law_holds.tw16106779387088534511 : True := trivial
theorem law_holds.tw1622690429015379626 : True := trivial
theorem law_holds.tw16273140198857503625 : True := trivial
theorem law_holds.tw16381176275627223697 : True := trivial
theorem law_holds.tw16406091861079842607 : True := trivial
theorem law_holds.tw16470317323979864763 : True := trivial
theorem law_holds.tw16563099163409725306 : True := trivial
theorem law_holds.tw16614716721108272449 : True := trivial
theorem law_holds.tw1670043908289496885 : True := trivial
theorem law_holds.tw16720094985154256693 : True := trivial
theorem law_holds.tw16805829885119392726 : True := trivial
theorem law_holds.tw16836969012518115619 : True := trivial
theorem law_holds.tw1685627985566243432 : True := trivial
theorem law_holds.tw16883458599210261866 : True := trivial
theorem law_holds.tw16893121556090616931 : True := trivial
theorem law_holds.tw1689763614830377041 : True := trivial
theorem law_holds.tw16947615914383616782 : True := trivial
theorem law_holds.tw17027635718292003107 : True := trivial
theorem law_holds.tw17180001009569633970 : True := trivial
theorem law_holds.tw17237755526102222789 : True := trivial
theorem law_holds.tw1724926542741425601 : True := trivial
theorem law_holds.tw17253691774821329096 : True := trivial
theorem law_holds.tw17255088995462705879 : True := trivial
theorem law_holds.tw17499823404086765753 : True := trivial
theorem law_holds.tw1762888911704233025 : True := trivial
theorem law_holds.tw1767730674963353768 : True := trivial
theorem law_holds.tw17713402740875732926 : True := trivial
theorem law_holds.tw17865009358878524859 : True := trivial
theorem law_holds.tw1791086108937442324 : True := trivial
theorem law_holds.tw17911580528928914924 : True := trivial
theorem law_holds.tw17942709131360195518 : True := trivial
theorem law_holds.tw179590077315354965 : True := trivial
theorem law_holds.tw17974257514489008736 : True := trivial
theorem law_holds.tw17993387198741990920 : True := trivial
theorem law_holds.tw18006792725990754497 : True := trivial
theorem law_holds.tw18051462586156191917 : True := trivial
theorem law_holds.tw1819975233463548508 : True := trivial
theorem law_holds.tw18203989763732354715 : True := trivial
theorem law_holds.tw18234560199702728603 : True := trivial
theorem law_holds.tw18261290160731607033 : True := trivial
theorem law_holds.tw18269650602155537469 : True := trivial
theorem law_holds.tw18326849912455186884 : True := trivial
theorem law_holds.tw18388893480867403737 : True := trivial
theorem law_holds.tw18430954121086234272 : True := trivial
theorem law_holds.tw1905533677188600702 : True := trivial
theorem law_holds.tw1909877003179415225 : True := trivial
theorem law_holds.tw1928719863018725356 : True := trivial
theorem law_holds.tw1964151592259241686 : True := trivial
theorem law_holds.tw1973129929022764952 : True := trivial
theorem law_holds.tw1989176631692091739 : True := trivial
theorem law_holds.tw2006301483956418059 : True := trivial
theorem law_holds.tw2043166853727251185 : True := trivial
theorem law_holds.tw2102315897755806987 : True := trivial
theorem law_holds.tw2124134355350193313 : True := trivial
theorem law_holds.tw2136269947727277649 : True := trivial
theorem law_holds.tw2139172203440323022 : True := trivial
theorem law_holds.tw2143268655074302082 : True := trivial
theorem law_holds.tw2269544990204364226 : True := trivial
theorem law_holds.tw2295933128562542503 : True := trivial
theorem law_holds.tw2322801206320994539 : True := trivial
theorem law_holds.tw2387193687640843687 : True := trivial
theorem law_holds.tw2446358144275080391 : True := trivial
theorem law_holds.tw2503670479209048990 : True := trivial
theorem law_holds.tw2558664710541493025 : True := trivial
theorem law_holds.tw2578278018795888234 : True := trivial
theorem law_holds.tw2643271747718453845 : True := trivial
theorem law_holds.tw2842810181116790245 : True := trivial
theorem law_holds.tw2856731137302751260 : True := trivial
theorem law_holds.tw2907507879108658156 : True := trivial
theorem law_holds.tw3005452535816212104 : True := trivial
theorem law_holds.tw3035144380315620824 : True := trivial
theorem law_holds.tw3049941959672503198 : True := trivial
theorem law_holds.tw3158129796062787159 : True := trivial
theorem law_holds.tw3186734533307500241 : True := trivial
theorem law_holds.tw3253568177066640346 : True := trivial
theorem law_holds.tw3426384778480675251 : True := trivial
theorem law_holds.tw3438298445031660282 : True := trivial
theorem law_holds.tw3494445600050047599 : True := trivial
theorem law_holds.tw3682559726232862161 : True := trivial
theorem law_holds.tw3742325753681652743 : True := trivial
theorem law_holds.tw3756308257209627903 : True := trivial
theorem law_holds.tw3756957479349018193 : True := trivial
theorem law_holds.tw3850334171643177529 : True := trivial
theorem law_holds.tw3850375180904979519 : True := trivial
theorem law_holds.tw3850404396616230974 : True := trivial
theorem law_holds.tw3912811242725288453 : True := trivial
theorem law_holds.tw3943428198234077543 : True := trivial
theorem law_holds.tw3956099054510807996 : True := trivial
theorem law_holds.tw4030767218360268280 : True := trivial
theorem law_holds.tw4072507727158212662 : True := trivial
theorem law_holds.tw4116831888350618822 : True := trivial
theorem law_holds.tw4146061822495498468 : True := trivial
theorem law_holds.tw4273555757443719353 : True := trivial
theorem law_holds.tw4323815956820902445 : True := trivial
theorem law_holds.tw4370086069003782432 : True := trivial
theorem law_holds.tw4439653461905209652 : True := trivial
theorem law_holds.tw4441770287765753910 : True := trivial
theorem law_holds.tw4464252984393422682 : True := trivial
theorem law_holds.tw447027507633508388 : True := trivial
theorem law_holds.tw4515466672771955728 : True := trivial
theorem law_holds.tw4524032621918665186 : True := trivial
theorem law_holds.tw455179833554555240 : True := trivial
theorem law_holds.tw4581845663705801772 : True := trivial
theorem law_holds.tw4781243967656130014 : True := trivial
theorem law_holds.tw4818577856007422655 : True := trivial
theorem law_holds.tw4889031023730116350 : True := trivial
theorem law_holds.tw4916342969005030805 : True := trivial
theorem law_holds.tw498061464947678834 : True := trivial
theorem law_holds.tw4992725456586698614 : True := trivial
theorem law_holds.tw4995542688137877417 : True := trivial
theorem law_holds.tw5112083995522966620 : True := trivial
theorem law_holds.tw519298541982818421 : True := trivial
theorem law_holds.tw5212653520564569363 : True := trivial
theorem law_holds.tw5274592661964301406 : True := trivial
theorem law_holds.tw5364902710198789758 : True := trivial
theorem law_holds.tw5381048874775996528 : True := trivial
theorem law_holds.tw545109181885906688 : True := trivial
theorem law_holds.tw5506821171919863439 : True := trivial
theorem law_holds.tw5731563423909890137 : True := trivial
theorem law_holds.tw575232530192455986 : True := trivial
theorem law_holds.tw576407869801174206 : True := trivial
theorem law_holds.tw5769158387606399586 : True := trivial
theorem law_holds.tw5920216800500632969 : True := trivial
theorem law_holds.tw5993808929294524015 : True := trivial
theorem law_holds.tw602461330855297101 : True := trivial
theorem law_holds.tw607667584577438428 : True := trivial
theorem law_holds.tw6159533029260741167 : True := trivial
theorem law_holds.tw6265907326580845545 : True := trivial
theorem law_holds.tw6499956759230125245 : True := trivial
theorem law_holds.tw6507877686720480950 : True := trivial
theorem law_holds.tw653560878884961445 : True := trivial
theorem law_holds.tw6564709946809587534 : True := trivial
theorem law_holds.tw6667284449218939238 : True := trivial
theorem law_holds.tw6709271908398517637 : True := trivial
theorem law_holds.tw6723812968561706957 : True := trivial
theorem law_holds.tw676263390381983339 : True := trivial
theorem law_holds.tw6765152471904792315 : True := trivial
theorem law_holds.tw6776455111828631412 : True := trivial
theorem law_holds.tw6861490101519172755 : True := trivial
theorem law_holds.tw6881874429007886204 : True := trivial
theorem law_holds.tw6896717019858035522 : True := trivial
theorem law_holds.tw6911747868599837429 : True := trivial
theorem law_holds.tw6934448944433832347 : True := trivial
theorem law_holds.tw699380112222796084 : True := trivial
theorem law_holds.tw7019463264422422977 : True := trivial
theorem law_holds.tw7120836010843673076 : True := trivial
theorem law_holds.tw718173064312146323 : True := trivial
theorem law_holds.tw7185456241796803578 : True := trivial
theorem law_holds.tw7221428835167493151 : True := trivial
theorem law_holds.tw724200737284857819 : True := trivial
theorem law_holds.tw7288501770760464825 : True := trivial
theorem law_holds.tw7304591109411159013 : True := trivial
theorem law_holds.tw7356724547972884604 : True := trivial
theorem law_holds.tw7407239408455114201 : True := trivial
theorem law_holds.tw7408322871517469003 : True := trivial
theorem law_holds.tw745255978533919091 : True := trivial
theorem law_holds.tw7472407996622490835 : True := trivial
theorem law_holds.tw7495221243884187115 : True := trivial
theorem law_holds.tw7636989558263936852 : True := trivial
theorem law_holds.tw7658626208958061939 : True := trivial
theorem law_holds.tw7696488724909661519 : True := trivial
theorem law_holds.tw7769649832755249146 : True := trivial
theorem law_holds.tw7820799176418779761 : True := trivial
theorem law_holds.tw784011647948385275 : True := trivial
theorem law_holds.tw7910590604623066228 : True := trivial
theorem law_holds.tw8094923601093572598 : True := trivial
theorem law_holds.tw8176227357466254829 : True := trivial
theorem law_holds.tw8191475993861738794 : True := trivial
theorem law_holds.tw8249079356659094474 : True := trivial
theorem law_holds.tw8285764192309689115 : True := trivial
theorem law_holds.tw8330938851228082562 : True := trivial
theorem law_holds.tw8369274380968253667 : True := trivial
theorem law_holds.tw8417186165934385351 : True := trivial
theorem law_holds.tw8441880690091102137 : True := trivial
theorem law_holds.tw8472228645029834797 : True := trivial
theorem law_holds.tw8514742172934523775 : True := trivial
theorem law_holds.tw8553002610548859549 : True := trivial
theorem law_holds.tw8570087061310353148 : True := trivial
theorem law_holds.tw8634839017697508684 : True := trivial
theorem law_holds.tw8652346329174877282 : True := trivial
theorem law_holds.tw8666519363043736892 : True := trivial
theorem law_holds.tw8785698371604719795 : True := trivial
theorem law_holds.tw8835965917227929528 : True := trivial
theorem law_holds.tw8854015012368427407 : True := trivial
theorem law_holds.tw8857742495270377987 : True := trivial
theorem law_holds.tw8909828626151137519 : True := trivial
theorem law_holds.tw8957123355933967898 : True := trivial
theorem law_holds.tw8970147916757833333 : True := trivial
theorem law_holds.tw8984712037535005518 : True := trivial
theorem law_holds.tw9013377322688217293 : True := trivial
theorem law_holds.tw9069877914133315304 : True := trivial
theorem law_holds.tw907578622648922086 : True := trivial
theorem law_holds.tw9161685840351091408 : True := trivial
theorem law_holds.tw9168033884955339765 : True := trivial
theorem law_holds.tw9184033795430018204 : True := trivial
theorem law_holds.tw9207643191828677137 : True := trivial
theorem law_holds.tw926570990666696690 : True := trivial
theorem law_holds.tw9288214680346807717 : True := trivial
theorem law_holds.tw9423440377400516374 : True := trivial
theorem law_holds.tw9529696498207198238 : True := trivial
theorem law_holds.tw9552830710289189752 : True := trivial
theorem law_holds.tw9664006263252764366 : True := trivial
theorem law_holds.tw9682718004065560343 : True := trivial
theorem law_holds.tw9779807473162285230 : True := trivial
theorem law_holds.tw9849722394096787677 : True := trivial
theorem law_holds.tw9875236377963488844 : True := trivial
theorem law_holds.tw9889521400790421688 : True := trivial
theorem law_holds.tw9992725586745946429 : True := trivial
set_option Elab.async true in
theorem law_holds : PySem.Challenge.rw_ai0032_01.Holds := by
 exact Mine.quiet _ (type_of% (Mine.aside (by
  (w_on; o_law; o_head (kHook hd0.heap_1_1 [2, 3, 15, 17, 18, 20, 21, 29, 31, 32, 34, 35, 36, 38, 39, 41, 42, 43, 45, 46, 48, 49, 50, 52, 53, 55, 56, 57, 59, 60, 62, 63, 64, 66, 67, 69, 70, 71, 73, 74, 76, 77, 78, 80, 81, 83, 84, 85, 87, 88, 90, 91, 92, 94, 95, 97, 98, 99, 101, 102, 104, 105, 106, 108, 109, 111, 112, 113, 115, 116, 118, 119, 120, 122, 123, 125, 126, 127, 129, 130, 132, 133, 134, 136, 137, 139, 140, 141, 143, 144, 146, 147, 148, 150, 151, 153, 154, 155, 157, 158, 160, 161, 162, 164, 165, 167, 168, 169, 171, 172, 174, 175, 176, 178, 179, 181, 182, 183, 185, 186, 188, 189, 190, 192, 193, 195, 196, 197, 198, 199, 200, 201, 211, 213, 214, 216, 217, 218, 219, 220, 221, 222, 225, 226, 228, 229, 231, 232, 233, 234, 237, 238, 239, 241, 242, 244, 245, 246, 248, 249, 251, 252, 253, 255, 256, 258, 259, 260, 262, 263, 265, 266, 267, 270, 271, 272, 275, 276, 277, 279, 280, 282, 283, 284, 287, 288] (fun _ => by kernel_rfl)); (case hw => w_witness2))
  k_go0
  all_goals (try k_fold)
  (try (with_reducible rename Hook.says _ _ _ => hDrop; clear hDrop))
  (try (with_reducible rename TopE _ _ _ _ => hDrop; clear hDrop))
  (try (with_reducible rename TopW _ _ _ => hDrop; clear hDrop))
  (try (with_reducible rename Tables _ _ _ _ => hDrop; clear hDrop))
  (try (with_reducible rename Ground _ _ _ _ _ _ _ _ _ _ _ => hDrop; clear hDrop))
  repeat ((fail_if_success (with_reducible show wpAny _ _ (call (Value.ref 245) _) _ _ _)); k_extra "my onestep")
  with_reducible rename Shared => S1
  with_reducible rename News _ _ _ _ => N8
  with_reducible rename IntsAre ys _ => hIy
  obtain ⟨ns, hns, hI, hlen⟩ := tape_ns hIy
  rw [hns] at N8
  obtain ⟨sd, hsd, hs0, hs1⟩ := tape_sd ns
  rw [hsd] at N8
  obtain ⟨nu, rfl, N9⟩ := name4 N8
  clear hIy hns hsd N8
  have htn : TL ≠ nu := Nat.ne_of_gt lTL.1
  obtain ⟨tp, rfl⟩ : ∃ z, z = TL := ⟨_, rfl⟩
  k_extra "my upto2 CompSrc"
  with_reducible rename Obj => oc
  with_reducible rename oc.data = _ => dc
  with_reducible rename Fr _ _ _ _ => F8
  with_reducible rename News _ _ _ _ => N8
  refine LCg.CompSrc.range (by exact rfl) F8 N8 (by with_reducible assumption) (small_one (by k_extra "my num") (by k_extra "my num") (by k_extra "my num") (by k_extra "my num")) (rangeSize_nat _ _) (by rw [sizeLine_eq]; omega) ?_
  intro g9
  refine comp_inv (fun i vs nw => ∃ (c' sd' : Int) (t1' t2' : Tok) (zs : List Str), nw = [(tp, tapeO c' t1' nu sd' t2' 0), (nu, LCg.lst ys), (S1.heap.objs.size + 1, oc)] ∧
      0 ≤ c' ∧ c' ≤ 1 + i ∧ 0 ≤ sd' ∧ sd' < 2147483647 ∧ zs.length = i ∧ StrsAre vs zs ∧ ∀ z ∈ zs, z.length ≤ 3) ?_ ?_ ?_
  · exact ⟨_, _, _, _, [], rfl, by k_extra "my num", by k_extra "my num", by with_reducible assumption, by with_reducible assumption, rfl, .nil, fun z hz => nomatch hz⟩
  · rintro i v vs nw I oI C oC D m2 h2 tk2 E2 hi ⟨tv, rfl⟩ ⟨c3, sd3, t13, t23, zs, rfl, hc3, hc4, hs3, hs4, hzl, hS, hz⟩ hC hm2 F2 N2 off ⟨neIC, neID, neCD⟩
    have hc10 : c3 < 10000 := by clear off neIC neID neCD; omega
    have off0 := off
    (try k_fold)
    k_extra "my steps"
    refine LCg.CompEnd.intro (by k_asm) (by k_asm) (news' := [(tp, tapeO (c3 + 1) _ nu _ _ 0), (nu, LCg.lst ys), (S1.heap.objs.size + 1, oc)]) (by k_extra "my sub") off0 trivial ⟨_, _, _, _, zs ++ [_], rfl, by k_extra "my num", by k_extra "my num", by with_reducible assumption, by with_reducible assumption, by rw [List.length_append, hzl]; rfl, kct_snoc hS, ?_⟩
    intro z hz9
    rcases List.mem_append.mp hz9 with q | q
    · exact hz z q
    · rw [List.mem_singleton.mp q]; with_reducible assumption
  · rintro vs nw ⟨c3, sd3, t13, t23, zs, rfl, hc3, hc4, hs3, hs4, hzl, hS, hz⟩
    intro D h2 tk2 F2 N2 o1
    have hz1 : zs.length ≤ 10 := by k_extra "my num"
    have hc5 : c3 ≤ 11 := by k_extra "my num"
    clear hc4 hzl
    have hDt : (@Ne Nat tp D) := o1.1
    dsimp only
    repeat ((fail_if_success (with_reducible show wpAny _ _ (call (Value.builtin "str.join") _) _ _ _)); k_extra "my onestep")
    refine join_listW (News.isList N2 (.head _)) hS (by decide +kernel) (by have := sum_le zs hz; omega) ?_
    intro tw1 kw1
    have hwl := Nat.le_trans (join_le (sep := Str.ofString "") (by decide +kernel) zs hz) (Nat.mul_le_mul_left 3 hz1)
    rw [← txt_join] at hwl
    obtain ⟨wd, hwd, hwl2⟩ : ∃ wd, Txt.join (Str.ofString "") zs = wd ∧ wd.length ≤ 30 := ⟨_, rfl, hwl⟩
    rw [hwd]
    have N3 : News _ _ _ [(tp, tapeO c3 t13 nu sd3 t23 0), (nu, LCg.lst ys), (S1.heap.objs.size + 1, oc)] := fun p hp => N2 p (.tail _ hp)
    have lce : S1.heap.objs.size + 1 < tp := lTL.2.2
    have lnu : nu < tp := lTL.1
    have lnu2 : (@Ne Nat nu tp) := Nat.ne_of_lt lnu
    clear hwl hwd N2 hS hz o1 hDt lTL
    repeat' ((fail_if_success (with_reducible show wpAny _ _ (exec (Stmt.For _ _ _ _ _) _) _ _ _)); k_extra "my onestep")
    with_reducible rename News _ _ _ _ => N8
    with_reducible rename Fr _ _ _ _ => F8
    obtain ⟨mx, dx, H, KT, rfl, rfl, N9⟩ := name_law N8
    obtain ⟨tw, rfl⟩ : ∃ z, z = TL := ⟨_, rfl⟩
    have hne : ((@Ne Nat tp mx) ∧ (@Ne Nat tp dx) ∧ (@Ne Nat tp tw) ∧ (@Ne Nat mx dx) ∧ (@Ne Nat mx tw) ∧ (@Ne Nat dx tw) ∧ (@Ne Nat nu dx) ∧ (@Ne Nat nu tw)) ∧ (@Ne Nat (S1.heap.objs.size + 1) tp) ∧ (@Ne Nat (S1.heap.objs.size + 1) dx) ∧ (@Ne Nat (S1.heap.objs.size + 1) tw) ∧ (@Ne Nat (S1.heap.objs.size + 1) mx) := by
      first
        | (with_reducible rename dx < mx => hdm; with_reducible rename tp < dx ∧ _ => htd9; with_reducible rename _ < tw ∧ mx < tw ∧ _ => htw9
           obtain ⟨_, w1, w2, w3, w4, w5⟩ := htw9
           exact ⟨⟨Nat.ne_of_lt (Nat.lt_trans htd9.1 hdm), Nat.ne_of_lt htd9.1, Nat.ne_of_lt w3, Nat.ne_of_gt hdm, Nat.ne_of_lt w1, Nat.ne_of_lt w2, Nat.ne_of_lt htd9.2.1, Nat.ne_of_lt w4⟩, Nat.ne_of_lt lce, Nat.ne_of_lt htd9.2.2, Nat.ne_of_lt w5, Nat.ne_of_lt (Nat.lt_trans htd9.2.2 hdm)⟩)
        | (refine ⟨⟨?_, ?_, ?_, ?_, ?_, ?_, ?_, ?_⟩, ?_, ?_, ?_, ?_⟩ <;> omega)
    obtain ⟨⟨e1, e2, e3, e4, e5, e6, e7, e8⟩, e9, e10, e11, e12⟩ := hne
    clear N8
    refine wpAny_For ?_
    k_extra "my upto iter"
    with_reducible rename Fr _ _ _ _ => F8
    with_reducible rename News _ _ _ _ => N8
    with_reducible rename IsRange _ _ _ _ _ _ _ _ => hR8
    refine mr_range (σ := LawSt) (fun st => LawLed tp nu mx dx tw (S1.heap.objs.size + 1) oc ys H KT st) (fun _ => [(Str.ofString "machine", .ref mx), (Str.ofString "twin", .ref tw)]) LawInv
      ⟨wd, 0, wd.length, 0, 0, wd.length, _, _, _, _, _, _, _, _, _, _, _, _, _, _, _, _⟩ (by exact rfl) hR8 (small_one (by k_extra "my num") (by k_extra "my num") (by k_extra "my num") (by k_extra "my num")) (rangeSize_nat _ _) F8 N8 ?zk ?zp ?zt ?zd
    case zk => (k_extra "my kall")
    case zp =>
      unfold LawInv
      dsimp only
      refine ⟨by k_extra "my num", by k_extra "my num", by k_extra "my num", by k_extra "my num", by k_extra "my num", ⟨by k_extra "my num", by k_extra "my num"⟩, ⟨by k_extra "my num", by k_extra "my num"⟩, by k_extra "my num", by k_extra "my num", by k_extra "my num", by k_extra "my num"⟩
    case zt =>
      rintro i st u h6 tk6 tt I oI hi hst F6 N6 off6
      dsimp only [kstB] at F6
      dsimp only [LawLed] at N6 off6
      obtain ⟨i1, i2, i3, i4, i5, i6, i7, i8, i9, i10, i11⟩ := hst
      have o6 := fun p hp => off6 p hp
      simp only [List.forall_mem_cons] at off6
      repeat ((fail_if_success (with_reducible show wpAny _ _ (call (Value.ref 283) _) _ _ _)); k_extra "my onestep")
      have hi16 : i < 16 := by k_extra "my num"
      clear hi hR8
      with_reducible rename Fr _ _ _ _ => F7
      with_reducible rename News _ _ _ _ => N7
      have N5 : News _ _ _ ((tp, tapeO st.tc st.t1 nu st.sd st.t2 0) :: (nu, LCg.lst ys) :: (mx, instObj 199 dx) :: (dx, machD H KT st.x st.τ0 st.c st.τ1 st.l st.τ2 st.lb st.τ3 st.b st.τ4 st.k st.τ5) :: (tw, twinO st.x st.σ0 st.c st.σ1 st.l st.σ2 st.lb st.σ3 st.b st.σ4 st.k st.σ5 0) :: [(S1.heap.objs.size + 1, oc), (I, oI)]) := fun p hp => N7 p (by revert p; k_extra "my sub")
      k_dflt (refine' deed_spec (B0 := 1000 + 1000 * (i : Int)) (rest := [(S1.heap.objs.size + 1, oc), (I, oI)]) ?zB F7 ?zX N5 ?zT (by exact rfl) hI hlen ?zc0 ?zc1 ?zs0 ?zs1 htn e1 e2 e3 e4 e5 e6 e7 e8 ?zr0 ?zr1 ?zr2 ?zx i2 i3 i4 i5 ?zBB i6 i7 ?zdp ?zun ?_; (case zB => k_asm); (case zX => k_asm); (case zT => k_asm); (case zc0 => omega); (case zc1 => omega); (case zs0 => omega); (case zs1 => omega); (case zx => omega); (case zBB => omega); (case zdp => (k_extra "my room")); (case zun => (k_extra "my units")); k_whole)
      case zr0 => exact List.forall_mem_cons.mpr ⟨e9, List.forall_mem_cons.mpr ⟨Ne.symm off6.1, List.forall_mem_nil _⟩⟩
      case zr1 => exact List.forall_mem_cons.mpr ⟨e10, List.forall_mem_cons.mpr ⟨Ne.symm off6.2.2.2.1, List.forall_mem_nil _⟩⟩
      case zr2 => exact List.forall_mem_cons.mpr ⟨e11, List.forall_mem_cons.mpr ⟨Ne.symm off6.2.2.2.2.1, List.forall_mem_nil _⟩⟩
      intro x' c' l' lb' b' k' tc' sd' τ0 τ1 τ2 τ3 τ4 τ5 σ0 σ1 σ2 σ3 σ4 σ5 t1 t2 h9 tk9 F9 N9 d1 d2 d3 d4 d5 d6 d7 d8 d9 d10 d11
      clear N7 N5 F7
      (try dsimp only)
      k_extra "my steps"
      refine mr_end ⟨x', c', l', lb', b', k', tc', sd', _, _, _, _, _, _, _, _, _, _, _, _, _, _⟩ (by k_asm) (by k_asm) (by k_mem) (by dsimp only [LawLed]; k_extra "my sub") ?_ (by (k_extra "my kall")) ?_
      · dsimp only [LawLed]
        exact List.forall_mem_cons.mpr ⟨off6.1, List.forall_mem_cons.mpr ⟨off6.2.1, List.forall_mem_cons.mpr ⟨off6.2.2.1, List.forall_mem_cons.mpr ⟨off6.2.2.2.1, List.forall_mem_cons.mpr ⟨off6.2.2.2.2.1, List.forall_mem_cons.mpr ⟨off6.2.2.2.2.2.1, List.forall_mem_nil _⟩⟩⟩⟩⟩⟩
      · exact law_inv i1 i8 i9 d1 d2 d3 d4 d5 d6 d7 d8 d9 d10 d11
    case zd =>
      rintro st u h6 tk6 hst F6 N6
      (try clear hst); (try clear e1 e2 e3 e4 e5 e6 e7 e8 e9 e10 e11 e12); (try clear lce lnu lnu2); (try clear htn); (try clear hwl2); (try clear hc3 hc5 hs3 hs4 hz1 hs0 hs1)
      dsimp only [kstB] at F6
      dsimp only [LawLed] at N6
      (try dsimp only)
      repeat' ((fail_if_success w_end); k_extra "my onestep")
      refine' law_end ?zF9 ?zg9 ?zo9
      case zF9 => with_reducible assumption
      case zg9 => with_reducible assumption
      case zo9 => rfl
 ) (by exact Nat) _))
end Mine
theorem PySem.Challenge.cw_ai0032_01_holds : PySem.Challenge.rw_ai0032_01.Holds :=
  Mine.law_holds
